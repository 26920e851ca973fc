/-
  The kit's closures of library functions at this program: what they ask for is so. Conditions: none.
-/
import Derived.Shelf.Strings.SplitShaped
import Derived.Shelf.Strings.Count
import Derived.Shelf.Strings.OnBuilder
import Derived.Shelf.Strconv.Itoa0
import Derived.Shelf.Strconv.Itoa1
import Derived.Shelf.Strconv.Itoa2
import Derived.Shelf.Pu.ParseUintPublic10
import Derived.Test.YtgkedgpgfmibhaaDoorProg
import Derived.Test.YtgkedgpgfmibhaaDoorK3
import Derived.Test.YtgkedgpgfmibhaaDoorT3
import Derived.Test.YtgkedgpgfmibhaaDoorT2
set_option linter.unusedVariables false
set_option maxRecDepth 100000
namespace Go.Proofs.YtgkedgpgfmibhaaDoorA
def renLibS : Go.Shelf.Ren := ⟨fun n => match n with | 129 => 68 | 138 => 25 | 143 => 37 | 146 => 26 | 156 => 29 | 165 => 42 | 166 => 43 | 169 => 44 | 195 => 35 | 197 => 63 | 217 => 59 | 218 => 36 | 219 => 45 | 221 => 38 | 224 => 61 | 225 => 60 | 240 => 57 | 241 => 58 | 260 => 76 | 266 => 74 | 267 => 62 | 268 => 46 | 276 => 72 | 277 => 73 | 283 => 53 | 284 => 54 | 285 => 55 | 314 => 75 | 317 => 67 | 318 => 69 | n => n, fun n => match n with | 0 => 0 | 3 => 3 | 4 => 4 | 5 => 5 | 9 => 9 | 20 => 20 | 21 => 21 | 31 => 50 | 37 => 24 | 46 => 75 | 51 => 41 | 53 => 45 | 70 => 68 | 72 => 70 | 75 => 53 | 76 => 72 | 80 => 74 | 105 => 91 | 119 => 111 | 127 => 89 | 138 => 113 | 139 => 114 | 146 => 105 | 164 => 102 | 212 => 98 | n => n, fun n => match n with | 1 => 0 | 3 => 4 | 4 => 5 | 17 => 3 | n => n⟩
theorem layS146 (hm : Tryd.prog.follows .mixedOrders = true) : Lays.n146 Tryd.prog renLibS where
  mixed := hm
  f138 := by kernel_rfl
  f143 := by kernel_rfl
  f146 := by kernel_rfl
  f195 := by kernel_rfl
  f197 := by kernel_rfl
  f217 := by kernel_rfl
  f218 := by kernel_rfl
  f219 := by kernel_rfl
  f221 := by kernel_rfl
  f224 := by kernel_rfl
  f225 := by kernel_rfl
  f260 := by kernel_rfl
  f266 := by kernel_rfl
  f267 := by kernel_rfl
  f268 := by kernel_rfl
  f314 := by kernel_rfl
  t0 := Tryd.underlying0
  a0 := fun w => by kernel_rfl
  z0 := fun w => by kernel_rfl
  v0 := fun w => by kernel_rfl
  t3 := Tryd.underlying3
  a3 := fun w => by kernel_rfl
  z3 := fun w => by kernel_rfl
  v3 := fun w => by kernel_rfl
  t4 := Tryd.underlying4
  a4 := fun w => by kernel_rfl
  z4 := fun w => by kernel_rfl
  v4 := fun w => by kernel_rfl
  t5 := Tryd.underlying5
  a5 := fun w => by kernel_rfl
  z5 := fun w => by kernel_rfl
  v5 := fun w => by kernel_rfl
  t9 := Tryd.underlying9
  a9 := fun w => by kernel_rfl
  z9 := fun w => by kernel_rfl
  v9 := fun w => by kernel_rfl
  t21 := Tryd.underlying21
  a21 := fun w => by kernel_rfl
  z21 := fun w => by kernel_rfl
  v21 := fun w => by kernel_rfl
  t31 := Tryd.underlying50
  a31 := fun w => by kernel_rfl
  z31 := fun w => by kernel_rfl
  v31 := fun w => by kernel_rfl
  t46 := Tryd.underlying75
  a46 := fun w => by kernel_rfl
  z46 := fun w => by kernel_rfl
  v46 := fun w => by kernel_rfl
  t51 := Tryd.underlying41
  a51 := fun w => by kernel_rfl
  z51 := fun w => by kernel_rfl
  v51 := fun w => by kernel_rfl
  t105 := Tryd.underlying91
  a105 := fun w => by kernel_rfl
  z105 := fun w => by kernel_rfl
  v105 := fun w => by kernel_rfl
  t119 := Tryd.underlying111
  a119 := fun w => by kernel_rfl
  z119 := fun w => by kernel_rfl
  t138 := Tryd.underlying113
  a138 := fun w => by kernel_rfl
  z138 := fun w => by kernel_rfl
  v138 := fun w => by kernel_rfl
  t139 := Tryd.underlying114
  a139 := fun w => by kernel_rfl
  z139 := fun w => by kernel_rfl
  v139 := fun w => by kernel_rfl
  t146 := Tryd.underlying105
  a146 := fun w => by kernel_rfl
  z146 := fun w => by kernel_rfl
  v146 := fun w => by kernel_rfl
  g1 := by kernel_rfl
  g3 := by kernel_rfl
  g4 := by kernel_rfl
theorem layS138 (hm : Tryd.prog.follows .mixedOrders = true) : Lays.n138 Tryd.prog renLibS where
  mixed := hm
  f138 := by kernel_rfl
  f143 := by kernel_rfl
  f195 := by kernel_rfl
  f217 := by kernel_rfl
  f218 := by kernel_rfl
  f219 := by kernel_rfl
  f224 := by kernel_rfl
  f225 := by kernel_rfl
  f266 := by kernel_rfl
  f267 := by kernel_rfl
  f314 := by kernel_rfl
  t0 := Tryd.underlying0
  a0 := fun w => by kernel_rfl
  z0 := fun w => by kernel_rfl
  v0 := fun w => by kernel_rfl
  t3 := Tryd.underlying3
  a3 := fun w => by kernel_rfl
  z3 := fun w => by kernel_rfl
  v3 := fun w => by kernel_rfl
  t4 := Tryd.underlying4
  a4 := fun w => by kernel_rfl
  z4 := fun w => by kernel_rfl
  v4 := fun w => by kernel_rfl
  t5 := Tryd.underlying5
  a5 := fun w => by kernel_rfl
  z5 := fun w => by kernel_rfl
  v5 := fun w => by kernel_rfl
  t9 := Tryd.underlying9
  a9 := fun w => by kernel_rfl
  z9 := fun w => by kernel_rfl
  v9 := fun w => by kernel_rfl
  t46 := Tryd.underlying75
  a46 := fun w => by kernel_rfl
  z46 := fun w => by kernel_rfl
  v46 := fun w => by kernel_rfl
  t51 := Tryd.underlying41
  a51 := fun w => by kernel_rfl
  z51 := fun w => by kernel_rfl
  v51 := fun w => by kernel_rfl
  t146 := Tryd.underlying105
  a146 := fun w => by kernel_rfl
  z146 := fun w => by kernel_rfl
  v146 := fun w => by kernel_rfl
  g1 := by kernel_rfl
theorem layS156 (hm : Tryd.prog.follows .mixedOrders = true) : Lays.n156 Tryd.prog renLibS where
  mixed := hm
  f156 := by kernel_rfl
  f165 := by kernel_rfl
  f166 := by kernel_rfl
  f169 := by kernel_rfl
  f240 := by kernel_rfl
  f241 := by kernel_rfl
  f276 := by kernel_rfl
  f277 := by kernel_rfl
  t0 := Tryd.underlying0
  a0 := fun w => by kernel_rfl
  z0 := fun w => by kernel_rfl
  v0 := fun w => by kernel_rfl
  t3 := Tryd.underlying3
  a3 := fun w => by kernel_rfl
  z3 := fun w => by kernel_rfl
  v3 := fun w => by kernel_rfl
  t4 := Tryd.underlying4
  a4 := fun w => by kernel_rfl
  z4 := fun w => by kernel_rfl
  v4 := fun w => by kernel_rfl
  t9 := Tryd.underlying9
  a9 := fun w => by kernel_rfl
  z9 := fun w => by kernel_rfl
  v9 := fun w => by kernel_rfl
  t20 := Tryd.underlying20
  a20 := fun w => by kernel_rfl
  z20 := fun w => by kernel_rfl
  v20 := fun w => by kernel_rfl
  t31 := Tryd.underlying50
  a31 := fun w => by kernel_rfl
  z31 := fun w => by kernel_rfl
  v31 := fun w => by kernel_rfl
  t37 := Tryd.underlying24
  a37 := fun w => by kernel_rfl
  z37 := fun w => by kernel_rfl
  v37 := fun w => by kernel_rfl
  t70 := Tryd.underlying68
  a70 := fun w => by kernel_rfl
  z70 := fun w => by kernel_rfl
  v70 := fun w => by kernel_rfl
  t72 := Tryd.underlying70
  a72 := fun w => by kernel_rfl
  z72 := fun w => by kernel_rfl
  v72 := fun w => by kernel_rfl
  t75 := Tryd.underlying53
  a75 := fun w => by kernel_rfl
  z75 := fun w => by kernel_rfl
  v75 := fun w => by kernel_rfl
  t76 := Tryd.underlying72
  a76 := fun w => by kernel_rfl
  z76 := fun w => by kernel_rfl
  v76 := fun w => by kernel_rfl
  t127 := Tryd.underlying89
  a127 := fun w => by kernel_rfl
  z127 := fun w => by kernel_rfl
  v127 := fun w => by kernel_rfl
  t164 := Tryd.underlying102
  a164 := fun w => by kernel_rfl
  z164 := fun w => by kernel_rfl
  v164 := fun w => by kernel_rfl
theorem layS129 (hm : Tryd.prog.follows .mixedOrders = true) : Lays.n129 Tryd.prog renLibS where
  mixed := hm
  f129 := by kernel_rfl
  t3 := Tryd.underlying3
  a3 := fun w => by kernel_rfl
  z3 := fun w => by kernel_rfl
  v3 := fun w => by kernel_rfl
  t4 := Tryd.underlying4
  a4 := fun w => by kernel_rfl
  z4 := fun w => by kernel_rfl
  v4 := fun w => by kernel_rfl
  t5 := Tryd.underlying5
  a5 := fun w => by kernel_rfl
  z5 := fun w => by kernel_rfl
  v5 := fun w => by kernel_rfl
  t9 := Tryd.underlying9
  a9 := fun w => by kernel_rfl
  z9 := fun w => by kernel_rfl
  v9 := fun w => by kernel_rfl
  t46 := Tryd.underlying75
  a46 := fun w => by kernel_rfl
  z46 := fun w => by kernel_rfl
  v46 := fun w => by kernel_rfl
  t53 := Tryd.underlying45
  a53 := fun w => by kernel_rfl
  z53 := fun w => by kernel_rfl
  v53 := fun w => by kernel_rfl
theorem layS285 (hm : Tryd.prog.follows .mixedOrders = true) : Lays.n285 Tryd.prog renLibS where
  mixed := hm
  f285 := by kernel_rfl
  t0 := Tryd.underlying0
  a0 := fun w => by kernel_rfl
  z0 := fun w => by kernel_rfl
  v0 := fun w => by kernel_rfl
  t3 := Tryd.underlying3
  a3 := fun w => by kernel_rfl
  z3 := fun w => by kernel_rfl
  v3 := fun w => by kernel_rfl
  t4 := Tryd.underlying4
  a4 := fun w => by kernel_rfl
  z4 := fun w => by kernel_rfl
  v4 := fun w => by kernel_rfl
  t5 := Tryd.underlying5
  a5 := fun w => by kernel_rfl
  z5 := fun w => by kernel_rfl
  v5 := fun w => by kernel_rfl
  t9 := Tryd.underlying9
  a9 := fun w => by kernel_rfl
  z9 := fun w => by kernel_rfl
  v9 := fun w => by kernel_rfl
  t37 := Tryd.underlying24
  a37 := fun w => by kernel_rfl
  z37 := fun w => by kernel_rfl
  v37 := fun w => by kernel_rfl
  t51 := Tryd.underlying41
  a51 := fun w => by kernel_rfl
  z51 := fun w => by kernel_rfl
  v51 := fun w => by kernel_rfl
  t53 := Tryd.underlying45
  a53 := fun w => by kernel_rfl
  z53 := fun w => by kernel_rfl
  v53 := fun w => by kernel_rfl
theorem layS283 (hm : Tryd.prog.follows .mixedOrders = true) : Lays.n283 Tryd.prog renLibS where
  mixed := hm
  f283 := by kernel_rfl
  t3 := Tryd.underlying3
  a3 := fun w => by kernel_rfl
  z3 := fun w => by kernel_rfl
  v3 := fun w => by kernel_rfl
  t4 := Tryd.underlying4
  a4 := fun w => by kernel_rfl
  z4 := fun w => by kernel_rfl
  v4 := fun w => by kernel_rfl
  t9 := Tryd.underlying9
  a9 := fun w => by kernel_rfl
  z9 := fun w => by kernel_rfl
  v9 := fun w => by kernel_rfl
theorem layX72 : Builder.Extra Tryd.prog renLibS where
  sizeBuilder := by kernel_rfl
  liesBuilder := by kernel_rfl
  t5 := Tryd.underlying5
  a5 := fun w => by kernel_rfl
  z5 := fun w => by kernel_rfl
  v5 := fun w => by kernel_rfl
  infoByte := by kernel_rfl
  cellsByte := by kernel_rfl
  sizeByte := by kernel_rfl
  neB5 := by decide
def renLibP : Go.Shelf.Ren := ⟨fun n => match n with | 14 => 27 | 16 => 39 | 17 => 40 | 19 => 47 | 20 => 48 | 21 => 49 | 22 => 50 | 23 => 51 | 24 => 52 | 25 => 64 | 26 => 65 | 27 => 66 | 28 => 77 | 29 => 80 | 30 => 53 | 31 => 54 | 32 => 55 | 33 => 56 | 34 => 67 | 35 => 68 | 36 => 69 | 37 => 70 | 38 => 71 | 39 => 78 | 40 => 79 | n => n, fun n => match n with | 0 => 0 | 2 => 2 | 3 => 3 | 4 => 4 | 5 => 5 | 9 => 9 | 20 => 20 | 21 => 21 | 22 => 45 | 24 => 53 | 25 => 54 | 34 => 77 | 36 => 75 | 37 => 24 | 39 => 80 | 44 => 95 | 47 => 89 | 48 => 107 | 50 => 109 | 52 => 84 | 55 => 87 | 59 => 98 | 60 => 41 | 61 => 99 | 65 => 116 | 66 => 117 | 67 => 74 | n => n, fun n => match n with | 0 => 1 | 1 => 2 | 2 => 3 | 3 => 6 | 4 => 7 | n => n⟩
theorem layP14 (hm : Tryd.prog.follows .mixedOrders = true) : LaysPu.n14 Tryd.prog renLibP where
  mixed := hm
  f14 := by kernel_rfl
  f16 := by kernel_rfl
  f17 := by kernel_rfl
  f19 := by kernel_rfl
  f20 := by kernel_rfl
  f21 := by kernel_rfl
  f22 := by kernel_rfl
  f23 := by kernel_rfl
  f24 := by kernel_rfl
  f25 := by kernel_rfl
  f26 := by kernel_rfl
  f27 := by kernel_rfl
  f28 := by kernel_rfl
  f29 := by kernel_rfl
  f30 := by kernel_rfl
  f31 := by kernel_rfl
  f32 := by kernel_rfl
  f33 := by kernel_rfl
  f34 := by kernel_rfl
  f35 := by kernel_rfl
  f36 := by kernel_rfl
  f37 := by kernel_rfl
  f38 := by kernel_rfl
  f39 := by kernel_rfl
  f40 := by kernel_rfl
  t0 := Tryd.underlying0
  a0 := fun w => by kernel_rfl
  z0 := fun w => by kernel_rfl
  v0 := fun w => by kernel_rfl
  i0 := by kernel_rfl
  t2 := Tryd.underlying2
  a2 := fun w => by kernel_rfl
  z2 := fun w => by kernel_rfl
  v2 := fun w => by kernel_rfl
  i2 := by kernel_rfl
  t3 := Tryd.underlying3
  a3 := fun w => by kernel_rfl
  z3 := fun w => by kernel_rfl
  v3 := fun w => by kernel_rfl
  i3 := by kernel_rfl
  t4 := Tryd.underlying4
  a4 := fun w => by kernel_rfl
  z4 := fun w => by kernel_rfl
  v4 := fun w => by kernel_rfl
  i4 := by kernel_rfl
  t5 := Tryd.underlying5
  a5 := fun w => by kernel_rfl
  z5 := fun w => by kernel_rfl
  v5 := fun w => by kernel_rfl
  i5 := by kernel_rfl
  t9 := Tryd.underlying9
  a9 := fun w => by kernel_rfl
  z9 := fun w => by kernel_rfl
  v9 := fun w => by kernel_rfl
  i9 := by kernel_rfl
  t20 := Tryd.underlying20
  a20 := fun w => by kernel_rfl
  z20 := fun w => by kernel_rfl
  v20 := fun w => by kernel_rfl
  i20 := by kernel_rfl
  t21 := Tryd.underlying21
  a21 := fun w => by kernel_rfl
  z21 := fun w => by kernel_rfl
  v21 := fun w => by kernel_rfl
  i21 := by kernel_rfl
  t22 := Tryd.underlying45
  a22 := fun w => by kernel_rfl
  z22 := fun w => by kernel_rfl
  v22 := fun w => by kernel_rfl
  i22 := by kernel_rfl
  t24 := Tryd.underlying53
  a24 := fun w => by kernel_rfl
  z24 := fun w => by kernel_rfl
  v24 := fun w => by kernel_rfl
  i24 := by kernel_rfl
  t25 := Tryd.underlying54
  a25 := fun w => by kernel_rfl
  z25 := fun w => by kernel_rfl
  v25 := fun w => by kernel_rfl
  i25 := by kernel_rfl
  t34 := Tryd.underlying77
  a34 := fun w => by kernel_rfl
  z34 := fun w => by kernel_rfl
  v34 := fun w => by kernel_rfl
  i34 := by kernel_rfl
  c34 := by kernel_rfl
  t36 := Tryd.underlying75
  a36 := fun w => by kernel_rfl
  z36 := fun w => by kernel_rfl
  v36 := fun w => by kernel_rfl
  i36 := by kernel_rfl
  t37 := Tryd.underlying24
  a37 := fun w => by kernel_rfl
  z37 := fun w => by kernel_rfl
  v37 := fun w => by kernel_rfl
  i37 := by kernel_rfl
  t39 := Tryd.underlying80
  a39 := fun w => by kernel_rfl
  z39 := fun w => by kernel_rfl
  v39 := fun w => by kernel_rfl
  i39 := by kernel_rfl
  t44 := Tryd.underlying95
  a44 := fun w => by kernel_rfl
  z44 := fun w => by kernel_rfl
  v44 := fun w => by kernel_rfl
  i44 := by kernel_rfl
  t47 := Tryd.underlying89
  a47 := fun w => by kernel_rfl
  z47 := fun w => by kernel_rfl
  v47 := fun w => by kernel_rfl
  i47 := by kernel_rfl
  t48 := Tryd.underlying107
  a48 := fun w => by kernel_rfl
  z48 := fun w => by kernel_rfl
  v48 := fun w => by kernel_rfl
  i48 := by kernel_rfl
  t50 := Tryd.underlying109
  a50 := fun w => by kernel_rfl
  z50 := fun w => by kernel_rfl
  v50 := fun w => by kernel_rfl
  i50 := by kernel_rfl
  t52 := Tryd.underlying84
  a52 := fun w => by kernel_rfl
  z52 := fun w => by kernel_rfl
  v52 := fun w => by kernel_rfl
  i52 := by kernel_rfl
  t55 := Tryd.underlying87
  a55 := fun w => by kernel_rfl
  z55 := fun w => by kernel_rfl
  v55 := fun w => by kernel_rfl
  i55 := by kernel_rfl
  t59 := Tryd.underlying98
  a59 := fun w => by kernel_rfl
  z59 := fun w => by kernel_rfl
  v59 := fun w => by kernel_rfl
  i59 := by kernel_rfl
  t60 := Tryd.underlying41
  a60 := fun w => by kernel_rfl
  z60 := fun w => by kernel_rfl
  v60 := fun w => by kernel_rfl
  i60 := by kernel_rfl
  t61 := Tryd.underlying99
  a61 := fun w => by kernel_rfl
  z61 := fun w => by kernel_rfl
  t65 := Tryd.underlying116
  a65 := fun w => by kernel_rfl
  z65 := fun w => by kernel_rfl
  v65 := fun w => by kernel_rfl
  i65 := by kernel_rfl
  t66 := Tryd.underlying117
  a66 := fun w => by kernel_rfl
  z66 := fun w => by kernel_rfl
  v66 := fun w => by kernel_rfl
  i66 := by kernel_rfl
  t67 := Tryd.underlying74
  a67 := fun w => by kernel_rfl
  z67 := fun w => by kernel_rfl
  v67 := fun w => by kernel_rfl
  i67 := by kernel_rfl
  g0 := by kernel_rfl
  m0 := by kernel_rfl
  g1 := by kernel_rfl
  m1 := by kernel_rfl
  g2 := by kernel_rfl
  m2 := by kernel_rfl
  g3 := by kernel_rfl
  m3 := by kernel_rfl
  g4 := by kernel_rfl
  m4 := by kernel_rfl
end Go.Proofs.YtgkedgpgfmibhaaDoorA

set_option linter.unusedSimpArgs false
namespace Go.Proofs.YtgkedgpgfmibhaaDoorA
open IntWalk (i64_in u8_in u32_in u64_in i64_quo u8_quo rem_in)
open Go.RowKit Go.Shelf

theorem le64_spec {n : Int} (h : le64 n = true) : 0 ≤ n ∧ n ≤ 64 := by
  unfold le64 at h; rw [shut_eq] at h; exact of_decide_eq_true h
theorem nXLog (n : Int) (hp : le64 n = true) : gXLog n = some (.ret [.cl (.int .i64 (logL n))] []) := by
  have hn := le64_spec hp
  unfold gXLog logL
  rw [show IntKind.i64.wrap (n * 78913) = n * 78913 from i64_in _ (by omega), shut_eq]
  refine ret_int ?_
  exact Int.fdiv_eq_ediv_of_nonneg _ (by decide)
theorem nXBool2 (b : Bool) (hp : true = true) : gXBool2 b = some (.ret [.cl (.int .i64 (boolI b))] []) := by
  unfold gXBool2 boolI
  rw [shut_eq]
  cases b <;> rfl
theorem u64Pos_spec {n : Int} (h : u64Pos n = true) : 1 ≤ n ∧ n ≤ 18446744073709551615 := by
  unfold u64Pos at h; rw [shut_eq] at h; exact of_decide_eq_true h
theorem pow10_at : ∀ q : Fin 20, pow10L[q.val]? = some ((10 ^ q.val : Nat) : Int) := by decide
theorem nXDigits (n : Int) (hp : u64Pos n = true) : gXDigits n = some (.ret [.cl (.int .i64 (digN n))] []) := by
  have hn := u64Pos_spec hp
  obtain ⟨u, rfl⟩ : ∃ u : Nat, n = u := ⟨n.toNat, by omega⟩
  obtain ⟨h1, h2⟩ := Lib.numDigits_eq u (by omega) (by omega)
  have hL := Lib.bitLen_le u 64 (Nat.le_refl _) (by omega)
  have e1 : bitL (u : Int) = (Lib.bitLen u : Int) := by unfold bitL; rw [shut_eq]; rfl
  have e2 : logL (Lib.bitLen u : Int) = (Lib.l10 (Lib.bitLen u) : Int) := by unfold logL Lib.l10; rw [shut_eq]; omega
  unfold gXDigits
  refine b_pos (u64Ok_of (by omega)) ?_
  dsimp only
  rw [e1, e2]
  generalize Lib.l10 (Lib.bitLen u) = q at h1 h2
  refine b_pos (by unfold le64; rw [shut_eq]; exact decide_eq_true (by omega)) (c_pos (by omega) (c_pos (by omega) ?_))
  unfold pow10S
  rw [shut_eq, show (q : Int).toNat = q from rfl, pow10_at ⟨q, by omega⟩, Option.bind_some]
  refine ret_int ?_
  unfold boolI digN
  rw [shut_eq, shut_eq, show (u : Int).toNat = u from rfl, ← h1]
  by_cases hle : 10 ^ q ≤ u
  · rw [if_pos hle, decide_eq_true (show ((10 ^ q : Nat) : Int) ≤ u by omega)]
    exact (i64_in _ (by simp only [cond_true]; omega)).trans (by simp only [cond_true]; omega)
  · rw [if_neg hle, decide_eq_false (show ¬ ((10 ^ q : Nat) : Int) ≤ u by omega)]
    exact (i64_in _ (by simp only [cond_false]; omega)).trans (by simp only [cond_false]; omega)

/-! ### the kit's laws -/
abbrev MXo : Prop := Tryd.prog.follows .mixedOrders = true
abbrev OKo (g : FuncId) (p : List V → List Obj → Bool) (S : List V → List Obj → Tree) : Prop := Sound Tryd.prog glOid g (fun xs obs => cond (p xs obs) (S xs obs).eval none)
theorem kit_runs {g : FuncId} {fn : Func} {vs : Array Value} {w : World} {R : Ending → World → Prop} (hf : Tryd.prog.funcs[g]? = some fn) (hn : ¬ fn.name = "runtime.NumGoroutine") (hb : fn.body.isSome = true) (hc : Calls Tryd.prog g vs w R) : Runs Tryd.prog g vs w R := by
  obtain ⟨c, hc'⟩ := Option.isSome_iff_exists.1 hb
  exact .inl ⟨by simp [callFunc, hf, hn, hc'], hc⟩
theorem gam_none {B : Nat} {bl I0 : Nat → Prop} {w w' : World} {Im Im' : Nat → Prop} {ρ ρ' : Nat → Loc} (h : Gam B bl I0 w Im ρ []) (hs : w.heap.size ≤ w'.heap.size) (h1 : ∀ b, Im b → Im' b) (h2 : ∀ b, Im' b → Im b ∨ (B ≤ b ∧ b < w'.heap.size)) : Gam B bl I0 w' Im' ρ' [] :=
  ⟨fun b hb => (h2 b hb).elim (fun h' => Nat.lt_of_lt_of_le (h.im b h') hs) (·.2), fun b hb => h1 b (h.i0 b hb), fun p o hp => (by cases hp), fun p q o o' b x y x' y' hp => (by cases hp), fun p o b x y hp => (by cases hp), fun b hb => (h2 b hb).elim (h.imo b) fun h' => .inr (.inr h'.1)⟩
theorem ends_of {w w' : World} {Im Im' : Nat → Prop} {ρ : Nat → Loc} {bl : Nat → Prop} {glob : Nat → Option CV} {xs rs : List V} {vs us : List Value} {r : Value} (hp : Pre glob w Im ρ bl xs [] vs) (hB : Below w.heap.size w w') (h1 : ∀ b, Im b → Im' b) (h2 : ∀ b, Im' b → Im b ∨ (w.heap.size ≤ b ∧ b < w'.heap.size))
    (hr : r = wrap us) (hl : us.length = rs.length) (hv : ∀ (j : Nat) (c : V) (v : Value), rs[j]? = some c → us[j]? = some v → VRep w' Im' ρ (shOf []) c v) : Ends w Im ρ bl [] (.ret rs []) (.returned r) w' := by
  subst hr
  exact ⟨us, Im', ρ, rfl, ⟨⟨hB.os, hB.tape, hB.output, hB.size, fun b hb _ => hB.block b hb⟩, gam_none hp.gam hB.size h1 h2, fun j o o' hj => (by cases hj)⟩, hl, hv⟩
/-- a value alone comes back, that holds no memory -/
theorem ends_one {w w' : World} {Im : Nat → Prop} {ρ : Nat → Loc} {bl : Nat → Prop} {glob : Nat → Option CV} {xs : List V} {vs : List Value} {c : CV} {v : Value} (hp : Pre glob w Im ρ bl xs [] vs) (hB : Below w.heap.size w w') (hc : CRep w' Im c v) : Ends w Im ρ bl [] (.ret [.cl c] []) (.returned v) w' :=
  ends_of (us := [v]) hp hB (fun _ h => h) (fun _ h => .inl h) rfl rfl fun j c' v' hj hv => by
    match j, hj, hv with
    | 0, hj, hv => cases hj; cases hv; exact .cl _ _ hc
    | j + 1, hj, hv => simp at hj
theorem arg_int {w : World} {Im : Nat → Prop} {ρ : Nat → Loc} {S : Nat → Option Sh} {k : IntKind} {n : Int} {v : Value} (h : VRep w Im ρ S (.cl (.int k n)) v) : v = .int k n := by
  cases h with | cl _ _ h => cases h; rfl
theorem arg_str {w : World} {Im : Nat → Prop} {ρ : Nat → Loc} {S : Nat → Option Sh} {s : ByteArray} {v : Value} (h : VRep w Im ρ S (.cl (.str s)) v) : v = .string s := by
  cases h with | cl _ _ h => cases h; rfl
theorem args1 {w : World} {Im : Nat → Prop} {ρ : Nat → Loc} {S : Nat → Option Sh} {a : V} {vs : List Value} (h : RepL w Im ρ S [a] vs) : ∃ v, vs = [v] ∧ VRep w Im ρ S a v := by
  match vs, h.1 with
  | [v], _ => exact ⟨v, rfl, h.2 0 _ _ rfl rfl⟩
theorem args2 {w : World} {Im : Nat → Prop} {ρ : Nat → Loc} {S : Nat → Option Sh} {a b : V} {vs : List Value} (h : RepL w Im ρ S [a, b] vs) : ∃ v u, vs = [v, u] ∧ VRep w Im ρ S a v ∧ VRep w Im ρ S b u := by
  match vs, h.1 with
  | [v, u], _ => exact ⟨v, u, rfl, h.2 0 _ _ rfl rfl, h.2 1 _ _ rfl rfl⟩
theorem args3 {w : World} {Im : Nat → Prop} {ρ : Nat → Loc} {S : Nat → Option Sh} {a b c : V} {vs : List Value} (h : RepL w Im ρ S [a, b, c] vs) : ∃ v u x, vs = [v, u, x] ∧ VRep w Im ρ S a v ∧ VRep w Im ρ S b u ∧ VRep w Im ρ S c x := by
  match vs, h.1 with
  | [v, u, x], _ => exact ⟨v, u, x, rfl, h.2 0 _ _ rfl rfl, h.2 1 _ _ rfl rfl, h.2 2 _ _ rfl rfl⟩

theorem soundXSmall (hm : MXo) : OKo 53 preXSmall SXSmall := by
  intro xs obs out w Im ρ bl vs hs hpre
  obtain ⟨h1, h2⟩ := cond_some hs
  unfold preXSmall at h1
  split at h1
  · rename_i n
    have h2 : some (Out.ret [.cl (.str (digS n))] []) = some out := h2
    cases h2
    have hn : 0 ≤ n ∧ n < 100 := by unfold smallOk at h1; rw [shut_eq] at h1; exact of_decide_eq_true h1
    obtain ⟨u, rfl⟩ : ∃ u : Nat, n = u := ⟨n.toNat, by omega⟩
    obtain ⟨v, rfl, hv⟩ := args1 hpre.reps
    obtain rfl := arg_int hv
    refine kit_runs Tryd.func53 (of_decide_eq_true (by kernel_rfl)) rfl ((Any.internal_strconv_small (layS283 hm) u (by omega) w).mono fun e w' ⟨he, hw⟩ => ?_)
    subst he hw
    refine ends_one hpre (Below.refl _ _) ?_
    rw [digS_eq]
    exact .str _
  · cases h1
theorem soundXLen (hm : MXo) : OKo 68 preXLen SXLen := by
  intro xs obs out w Im ρ bl vs hs hpre
  obtain ⟨h1, h2⟩ := cond_some hs
  unfold preXLen at h1
  split at h1
  · rename_i n
    have h2 : some (Out.ret [.cl (.int .i64 (bitL n))] []) = some out := h2
    cases h2
    have hn := u64Ok_spec h1
    obtain ⟨v, rfl, hv⟩ := args1 hpre.reps
    obtain rfl := arg_int hv
    refine kit_runs Tryd.func68 (of_decide_eq_true (by kernel_rfl)) rfl ((Any.bits_Len64 (layS129 hm) n w hn.1 hn.2).mono fun e w' ⟨he, hw⟩ => ?_)
    subst he hw
    refine ends_one hpre (Below.refl _ _) ?_
    unfold bitL
    rw [shut_eq]
    exact .int _ _
  · cases h1
theorem dotOk_spec {t : ByteArray} (h : dotOk t = true) : t = ⟨#[46]⟩ := by
  unfold dotOk at h
  rw [shut_eq] at h
  have := of_decide_eq_true h
  rw [← mkB_data t, this]; rfl
theorem soundSCount (hm : MXo) : OKo 25 preSCount SSCount := by
  intro xs obs out w Im ρ bl vs hs hpre
  obtain ⟨h1, h2⟩ := cond_some hs
  unfold preSCount at h1
  split at h1
  · rename_i s t
    have h2 : some (Out.ret [.cl (.int .i64 (dotCount s))] []) = some out := h2
    cases h2
    obtain rfl := dotOk_spec h1
    obtain ⟨v, u, rfl, hv, hu⟩ := args2 hpre.reps
    obtain rfl := arg_str hv
    obtain rfl := arg_str hu
    refine kit_runs Tryd.func25 (of_decide_eq_true (by kernel_rfl)) rfl ((Any.strings_Count_one (layS138 hm) s 46 w).mono fun e w' ⟨he, hw⟩ => ?_)
    subst he hw
    refine ends_one hpre (Below.refl _ _) ?_
    unfold dotCount
    rw [shut_eq]
    exact .int _ _
  · cases h1
end Go.Proofs.YtgkedgpgfmibhaaDoorA

namespace Go.Proofs.YtgkedgpgfmibhaaDoorA
open Go.RowKit Go.Shelf

theorem spot_none {w : World} {ad : Addr} {v : Value} (h : w.cell? ad = some v) : ad = ⟨ad.block, ad.off, none⟩ := by
  obtain ⟨b, o, s⟩ := ad
  cases s with
  | none => rfl
  | some k =>
    unfold World.cell? at h
    split at h
    · simp at h
    · cases h
theorem strsOk_spec {l : List CV} (h : strsOk l = true) : l.length ≤ 1000 ∧ ∃ xs : List ByteArray, l = xs.map .str ∧ ∀ x ∈ xs, x.size ≤ 1000 := by
  unfold strsOk at h
  rw [shut_eq, Bool.and_eq_true, List.all_eq_true] at h
  refine ⟨of_decide_eq_true h.1, l.map cvStr, ?_, fun x hx => ?_⟩
  · rw [List.map_map]
    conv => lhs; rw [← List.map_id l]
    refine List.map_congr_left fun c hc => ?_
    have := h.2 c hc
    rw [Bool.and_eq_true] at this
    cases c <;> first | rfl | (have h1 := this.1; cases h1)
  · obtain ⟨c, hc, rfl⟩ := List.mem_map.1 hx
    have := h.2 c hc
    rw [Bool.and_eq_true] at this
    exact of_decide_eq_true this.2
theorem join_size : ∀ (xs : List ByteArray), (∀ x ∈ xs, x.size ≤ 1000) → (Lib.join (xs.map (·.data.toList)) [46]).length ≤ 1001 * xs.length
  | [], _ => by simp [Lib.join_nil]
  | x :: r, h => by
    have hx := h x (by simp)
    rw [← ByteArray.size_data] at hx
    have tl : ∀ (r : List ByteArray), (∀ x ∈ r, x.size ≤ 1000) → (Lib.joinTail [46] (r.map (·.data.toList))).length ≤ 1001 * r.length := fun r => by
      induction r with
      | nil => intro _; simp [Lib.joinTail]
      | cons y r ih =>
        intro h
        have hy := h y (by simp)
        rw [← ByteArray.size_data] at hy
        have := ih fun z hz => h z (by simp [hz])
        rw [List.map_cons, tail_step]
        simp only [List.cons_append, List.length_cons, List.length_append, Array.length_toList]
        omega
    have := tl r fun z hz => h z (by simp [hz])
    rw [List.map_cons, Lib.join_cons, List.length_append, Array.length_toList, List.length_cons]
    omega
/-- the one cell of a variable -/
theorem vp_cell {w : World} {Im : Nat → Prop} {g : Nat} {c : CV} {v : Value} (h : CRep w Im (.vp (.agg [c]) 0 0) v) (hv : v = .pointer (some ⟨g, 0, none⟩)) : ∃ x, w.cell? ⟨g, 0, none⟩ = some x ∧ CRep w Im c x := by
  cases h with
  | vp r i o e cs b off f k1 k2 k3 k4 k5 k6 =>
    simp only [rowOfC, Option.some.injEq, Prod.mk.injEq] at k1
    obtain ⟨rfl, rfl⟩ := k1
    simp only [Value.pointer.injEq, Option.some.injEq, Addr.mk.injEq, Nat.zero_mul, Nat.add_zero, and_true] at hv
    obtain ⟨rfl, rfl⟩ := hv
    exact ⟨f 0, k4 0 _ rfl, k6 0 _ rfl⟩
theorem str_cells : ∀ (L : List ByteArray), (L.map CV.str).flatMap cell1 = L.map CV.str
  | [] => rfl
  | y :: r => by
    rw [List.map_cons, List.flatMap_cons, str_cells r]
    rfl
theorem soundSJoin (hm : MXo) : OKo 29 preSJoin SSJoin := by
  intro xs obs out w Im ρ bl vs hs hpre
  obtain ⟨h1, h2⟩ := cond_some hs
  unfold preSJoin at h1
  split at h1
  · rename_i l s
    have h2 : some (Out.ret [.cl (.str (strJoin l s))] []) = some out := h2
    cases h2
    rw [Bool.and_eq_true] at h1
    obtain rfl := dotOk_spec h1.2
    obtain ⟨hl, ys, rfl, hy⟩ := strsOk_spec h1.1
    obtain ⟨v, u, rfl, hv, hu⟩ := args2 hpre.reps
    obtain rfl := arg_str hu
    have ej : strJoin (ys.map .str) ⟨#[46]⟩ = ⟨(Lib.join (ys.map (·.data.toList)) (⟨#[46]⟩ : ByteArray).data.toList).toArray⟩ := by
      unfold strJoin strJoinC
      rw [shut_eq, List.map_map]
      rfl
    rw [List.length_map] at hl
    have hc := hv.closed
    cases hc with
    | slg e l a len cap f g1 g2 g3 g4 g5 g6 =>
      rw [List.length_map] at g2
      rw [str_cells] at g4 g6
      refine kit_runs Tryd.func29 (of_decide_eq_true (by kernel_rfl)) rfl ?_
      have fin : ∀ e w', (e = .returned (.string ⟨(Lib.join (ys.map (·.data.toList)) (⟨#[46]⟩ : ByteArray).data.toList).toArray⟩) ∧ Below w.heap.size w w') → Ends w Im ρ bl [] (.ret [.cl (.str (strJoin (ys.map .str) ⟨#[46]⟩))] []) e w' := fun e w' ⟨he, hB⟩ => by
        subst he
        rw [ej]
        exact ends_one hpre hB (.str _)
      cases ys with
      | nil =>
        subst g2
        refine (Any.strings_Join_none (layS156 hm) layX72 a cap ⟨#[46]⟩ w).mono fun e w' ⟨he, hw⟩ => fin e w' ⟨he, ?_⟩
        subst hw
        exact Below.refl _ _
      | cons y r =>
        obtain ⟨ad, rfl, hIm, hcell⟩ := g4 0 (.str y) rfl
        have hsp := spot_none hcell
        have hsp : ad.add 0 = ad := by unfold Addr.add; rw [if_pos rfl]
        rw [hsp] at hcell
        obtain ⟨b, o, sp⟩ := ad
        have := spot_none hcell
        simp only [Addr.mk.injEq, true_and] at this
        subst this
        subst g2
        refine (Any.strings_Join (layS156 hm) layX72 b o cap (y :: r) ⟨#[46]⟩ w (fun j x hj => ?_) (hpre.gam.im _ hIm) (by omega) g3 ?_).mono fin
        · obtain ⟨ad', e', _, hcell'⟩ := g4 j (.str x) (by rw [List.getElem?_map, hj]; rfl)
          cases e'
          have hrep := g6 j (.str x) (by rw [List.getElem?_map, hj]; rfl)
          rw [Lib.add_plain] at hcell'
          have hx : f j = .string x := by generalize f j = z at hrep; cases hrep; rfl
          rw [hcell', hx]
        · have := join_size (y :: r) hy
          show (Lib.join _ [46]).length ≤ _
          omega
  · cases h1

theorem split_size (s : ByteArray) : ∀ (k : Nat) (s : ByteArray), (Lib.splitB dot 0 k s).length ≤ k + 1 := fun k s => Lib.splitB_length_le dot 0 k s
theorem soundSSplit (hm : MXo) : OKo 26 preSSplit SSSplit := by
  intro xs obs out w Im ρ bl vs hs hpre
  obtain ⟨h1, h2⟩ := cond_some hs
  unfold preSSplit at h1
  split at h1
  · rename_i s t
    have h2 : some (Out.ret [.cl (.slg 1 (dotSplit s))] []) = some out := h2
    cases h2
    rw [Bool.and_eq_true] at h1
    obtain rfl := dotOk_spec h1.1
    have hsz := sizeOk_spec h1.2
    obtain ⟨v, u, rfl, hv, hu⟩ := args2 hpre.reps
    obtain rfl := arg_str hv
    obtain rfl := arg_str hu
    have hmax : ∃ m : Int, w.cell? ⟨0, 0, none⟩ = some (.int .i64 m) := by
      obtain ⟨x, h3, h4⟩ := vp_cell (hpre.gl 0 _ rfl) rfl
      cases h4 with
      | any p v hany =>
        obtain ⟨m, rfl⟩ := hany
        exact ⟨m, h3⟩
    obtain ⟨m, hmax⟩ := hmax
    refine kit_runs Tryd.func26 (of_decide_eq_true (by kernel_rfl)) rfl ((Any.strings_Split (layS146 hm) (by kernel_rfl) s ⟨#[46]⟩ m w (by omega) hmax (by decide)).mono fun e w' ⟨he, hw⟩ => ?_)
    subst he
    have hdot : (⟨#[46]⟩ : ByteArray) = dot := rfl
    have hlen : (Lib.splitB dot 0 (Lib.countB s dot) s).length = Lib.countB s dot + 1 := by
      obtain ⟨l, rfl⟩ : ∃ l, s = mkB l := ⟨_, (mkB_data s).symm⟩
      have e1 := split_pcs l.length l (Nat.le_refl _)
      rw [e1, List.length_map, pcs_len]
      have : ∀ (n : Nat) (l : List UInt8), l.length ≤ n → Lib.countB (mkB l) dot = l.count 46 := fun n => by
        induction n with
        | zero =>
          intro l hl
          have : l = [] := List.eq_nil_of_length_eq_zero (by omega)
          subst this
          exact Lib.countB_miss _ _ (indexB_dot [])
        | succ n ih =>
          intro l hl
          rcases idx_cases 46 l with ⟨h1, h2⟩ | ⟨a, b, rfl, h2, h3⟩
          · rw [Lib.countB_miss _ _ ((indexB_dot l).trans h2), List.count_eq_zero.2 h1]
          · obtain ⟨_, e2⟩ := cut_mk a b
            rw [Lib.countB_hit _ _ a.length (by decide) ((indexB_dot _).trans h3), e2, ih b (by simp at hl; omega), List.count_append, List.count_cons_self, List.count_eq_zero.2 h2]
            omega
      rw [this l.length l (Nat.le_refl _)]
    generalize hL : Lib.splitB dot 0 (Lib.countB s dot) s = L at hlen
    have eS : dotSplit s = L.map .str := by unfold dotSplit dotSplitC; rw [shut_eq, hL]
    have hheap : w'.heap = w.heap.push (.cells (L.map Value.string).toArray (renLibS.t 9) (0, 0)) := by rw [hw, hdot, hL]; rfl
    have hblk : w'.heap[w.heap.size]? = some (.cells (L.map Value.string).toArray (renLibS.t 9) (0, 0)) := by rw [hheap]; simp
    have hB : Below w.heap.size w w' := ⟨by rw [hw]; rfl, by rw [hw]; rfl, by rw [hw]; rfl, by rw [hheap, Array.size_push]; omega, fun k hk => by rw [hheap, Array.getElem?_push, if_neg (by omega)]⟩
    rw [hdot, eS]
    refine ends_of (Im' := fun b => Im b ∨ b = w.heap.size) (us := [_]) hpre hB (fun _ h => .inl h) (fun b h => h.imp id fun e => by subst e; exact ⟨Nat.le_refl _, by rw [hheap, Array.size_push]; omega⟩) rfl rfl fun j c v hj hv => ?_
    match j, hj, hv with
    | 0, hj, hv =>
      cases hj
      cases hv
      refine .cl _ _ (.slg 1 _ _ _ _ (fun j => .string (L.getD j ⟨#[]⟩)) (fun c hc => ?_) ?_ (Nat.le_refl _) (fun j c hj => ?_) (fun j c hj => rfl) fun j c hj => ?_)
      · obtain ⟨x, _, rfl⟩ := List.mem_map.1 hc; rfl
      · rw [List.length_map]; exact hlen
      · rw [str_cells, List.getElem?_map] at hj
        obtain ⟨x, hx, rfl⟩ := Option.map_eq_some_iff.1 hj
        refine ⟨_, rfl, .inr rfl, ?_⟩
        rw [Lib.add_plain, Nat.zero_add]
        unfold World.cell?
        simp only [hblk]
        simp [hx, List.getD_eq_getElem?_getD]
      · rw [str_cells, List.getElem?_map] at hj
        obtain ⟨x, hx, rfl⟩ := Option.map_eq_some_iff.1 hj
        rw [List.getD_eq_getElem?_getD, hx]
        exact .str _
    | j + 1, hj, hv => simp at hj
  · cases h1

theorem err_cell {w : World} {Im : Nat → Prop} {g : Nat} (h : CRep w Im (.vp (.agg [.any 0]) 0 0) (.pointer (some ⟨g, 0, none⟩))) : ∃ ev, w.cell? ⟨g, 0, none⟩ = some ev ∧ (ev = .nilIface ∨ ∃ te pe, ev = .iface te pe) := by
  obtain ⟨x, h3, h4⟩ := vp_cell h rfl
  cases h4 with
  | any p v hany => exact ⟨x, h3, hany⟩
theorem soundSParse (hm : MXo) : OKo 27 preSParse SSParse := by
  intro xs obs out w Im ρ bl vs hs hpre
  obtain ⟨h1, h2⟩ := cond_some hs
  unfold preSParse at h1
  split at h1
  · rename_i s
    have hsz := sizeOk_spec h1
    have h2 : cond (!(puOk s)) (some (Out.ret [.cl (.int .u64 (puVal s)), .cl (.iface 80 (.any 2))] [])) (some (Out.ret [.cl (.int .u64 (puVal s)), .cl .nili] [])) = some out := h2
    obtain ⟨v, u, x, rfl, hv, hu, hx⟩ := args3 hpre.reps
    obtain rfl := arg_str hv
    obtain rfl := arg_int hu
    obtain rfl := arg_int hx
    have two : ∀ {w' : World} {a b : V} {va vb : Value}, Below w.heap.size w w' → VRep w' Im ρ (shOf []) a va → VRep w' Im ρ (shOf []) b vb → Ends w Im ρ bl [] (.ret [a, b] []) (.returned (.tuple #[va, vb])) w' := fun {w' a b va vb} hB ha hb =>
      ends_of (us := [va, vb]) hpre hB (fun _ h => h) (fun _ h => .inl h) rfl rfl fun j c v hj hv => by
        match j, hj, hv with
        | 0, hj, hv => cases hj; cases hv; exact ha
        | 1, hj, hv => cases hj; cases hv; exact hb
        | j + 2, hj, hv => simp at hj
    refine kit_runs Tryd.func27 (of_decide_eq_true (by kernel_rfl)) rfl ?_
    cases hn : puNum s with
    | ok n =>
      rw [show puOk s = true by unfold puOk; rw [shut_eq, hn], show puVal s = (n : Int) by unfold puVal; rw [shut_eq, hn]] at h2
      cases h2
      refine (Any.strconv_ParseUint_10_at32_ok (layP14 hm) s (by omega) n hn w).mono fun e w' ⟨he, hw⟩ => ?_
      subst he
      have hB : Below w.heap.size w w' := by
        rcases hw with rfl | rfl
        · exact Below.refl _ _
        · exact Lib.bytesWorld_below _ _ _
      exact two hB (.cl _ _ (.int _ _)) (.cl _ _ .nili)
    | range =>
      rw [show puOk s = false by unfold puOk; rw [shut_eq, hn], show puVal s = 4294967295 by unfold puVal; rw [shut_eq, hn]] at h2
      cases h2
      obtain ⟨ev, hv, hev⟩ := err_cell (hpre.gl 2 _ rfl)
      refine (Any.strconv_ParseUint_10_at32_range (layP14 hm) s (by omega) hn ev w hv hev).mono fun e w' ⟨N, he, _, _, hB⟩ => ?_
      subst he
      exact two hB (.cl _ _ (.int _ _)) (.cl _ _ (.iface _ _ _ (.any _ _ rfl)))
    | _ =>
      rw [show puOk s = false by unfold puOk; rw [shut_eq, hn], show puVal s = 0 by unfold puVal; rw [shut_eq, hn]] at h2
      cases h2
      obtain ⟨ev, hv, hev⟩ := err_cell (hpre.gl 1 _ rfl)
      refine (Any.strconv_ParseUint_10_at32_syntax (layP14 hm) s (by omega) hn ev w hv hev).mono fun e w' ⟨N, he, _, _, hB⟩ => ?_
      subst he
      exact two hB (.cl _ _ (.int _ _)) (.cl _ _ (.iface _ _ _ (.any _ _ rfl)))
  · cases h1
end Go.Proofs.YtgkedgpgfmibhaaDoorA

namespace Go.Proofs.YtgkedgpgfmibhaaDoorA
open Go.RowKit Go.Shelf Go.Sort

abbrev encB : UInt8 → Value := fun b => Value.int .u8 (b.toNat : Int)
theorem get_bang {a : Array UInt8} {j : Nat} {x : UInt8} (h : a[j]? = some x) : a[j]! = x := by
  rw [getElem!_def, h]
theorem soundXBase10 (hm : MXo) : OKo 55 preXBase10 SXBase10 := by
  intro xs obs out w Im ρ bl vs hs hpre
  obtain ⟨h1, h2⟩ := cond_some hs
  unfold preXBase10 at h1
  split at h1
  · rename_i m n l
    have h2 : some (Out.ret [] [some ⟨.arri 24 .u8 (digL n ++ l.drop m), false⟩]) = some out := h2
    cases h2
    unfold fmtOk at h1
    rw [shut_eq, Bool.and_eq_true, List.all_eq_true] at h1
    obtain ⟨hn1, hn2, hm1, hm2, hl⟩ := of_decide_eq_true h1.1
    have hb := fun x hx => byteB_spec (h1.2 x hx)
    obtain ⟨u, rfl⟩ : ∃ u : Nat, n = u := ⟨n.toNat, by omega⟩
    rw [show ((u : Int)).toNat = u from rfl] at hm1
    obtain ⟨va, vb, rfl, ha, hbv⟩ := args2 hpre.reps
    obtain rfl := arg_int hbv
    have hpos : 1 ≤ Lib.nDigits u := by
      rw [← Lib.decDigits_length]
      by_cases h : u < 10
      · rw [Lib.decDigits_one h]; simp
      · rw [Lib.decDigits, dif_neg h]; simp
    have hg := hpre.gam
    have hob := hg.ob 0 ⟨.arri 24 .u8 l, false⟩ rfl
    cases ha with
    | refN p o len tip e a cap k1 k2 k3 => cases k1
    | refV p s tip e k1 k2 k3 k4 => exact absurd hm1 (by omega)
    | ref p o len tip e s b base lim ad cap k1 k2 k3 k4 k5 k6 k7 k8 =>
      rw [k2] at hob
      obtain ⟨o1, o2, o3, o4, o5⟩ := hob
      have had := k7 (by omega)
      subst had
      rw [Nat.zero_mul, Nat.add_zero]
      have hcl : (cellsR (.arri 24 .u8 l)).length = 24 := by simp [cellsR, hl]
      rw [hcl] at o3
      have hlk := hg.lk 0 ⟨.arri 24 .u8 l, false⟩ b base lim rfl k2
      have hbl : bl b := ((hlk.2.2 rfl).2).resolve_right (by omega)
      have hcell : ∀ (j : Nat) (x : Int), l[j]? = some x → w.cell? ⟨b, base + j, none⟩ = some (.int .u8 x) := fun j x hx => by
        obtain ⟨v, h3, _, h4⟩ := o5 j (.cl (.int .u8 x)) (by simp [cellsR, hx])
        rw [h3, arg_int h4]
      let d : Array UInt8 := ((l.take m).map fun x => UInt8.ofNat x.toNat).toArray
      have hd : d.size = m := by simp [d]; omega
      have hdat : ∀ (j : Nat) (x : Int), j < m → l[j]? = some x → d[j]? = some (UInt8.ofNat x.toNat) := fun j x hj hx => by
        simp only [d, List.getElem?_toArray, List.getElem?_map, List.getElem?_take, if_pos hj, hx]; rfl
      have hH : Holds encB w b base d := fun j hj => by
        rw [hd] at hj
        obtain ⟨x, hx⟩ := get_some (b := l) (i := j) (by omega)
        have hxr := hb x (List.mem_of_getElem? hx)
        refine ⟨?_, (o4 j (by omega)).2⟩
        rw [get_bang (hdat j x hj hx), hcell j x hx]
        show some (Value.int .u8 x) = some (.int .u8 ((UInt8.ofNat x.toNat).toNat : Int))
        rw [UInt8.toNat_ofNat']
        congr 2
        omega
      have hlaw := Any.internal_strconv_formatBase10 (layS285 hm) b base cap u d w hH (by rw [hd, hm1]; exact Lib.lt_pow_nDigits u) (by omega) (by omega)
      rw [hd] at hlaw
      refine kit_runs Tryd.func55 (of_decide_eq_true (by kernel_rfl)) rfl (hlaw.mono fun e w' ⟨he, n', v', dk, hw, hF⟩ => ?_)
      subst he
      have hdk : dk.size = d.size := by rw [hF.size, hd]
      have hdkm : dk.size = m := by rw [hdk, hd]
      have hcell' : ∀ a, w'.cell? a = (putRow encB w b base dk).cell? a := fun a => by rw [hw]; rfl
      have hfz : ∀ a, w'.frozen? a = w.frozen? a := fun a => by rw [hw]; exact frozen?_putRow _ _ _ _ _ _
      have hsz : w'.heap.size = w.heap.size := by rw [hw]; exact size_putRow _ _ _ _ _
      have hblk : ∀ k, k ≠ b → w'.heap[k]? = w.heap[k]? := fun k hk => by
        rw [hw]
        show (mapBlock w b _).heap[k]? = _
        simp only [mapBlock, Array.getElem?_modify, if_neg (Ne.symm hk)]
      have hdig : digL (u : Int) = (digB u).map fun b => (b.toNat : Int) := by unfold digL; rw [shut_eq]
      have hdl : (digL (u : Int)).length = m := by rw [hdig, List.length_map, hm1]; exact Lib.decDigits_length u
      have hlen2 : (digL (u : Int) ++ l.drop m).length = 24 := by rw [List.length_append, hdl, List.length_drop]; omega
      have hin : ∀ j, j < m → w'.cell? ⟨b, base + j, none⟩ = some (.int .u8 ((digL (u : Int)).getD j 0)) := fun j hj => by
        rw [hcell', cell?_putRow encB w b base d dk hH hdk j (by omega)]
        rw [hm1] at hF
        have hj2 : j < (Lib.decDigits u).length := by rw [Lib.decDigits_length]; omega
        rw [← Lib.row_is_numeral hF j hj2, hdig]
        show some (Value.int .u8 _) = _
        rw [List.getD_eq_getElem?_getD, List.getElem?_map, show digB (u : Int) = Lib.decDigits u from rfl, List.getElem?_eq_getElem hj2]
        rfl
      have hout : ∀ j, m ≤ j → w'.cell? ⟨b, base + j, none⟩ = w.cell? ⟨b, base + j, none⟩ := fun j hj => by
        rw [hcell', cell?_putRow_other encB w b base dk ⟨b, base + j, none⟩ (.inr (.inr (by rw [hdkm]; show base + m ≤ base + j; omega)))]
      have hst : ∀ p q, alGet (heapO 0 [some (⟨.arri 24 .u8 (digL (u : Int) ++ l.drop m), false⟩ : Obj)]) p = some q → p = 0 ∧ q = ⟨.arri 24 .u8 (digL (u : Int) ++ l.drop m), false⟩ := fun p q hp => by
        simp only [heapO, alGet] at hp
        cases hb : Nat.beq 0 p with
        | true => rw [hb] at hp; cases hp; exact ⟨(beq_iff.1 hb).symm, rfl⟩
        | false => rw [hb] at hp; cases hp
      refine ⟨[], Im, ρ, rfl, ⟨⟨by rw [hw]; rfl, by rw [hw]; rfl, by rw [hw]; rfl, by omega, fun k hk hn => hblk k fun e => hn (e ▸ hbl)⟩, ⟨fun b' hb' => by rw [hsz]; exact hg.im b' hb', hg.i0, fun p q hp => ?_, fun p p' q q' b1 x1 y1 x2 y2 hp hp' _ _ hne => ?_, fun p q b1 x1 y1 hp hr => ?_, hg.imo⟩, fun j q q' hj hj' => ?_⟩, rfl, fun j c v hj => by simp at hj⟩
      · obtain ⟨rfl, rfl⟩ := hst p q hp
        rw [k2]
        refine ⟨hlen2, by omega, by simp only [cellsR, List.length_map, hlen2]; omega, fun i hi => ⟨?_, by rw [hfz]; exact (o4 i hi).2⟩, fun j c hj => ?_⟩
        · by_cases him : i < m
          · rw [hin i him]; rfl
          · rw [hout i (by omega)]; exact (o4 i hi).1
        · simp only [cellsR, List.getElem?_map] at hj
          obtain ⟨x, hx, rfl⟩ := Option.map_eq_some_iff.1 hj
          by_cases hjm : j < m
          · rw [List.getElem?_append_left (by omega)] at hx
            refine ⟨_, hin j hjm, rfl, ?_⟩
            rw [List.getD_eq_getElem?_getD, hx]
            exact .cl _ _ (.int _ _)
          · rw [List.getElem?_append_right (by omega), hdl, List.getElem?_drop, show m + (j - m) = j by omega] at hx
            exact ⟨_, (hout j (by omega)).trans (hcell j x hx), rfl, .cl _ _ (.int _ _)⟩
      · exact absurd ((hst p q hp).1.trans (hst p' q' hp').1.symm) hne
      · obtain ⟨rfl, rfl⟩ := hst p q hp
        have := hg.lk 0 ⟨.arri 24 .u8 l, false⟩ b1 x1 y1 rfl hr
        exact ⟨by omega, fun e => absurd e Bool.false_ne_true, fun _ => this.2.2 rfl⟩
      · match j, hj, hj' with
        | 0, hj, hj' =>
          cases hj; cases hj'
          refine ⟨?_, rfl⟩
          simp [shp, Rw.len, Rw.esz, isArr]
        | j + 1, hj, hj' => simp at hj
  · cases h1
end Go.Proofs.YtgkedgpgfmibhaaDoorA

namespace Go.Proofs.YtgkedgpgfmibhaaDoorA
theorem soundOFit (hm : MXo) : OKo 10 preOFit SOFit :=
  read_sound (E := EOFit) (N := 40) (keep := false) hm (fun g => sound_none) Tryd.func10 rfl rfl loopsOFit rfl (by
    intro xs obs out hp h
    unfold SOFit at h
    split at h
    · refine ⟨by simp [Tryd.f10], ?_⟩
      rw [gOFit_eq]
      exact (nOFit _ hp).trans h
    · cases h)
theorem soundR2Fit (hm : MXo) : OKo 11 preR2Fit SR2Fit :=
  read_sound (E := ER2Fit) (N := 40) (keep := false) hm (fun g => sound_none) Tryd.func11 rfl rfl loopsR2Fit rfl (by
    intro xs obs out hp h
    unfold SR2Fit at h
    split at h
    · refine ⟨by simp [Tryd.f11], ?_⟩
      rw [gR2Fit_eq]
      exact (nR2Fit _ hp).trans h
    · cases h)
theorem soundR2First (hm : MXo) : OKo 22 preR2First SR2First :=
  read_sound (E := ER2First) (N := 40) (keep := false) hm (fun g => sound_none) Tryd.func22 rfl rfl loopsR2First rfl (by
    intro xs obs out hp h
    unfold SR2First at h
    split at h
    · refine ⟨by simp [Tryd.f22], ?_⟩
      rw [gR2First_eq]
      exact (nR2First _ hp).trans h
    · cases h)
theorem soundONumber (hm : MXo) : OKo 34 preONumber SONumber :=
  read_sound (E := EONumber) (N := 40) (keep := false) hm (fun g => sound_none) Tryd.func34 rfl rfl loopsONumber rfl (by
    intro xs obs out hp h
    unfold SONumber at h
    split at h
    · refine ⟨by simp [Tryd.f34], ?_⟩
      rw [gONumber_eq]
      exact (nONumber _ hp).trans h
    · cases h)
theorem soundONumbers (hm : MXo) : OKo 21 preONumbers SONumbers :=
  read_sound (E := EONumbers) (N := 40) (keep := true) hm (fun g => sound_none) Tryd.func21 rfl rfl loopsONumbers rfl (by
    intro xs obs out hp h
    unfold SONumbers at h
    split at h
    · refine ⟨by simp [Tryd.f21], ?_⟩
      rw [gONumbers_eq]
      exact (nONumbers _ hp).trans h
    · cases h)
theorem seqONums (hm : MXo) : ∀ xs obs ys, preONums xs obs = true → QONums xs obs = some ys → SeqOk Tryd.prog glOid 33 xs obs ys := by
  intro xs obs ys hp h
  unfold QONums at h
  split at h
  · rename_i b
    cases h
    have hE : ∀ (l : Nat) (g : FuncId), Sound Tryd.prog (EONums l).glob g (ctr (EONums l) g) := fun l g => (sound_pick (soundONumber hm) sound_none)
    refine seq_sound (N := 40) EONums hE (fun l => draw_sound (hE l) hm) (fun _ => rfl) (fun _ => rfl) (fun _ => rfl) Tryd.func33 rfl loopsONums (fun _ => rfl) (by decide) rfl fun l => ?_
    obtain ⟨out, h1, h2⟩ := nONums l b hp
    exact ⟨out, (gONums_eq l b).trans h1, h2⟩
  · cases h
theorem sqOParse (hm : MXo) : SeqSound Tryd.prog EOParse := by
  intro gf xs obs ys hp h
  have h : (cond (Nat.beq gf 33) QONums (fun _ _ => none)) xs obs = some ys := h
  cases hb : Nat.beq gf 33 with
  | false => rw [hb] at h; cases h
  | true =>
    obtain rfl := beq_iff.1 hb
    exact ⟨seqONums hm xs obs ys hp h, _, Tryd.func33, rfl, rfl⟩
theorem sound_fail {P : Program} {glob : Nat → Option CV} {g : FuncId} {p : List V → List Obj → Bool} : Sound P glob g (fun xs obs => cond (p xs obs) ((fun _ _ => Tree.fail : List V → List Obj → Tree) xs obs).eval none) := by
  intro xs obs out w Im ρ bl vs hs
  cases (cond_some hs).2
theorem soundOParse (hm : MXo) : OKo 8 preOParse SOParse :=
  read_sound (E := EOParse) (N := 40) (keep := false) hm (fun g => (sound_pick (soundOFit hm) (sound_pick (soundONumbers hm) sound_fail))) Tryd.func8 rfl rfl loopsOParse rfl (hsq := sqOParse hm) (hS := by
    intro xs obs out hp h
    unfold SOParse at h
    split at h
    · refine ⟨by simp [Tryd.f8], ?_⟩
      rw [gOParse_eq]
      exact (nOParse _ hp).trans h
    · cases h)
theorem soundR2Parse (hm : MXo) : OKo 9 preR2Parse SR2Parse :=
  read_sound (E := ER2Parse) (N := 40) (keep := false) hm (fun g => (sound_pick (soundR2Fit hm) (sound_pick (soundR2First hm) sound_none))) Tryd.func9 rfl rfl loopsR2Parse rfl (by
    intro xs obs out hp h
    unfold SR2Parse at h
    split at h
    · refine ⟨by simp [Tryd.f9], ?_⟩
      rw [gR2Parse_eq]
      exact (nR2Parse _ hp).trans h
    · cases h)
theorem soundR1Same (hm : MXo) : OKo 12 preR1Same SR1Same :=
  read_sound (E := ER1Same) (N := 40) (keep := false) hm (fun g => sound_none) Tryd.func12 rfl rfl loopsR1Same rfl (by
    intro xs obs out hp h
    unfold SR1Same at h
    split at h
    · refine ⟨by simp [Tryd.f12], ?_⟩
      rw [gR1Same_eq]
      exact (nR1Same _ _ hp).trans h
    · cases h)
theorem soundR2Same (hm : MXo) : OKo 15 preR2Same SR2Same :=
  read_sound (E := ER2Same) (N := 40) (keep := false) hm (fun g => sound_none) Tryd.func15 rfl rfl loopsR2Same rfl (by
    intro xs obs out hp h
    unfold SR2Same at h
    split at h
    · refine ⟨by simp [Tryd.f15], ?_⟩
      rw [gR2Same_eq]
      exact (nR2Same _ _ hp).trans h
    · cases h)
theorem soundSEq32 (hm : MXo) : OKo 32 preSEq32 SSEq32 :=
  read_sound (E := ESEq32) (N := 40) (keep := false) hm (fun g => sound_none) Tryd.func32 rfl rfl loopsSEq32 rfl (by
    intro xs obs out hp h
    unfold SSEq32 at h
    split at h
    · refine ⟨by simp [Tryd.f32], ?_⟩
      rw [gSEq32_eq]
      exact (nSEq32 _ _ hp).trans h
    · cases h)
theorem soundOSame (hm : MXo) : OKo 20 preOSame SOSame :=
  read_sound (E := EOSame) (N := 40) (keep := false) hm (fun g => (sound_pick (soundSEq32 hm) sound_none)) Tryd.func20 rfl rfl loopsOSame rfl (by
    intro xs obs out hp h
    unfold SOSame at h
    split at h
    · refine ⟨by simp [Tryd.f20], ?_⟩
      rw [gOSame_eq]
      exact (nOSame _ _ hp).trans h
    · cases h)
theorem soundOPut (hm : MXo) : OKo 23 preOPut SOPut :=
  read_sound (E := EOPut) (N := 40) (keep := true) hm (fun g => sound_none) Tryd.func23 rfl rfl loopsOPut rfl (by
    intro xs obs out hp h
    unfold SOPut at h
    split at h
    · refine ⟨by simp [Tryd.f23], ?_⟩
      rw [gOPut_0_eq]
      exact (nOPut_0 _ hp).trans h
    · refine ⟨by simp [Tryd.f23], ?_⟩
      rw [gOPut_1_eq]
      exact (nOPut_1 _ _ _ hp).trans h
    · cases h)
theorem soundR2Groups (hm : MXo) : OKo 24 preR2Groups SR2Groups :=
  read_sound (E := ER2Groups) (N := 40) (keep := true) hm (fun g => sound_none) Tryd.func24 rfl rfl loopsR2Groups rfl (by
    intro xs obs out hp h
    unfold SR2Groups at h
    split at h
    · refine ⟨by simp [Tryd.f24], ?_⟩
      rw [gR2Groups_eq]
      exact (nR2Groups _ hp).trans h
    · cases h)
theorem soundOBytes (hm : MXo) : OKo 13 preOBytes SOBytes :=
  read_sound (E := EOBytes) (N := 40) (keep := false) hm (fun g => (sound_pick (soundOFit hm) (sound_pick (soundOPut hm) sound_none))) Tryd.func13 rfl rfl loopsOBytes rfl (by
    intro xs obs out hp h
    unfold SOBytes at h
    split at h
    · refine ⟨by simp [Tryd.f13], ?_⟩
      rw [gOBytes_eq]
      exact (nOBytes _ hp).trans h
    · cases h)
theorem soundR2Bytes (hm : MXo) : OKo 14 preR2Bytes SR2Bytes :=
  read_sound (E := ER2Bytes) (N := 40) (keep := false) hm (fun g => (sound_pick (soundR2Fit hm) (sound_pick (soundR2Groups hm) sound_none))) Tryd.func14 rfl rfl loopsR2Bytes rfl (by
    intro xs obs out hp h
    unfold SR2Bytes at h
    split at h
    · refine ⟨by simp [Tryd.f14], ?_⟩
      rw [gR2Bytes_eq]
      exact (nR2Bytes _ hp).trans h
    · cases h)
theorem soundXLog (hm : MXo) : OKo 67 preXLog SXLog :=
  read_sound (E := EXLog) (N := 40) (keep := false) hm (fun g => sound_none) Tryd.func67 rfl rfl loopsXLog rfl (by
    intro xs obs out hp h
    unfold SXLog at h
    split at h
    · refine ⟨by simp [Tryd.f67], ?_⟩
      rw [gXLog_eq]
      exact (nXLog _ hp).trans h
    · cases h)
theorem soundXBool2 (hm : MXo) : OKo 69 preXBool2 SXBool2 :=
  read_sound (E := EXBool2) (N := 40) (keep := false) hm (fun g => sound_none) Tryd.func69 rfl rfl loopsXBool2 rfl (by
    intro xs obs out hp h
    unfold SXBool2 at h
    split at h
    · refine ⟨by simp [Tryd.f69], ?_⟩
      rw [gXBool2_eq]
      exact (nXBool2 _ hp).trans h
    · cases h)
theorem soundXDigits (hm : MXo) : OKo 54 preXDigits SXDigits :=
  read_sound (E := EXDigits) (N := 40) (keep := false) hm (fun g => (sound_pick (soundXLog hm) (sound_pick (soundXLen hm) (sound_pick (soundXBool2 hm) sound_none)))) Tryd.func54 rfl rfl loopsXDigits rfl (by
    intro xs obs out hp h
    unfold SXDigits at h
    split at h
    · refine ⟨by simp [Tryd.f54], ?_⟩
      rw [gXDigits_eq]
      exact (nXDigits _ hp).trans h
    · cases h)
theorem soundXFormat (hm : MXo) : OKo 41 preXFormat SXFormat :=
  read_sound (E := EXFormat) (N := 40) (keep := false) hm (fun g => (sound_pick (soundXSmall hm) (sound_pick (soundXDigits hm) (sound_pick (soundXBase10 hm) sound_none)))) Tryd.func41 rfl rfl loopsXFormat rfl (by
    intro xs obs out hp h
    unfold SXFormat at h
    split at h
    · refine ⟨by simp [Tryd.f41], ?_⟩
      rw [gXFormat_eq]
      exact (nXFormat _ hp).trans h
    · cases h)
theorem soundSFormat (hm : MXo) : OKo 28 preSFormat SSFormat :=
  read_sound (E := ESFormat) (N := 40) (keep := false) hm (fun g => (sound_pick (soundXFormat hm) sound_none)) Tryd.func28 rfl rfl loopsSFormat rfl (by
    intro xs obs out hp h
    unfold SSFormat at h
    split at h
    · refine ⟨by simp [Tryd.f28], ?_⟩
      rw [gSFormat_eq]
      exact (nSFormat _ hp).trans h
    · cases h)
theorem soundR2Digits (hm : MXo) : OKo 31 preR2Digits SR2Digits :=
  read_sound (E := ER2Digits) (N := 40) (keep := false) hm (fun g => sound_none) Tryd.func31 rfl rfl loopsR2Digits rfl (by
    intro xs obs out hp h
    unfold SR2Digits at h
    split at h
    · refine ⟨by simp [Tryd.f31], ?_⟩
      rw [gR2Digits_eq]
      exact (nR2Digits _ hp).trans h
    · cases h)
theorem soundOText (hm : MXo) : OKo 17 preOText SOText :=
  read_sound (E := EOText) (N := 40) (keep := false) hm (fun g => (sound_pick (soundOFit hm) (sound_pick (soundSFormat hm) (sound_pick (soundSJoin hm) sound_none)))) Tryd.func17 rfl rfl loopsOText rfl (by
    intro xs obs out hp h
    unfold SOText at h
    split at h
    · refine ⟨by simp [Tryd.f17], ?_⟩
      rw [gOText_eq]
      exact (nOText _ hp).trans h
    · cases h)
theorem soundR2Text (hm : MXo) : OKo 19 preR2Text SR2Text :=
  read_sound (E := ER2Text) (N := 40) (keep := false) hm (fun g => (sound_pick (soundR2Fit hm) (sound_pick (soundR2Digits hm) sound_none))) Tryd.func19 rfl rfl loopsR2Text rfl (by
    intro xs obs out hp h
    unfold SR2Text at h
    split at h
    · refine ⟨by simp [Tryd.f19], ?_⟩
      rw [gR2Text_eq]
      exact (nR2Text _ hp).trans h
    · cases h)
theorem soundR2Number (hm : MXo) : OKo 30 preR2Number SR2Number :=
  read_sound (E := ER2Number) (N := 40) (keep := false) hm (fun g => (sound_pick (soundR2Digits hm) sound_none)) Tryd.func30 rfl rfl loopsR2Number rfl (by
    intro xs obs out hp h
    unfold SR2Number at h
    split at h
    · refine ⟨by simp [Tryd.f30], ?_⟩
      rw [gR2Number_eq]
      exact (nR2Number _ _ hp).trans h
    · cases h)
theorem soundORead (hm : MXo) : OKo 16 preORead SORead :=
  read_sound (E := EORead) (N := 40) (keep := false) hm (fun g => (sound_pick (soundOFit hm) (sound_pick (soundOText hm) (sound_pick (soundSCount hm) (sound_pick (soundSSplit hm) (sound_pick (soundSParse hm) sound_none)))))) Tryd.func16 rfl rfl loopsORead rfl (by
    intro xs obs out hp h
    unfold SORead at h
    split at h
    · refine ⟨by simp [Tryd.f16], ?_⟩
      rw [gORead_eq]
      exact (nORead _ hp).trans h
    · cases h)
theorem soundR2Read (hm : MXo) : OKo 18 preR2Read SR2Read :=
  read_sound (E := ER2Read) (N := 40) (keep := false) hm (fun g => (sound_pick (soundR2Fit hm) (sound_pick (soundR2Number hm) sound_none))) Tryd.func18 rfl rfl loopsR2Read rfl (by
    intro xs obs out hp h
    unfold SR2Read at h
    split at h
    · refine ⟨by simp [Tryd.f18], ?_⟩
      rw [gR2Read_eq]
      exact (nR2Read _ hp).trans h
    · cases h)
theorem soundLAwake (hm : MXo) : OKo 7 preLAwake SLAwake :=
  read_sound (E := ELAwake) (N := 40) (keep := false) hm (fun g => (sound_pick (soundOParse hm) (sound_pick (soundR1Same hm) (sound_pick (soundOBytes hm) (sound_pick (soundORead hm) sound_none))))) Tryd.func7 rfl rfl loopsLAwake rfl (by
    intro xs obs out hp h
    unfold SLAwake at h
    split at h
    · refine ⟨by simp [Tryd.f7], ?_⟩
      rw [gLAwake_eq]
      exact (nLAwake hp).trans h
    · cases h)
theorem soundLTells (hm : MXo) : OKo 3 preLTells SLTells :=
  read_sound (E := ELTells) (N := 40) (keep := false) hm (fun g => (sound_pick (soundLAwake hm) (sound_pick (soundOParse hm) (sound_pick (soundR2Parse hm) (sound_pick (soundOFit hm) (sound_pick (soundR2Fit hm) (sound_pick (soundR1Same hm) (sound_pick (soundOBytes hm) (sound_pick (soundR2Bytes hm) (sound_pick (soundR2Same hm) sound_none)))))))))) Tryd.func3 rfl rfl loopsLTells rfl (by
    intro xs obs out hp h
    unfold SLTells at h
    split at h
    · refine ⟨by simp [Tryd.f3], ?_⟩
      rw [gLTells_eq]
      exact (nLTells _ _ hp).trans h
    · cases h)
theorem soundLTexts (hm : MXo) : OKo 6 preLTexts SLTexts :=
  read_sound (E := ELTexts) (N := 40) (keep := false) hm (fun g => (sound_pick (soundLAwake hm) (sound_pick (soundR2Same hm) (sound_pick (soundORead hm) (sound_pick (soundOText hm) (sound_pick (soundR2Read hm) (sound_pick (soundR2Text hm) (sound_pick (soundOSame hm) sound_none)))))))) Tryd.func6 rfl rfl loopsLTexts rfl (by
    intro xs obs out hp h
    unfold SLTexts at h
    split at h
    · refine ⟨by simp [Tryd.f6], ?_⟩
      rw [gLTexts_eq]
      exact (nLTexts _ _ _ hp).trans h
    · cases h)
theorem soundLBack (hm : MXo) : OKo 4 preLBack SLBack :=
  read_sound (E := ELBack) (N := 40) (keep := false) hm (fun g => (sound_pick (soundLAwake hm) (sound_pick (soundOParse hm) (sound_pick (soundR2Fit hm) (sound_pick (soundR1Same hm) (sound_pick (soundOBytes hm) (sound_pick (soundR2Same hm) (sound_pick (soundORead hm) (sound_pick (soundOText hm) sound_none))))))))) Tryd.func4 rfl rfl loopsLBack rfl (by
    intro xs obs out hp h
    unfold SLBack at h
    split at h
    · refine ⟨by simp [Tryd.f4], ?_⟩
      rw [gLBack_eq]
      exact (nLBack _ _ _ hp).trans h
    · cases h)
theorem soundLUnlike (hm : MXo) : OKo 5 preLUnlike SLUnlike :=
  read_sound (E := ELUnlike) (N := 40) (keep := false) hm (fun g => (sound_pick (soundLAwake hm) (sound_pick (soundR2Fit hm) (sound_pick (soundR1Same hm) (sound_pick (soundOBytes hm) (sound_pick (soundR2Same hm) sound_none)))))) Tryd.func5 rfl rfl loopsLUnlike rfl (by
    intro xs obs out hp h
    unfold SLUnlike at h
    split at h
    · refine ⟨by simp [Tryd.f5], ?_⟩
      rw [gLUnlike_eq]
      exact (nLUnlike _ _ hp).trans h
    · cases h)
end Go.Proofs.YtgkedgpgfmibhaaDoorA
