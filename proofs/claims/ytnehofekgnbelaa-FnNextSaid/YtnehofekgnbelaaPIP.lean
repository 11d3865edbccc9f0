/-
  net.parseIP, ParseIP.
-/
import Derived.Test.YtnehofekgnbelaaAs16
import Derived.Laws.Bits64b
namespace Go.Proofs.Ytnehofekgnbelaa
open Go.RowKit
set_option linter.unusedVariables false
set_option maxRecDepth 100000
set_option maxHeartbeats 1000000

theorem bt_is (v k b : Nat) (h : v / 256 ^ (7 - k) % 256 = b % 256) : bt v k = u8v (UInt8.ofNat b) := by
  unfold bt u8v
  rw [toNat_ofNat, h]
theorem long_four (N : Nat) (h : N < 4294967296) : as16L 0 (281470681743360 + N) = ((Ad.long ⟨false, N⟩).map u8v).toArray := by
  have z : ∀ k, bt 0 k = u8v 0 := fun k => bt_is 0 k 0 (by simp)
  have l0 : bt (281470681743360 + N) 0 = u8v 0 := bt_is _ 0 0 (show (281470681743360 + N) / 72057594037927936 % 256 = 0 by omega)
  have l1 : bt (281470681743360 + N) 1 = u8v 0 := bt_is _ 1 0 (show (281470681743360 + N) / 281474976710656 % 256 = 0 by omega)
  have l2 : bt (281470681743360 + N) 2 = u8v 255 := bt_is _ 2 255 (show (281470681743360 + N) / 1099511627776 % 256 = 255 by omega)
  have l3 : bt (281470681743360 + N) 3 = u8v 255 := bt_is _ 3 255 (show (281470681743360 + N) / 4294967296 % 256 = 255 by omega)
  have l4 : bt (281470681743360 + N) 4 = u8v (UInt8.ofNat (N / 16777216)) := bt_is _ 4 _ (show (281470681743360 + N) / 16777216 % 256 = N / 16777216 % 256 by omega)
  have l5 : bt (281470681743360 + N) 5 = u8v (UInt8.ofNat (N / 65536)) := bt_is _ 5 _ (show (281470681743360 + N) / 65536 % 256 = N / 65536 % 256 by omega)
  have l6 : bt (281470681743360 + N) 6 = u8v (UInt8.ofNat (N / 256)) := bt_is _ 6 _ (show (281470681743360 + N) / 256 % 256 = N / 256 % 256 by omega)
  have l7 : bt (281470681743360 + N) 7 = u8v (UInt8.ofNat N) := bt_is _ 7 _ (show (281470681743360 + N) / 1 % 256 = N % 256 by omega)
  unfold as16L
  rw [z, z, z, z, z, z, z, z, l0, l1, l2, l3, l4, l5, l6, l7]
  rfl
theorem long_six (n : Nat) (h : n < 65536) : as16L 2306139568115548160 n = ((Ad.long ⟨true, n⟩).map u8v).toArray := by
  have l6 : bt n 6 = u8v (UInt8.ofNat (n / 256)) := bt_is _ 6 _ (show n / 256 % 256 = n / 256 % 256 from rfl)
  have l7 : bt n 7 = u8v (UInt8.ofNat n) := bt_is _ 7 _ (show n / 1 % 256 = n % 256 by omega)
  have z0 : bt n 0 = u8v 0 := bt_is _ 0 0 (show n / 72057594037927936 % 256 = 0 by omega)
  have z1 : bt n 1 = u8v 0 := bt_is _ 1 0 (show n / 281474976710656 % 256 = 0 by omega)
  have z2 : bt n 2 = u8v 0 := bt_is _ 2 0 (show n / 1099511627776 % 256 = 0 by omega)
  have z3 : bt n 3 = u8v 0 := bt_is _ 3 0 (show n / 4294967296 % 256 = 0 by omega)
  have z4 : bt n 4 = u8v 0 := bt_is _ 4 0 (show n / 16777216 % 256 = 0 by omega)
  have z5 : bt n 5 = u8v 0 := bt_is _ 5 0 (show n / 65536 % 256 = 0 by omega)
  have h0 : bt 2306139568115548160 0 = u8v 32 := bt_is _ 0 32 (by decide)
  have h1 : bt 2306139568115548160 1 = u8v 1 := bt_is _ 1 1 (by decide)
  have h2 : bt 2306139568115548160 2 = u8v 13 := bt_is _ 2 13 (by decide)
  have h3 : bt 2306139568115548160 3 = u8v 184 := bt_is _ 3 184 (by decide)
  have h4 : bt 2306139568115548160 4 = u8v 0 := bt_is _ 4 0 (by decide)
  have h5 : bt 2306139568115548160 5 = u8v 0 := bt_is _ 5 0 (by decide)
  have h6 : bt 2306139568115548160 6 = u8v 0 := bt_is _ 6 0 (by decide)
  have h7 : bt 2306139568115548160 7 = u8v 0 := bt_is _ 7 0 (by decide)
  unfold as16L
  rw [h0, h1, h2, h3, h4, h5, h6, h7, z0, z1, z2, z3, z4, z5, l6, l7]
  rfl

end Go.Proofs.Ytnehofekgnbelaa
