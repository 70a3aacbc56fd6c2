/-
  The contracts of encoding/hex that the walks use, laid at this dump by the guide's tools (lay-shelf, then lay-plain), cut down to the three that are used.
-/
import Derived.Shelf.Hex.Tagged
import Derived.Shelf.Hex.Lens
import Derived.Shelf.Hex.Encode
import Derived.Test.Qxb6002389aFmtProg
namespace Go.Proofs
open Go.Shelf
def Tryf.laysPa44_ren : Go.Shelf.Ren := ⟨fun | 44 => 17 | n => n, fun | 30 => 36 | 3 => 3 | 35 => 26 | 4 => 4 | 0 => 0 | 5 => 5 | 9 => 9 | 47 => 45 | 46 => 34 | 45 => 24 | n => n, fun | 0 => 0 | n => n⟩
theorem Tryf.laysPa44 : Go.Proofs.Lays.p44 Tryf.prog Tryf.laysPa44_ren := {
  mixed := by kernel_rfl
  f44 := Tryf.func17.trans (congrArg some (by kernel_rfl))
  t0 := Tryf.underlying0
  a0 := Tryf.isAgg0
  z0 := Tryf.sizeOf0
  v0 := Tryf.zeroValue0
  t3 := Tryf.underlying3
  a3 := Tryf.isAgg3
  z3 := Tryf.sizeOf3
  v3 := Tryf.zeroValue3
  t4 := Tryf.underlying4
  a4 := Tryf.isAgg4
  z4 := Tryf.sizeOf4
  v4 := Tryf.zeroValue4
  t5 := Tryf.underlying5
  a5 := Tryf.isAgg5
  z5 := Tryf.sizeOf5
  v5 := Tryf.zeroValue5
  t9 := Tryf.underlying9
  a9 := Tryf.isAgg9
  z9 := Tryf.sizeOf9
  v9 := Tryf.zeroValue9
  t30 := Tryf.underlying36
  a30 := Tryf.isAgg36
  z30 := Tryf.sizeOf36
  v30 := Tryf.zeroValue36
  t35 := Tryf.underlying26
  a35 := Tryf.isAgg26
  z35 := Tryf.sizeOf26
  v35 := Tryf.zeroValue26
  t45 := Tryf.underlying24
  a45 := Tryf.isAgg24
  z45 := Tryf.sizeOf24
  v45 := Tryf.zeroValue24
  t46 := Tryf.underlying34
  a46 := Tryf.isAgg34
  z46 := Tryf.sizeOf34
  v46 := Tryf.zeroValue34
  t47 := Tryf.underlying45
  a47 := Tryf.isAgg45
  z47 := Tryf.sizeOf45
  v47 := Tryf.zeroValue45
  g0 := by kernel_rfl }
open Go.RowKit Go.Lib in
theorem Tryf.hex_Decode_tag (T : TypeId) (bd od nd cd N : Nat) (f : Nat → Value) (bs os n cs : Nat) (xs : List Int) (w : World) (ev : Value) (hx : xs.length = n) (hr : ∀ i, i < n → 0 ≤ xs.getD i 0 ∧ xs.getD i 0 < 256) (hsrc : ∀ i, i < n → w.cell? ⟨bs, os + i, none⟩ = some (.int .u8 (xs.getD i 0))) (hrow : w.rowIs bd T N f) (hfit : od + nd ≤ N) (hlen : n / 2 ≤ nd) (hne : bd ≠ bs) (hbig : n ≤ 4611686018427387903) (hE : w.cell? ⟨0, 0, none⟩ = some ev) (hgb : 0 ≠ bd) :
    Calls Tryf.prog 17 #[.slice (some ⟨bd, od, none⟩) nd cd, .slice (some ⟨bs, os, none⟩) n cs] w fun e w' =>
      e = .returned (.tuple #[.int .i64 ((Hx.decode (Lib.bytesOf xs)).1.length : Int), Hx.errVal 45 ev (Hx.decode (Lib.bytesOf xs)).2]) ∧ w'.rowIs bd T N (Hx.rowP f od (Hx.decode (Lib.bytesOf xs)).1) ∧ w.grownBy w' (some bd) := Any.hex_Decode_tag Tryf.laysPa44 T bd od nd cd N f bs os n cs xs w ev hx hr hsrc hrow hfit hlen hne hbig hE hgb
def Tryf.laysPa41_ren : Go.Shelf.Ren := ⟨fun | 41 => 15 | n => n, fun | 3 => 3 | n => n, fun | n => n⟩
theorem Tryf.laysPa41 : Go.Proofs.Lays.p41 Tryf.prog Tryf.laysPa41_ren := {
  mixed := by kernel_rfl
  f41 := Tryf.func15.trans (congrArg some (by kernel_rfl))
  t3 := Tryf.underlying3
  a3 := Tryf.isAgg3
  z3 := Tryf.sizeOf3
  v3 := Tryf.zeroValue3 }
open Go.RowKit Go.Lib in
theorem Tryf.hex_EncodedLen (n : Int) (h0 : 0 ≤ n) (h1 : n < 4611686018427387904) (w : World) :
    Calls Tryf.prog 15 #[.int .i64 n] w fun e w' => e = .returned (.int .i64 (n * 2)) ∧ w' = w := Any.hex_EncodedLen Tryf.laysPa41 n h0 h1 w
def Tryf.laysPah39_ren : Go.Shelf.Ren := ⟨fun | 39 => 14 | 41 => 15 | 40 => 18 | n => n, fun | 30 => 36 | 9 => 9 | 3 => 3 | 0 => 0 | 5 => 5 | 46 => 34 | n => n, fun | n => n⟩
theorem Tryf.laysPah39 : Go.Proofs.Lays.ph39 Tryf.prog Tryf.laysPah39_ren := {
  mixed := by kernel_rfl
  f39 := Tryf.func14.trans (congrArg some (by kernel_rfl))
  f40 := Tryf.func18.trans (congrArg some (by kernel_rfl))
  f41 := Tryf.func15.trans (congrArg some (by kernel_rfl))
  t0 := Tryf.underlying0
  a0 := Tryf.isAgg0
  z0 := Tryf.sizeOf0
  v0 := Tryf.zeroValue0
  t3 := Tryf.underlying3
  a3 := Tryf.isAgg3
  z3 := Tryf.sizeOf3
  v3 := Tryf.zeroValue3
  t5 := Tryf.underlying5
  a5 := Tryf.isAgg5
  z5 := Tryf.sizeOf5
  v5 := Tryf.zeroValue5
  t9 := Tryf.underlying9
  a9 := Tryf.isAgg9
  z9 := Tryf.sizeOf9
  v9 := Tryf.zeroValue9
  t30 := Tryf.underlying36
  a30 := Tryf.isAgg36
  z30 := Tryf.sizeOf36
  v30 := Tryf.zeroValue36
  t46 := Tryf.underlying34
  a46 := Tryf.isAgg34
  z46 := Tryf.sizeOf34
  v46 := Tryf.zeroValue34
  info5 := by kernel_rfl }
open Go.RowKit Go.Lib in
theorem Tryf.hex_EncodeToString (bs os n cs : Nat) (xs : List Int) (w : World) (hx : xs.length = n) (hr : ∀ i, i < n → 0 ≤ xs.getD i 0 ∧ xs.getD i 0 < 256) (hsrc : ∀ i, i < n → w.cell? ⟨bs, os + i, none⟩ = some (.int .u8 (xs.getD i 0))) (hb : bs < w.heap.size) (hbig : 2 * n ≤ 281474976710656) :
    Calls Tryf.prog 14 #[.slice (some ⟨bs, os, none⟩) n cs] w fun e w' => e = .returned (.string ⟨(Hx.encode (Lib.bytesOf xs)).toArray⟩) ∧ Below w.heap.size w w' := Any.hex_EncodeToString Tryf.laysPah39 bs os n cs xs w hx hr hsrc hb hbig
end Go.Proofs
