/-
  DERIVED: THE SHELF's CONTRACTS AT THIS DUMP, IN PLAIN WORDS (tools/lay-plain.mjs out of 'Qxb6608719aDoorShelf.lean', which tools/lay-shelf.mjs wrote): THE SAME DECLARATIONS UNDER THE SAME NAMES: 'import', 'namespace', 'open', 'def', 'theorem' AND NOTHING ELSE: no command of the shelf's: FOR A HAND-IN. Each laying: the table of numbers ('.._ren') and one theorem, a field a fact of the dump's own or the kernel's comparison; each contract: ONE APPLICATION.
-/
import Derived.Ground.PaProg
import Derived.Shelf.Hex.Tagged
import Derived.Shelf.Hex.Lens
import Derived.Shelf.Hex.Encode
import Derived.Shelf.Hex.Decode
import Derived.Shelf.Hex.DecodeOwns
import Derived.Shelf.Hex.More
import Derived.Test.Qxb6608719aDoorProg
namespace Go.Proofs
open Go.Shelf
def Tryd.laysPa40_ren : Go.Shelf.Ren := ⟨fun | 40 => 44 | n => n, fun | 30 => 31 | 3 => 3 | 0 => 0 | 5 => 5 | 46 => 41 | 9 => 9 | n => n, fun | n => n⟩
theorem Tryd.laysPa40 : Go.Proofs.Lays.p40 Tryd.prog Tryd.laysPa40_ren := {
  mixed := by kernel_rfl
  f40 := Tryd.func44.trans (congrArg some (by kernel_rfl))
  t0 := Tryd.underlying0
  a0 := Tryd.isAgg0
  z0 := Tryd.sizeOf0
  v0 := Tryd.zeroValue0
  t3 := Tryd.underlying3
  a3 := Tryd.isAgg3
  z3 := Tryd.sizeOf3
  v3 := Tryd.zeroValue3
  t5 := Tryd.underlying5
  a5 := Tryd.isAgg5
  z5 := Tryd.sizeOf5
  v5 := Tryd.zeroValue5
  t9 := Tryd.underlying9
  a9 := Tryd.isAgg9
  z9 := Tryd.sizeOf9
  v9 := Tryd.zeroValue9
  t30 := Tryd.underlying31
  a30 := Tryd.isAgg31
  z30 := Tryd.sizeOf31
  v30 := Tryd.zeroValue31
  t46 := Tryd.underlying41
  a46 := Tryd.isAgg41
  z46 := Tryd.sizeOf41
  v46 := Tryd.zeroValue41 }
open Go.RowKit Go.Lib in
/-- encoding/hex.Encode: "Encode encodes src into EncodedLen(len(src)) bytes of dst. As a convenience, it returns the number of bytes written to dst, but this value is always EncodedLen(len(src)). Encode implements hexadecimal encoding.": dst: nd places from place od on of a row (block bd: N cells of uint8, none frozen, holding 'f'), with room for the digits; src: n cells of ANOTHER block, holding the numbers xs, each a byte's. IT RETURNS n * 2; THE ROW THEN HOLDS 'Hx.row f od (the bytes of src) n': the 2 * n digits of 'Hx.encode' from place od on, else what it held; nothing else has turned ('grownBy'). THE FORM '_tag': THE DESTINATION's BLOCK MAY BEAR WHATEVER TYPE's NUMBER 'T' (the elder form asks uint8's own: true of 'make([]byte, n)', false of 'var buf [3]byte; ..(buf[:], ..)': an array variable's block bears THE ARRAY's number). (LAID: no walk: one application.) -/
theorem Tryd.hex_Encode_tag (T : TypeId) (bd od nd cd N : Nat) (f : Nat → Value) (bs os n cs : Nat) (xs : List Int) (w : World) (hx : xs.length = n) (hr : ∀ i, i < n → 0 ≤ xs.getD i 0 ∧ xs.getD i 0 < 256) (hsrc : ∀ i, i < n → w.cell? ⟨bs, os + i, none⟩ = some (.int .u8 (xs.getD i 0))) (hrow : w.rowIs bd T N f) (hfit : od + nd ≤ N) (hlen : 2 * n ≤ nd) (hne : bd ≠ bs) (hbig : n ≤ 4611686018427387903) :
    Calls Tryd.prog 44 #[.slice (some ⟨bd, od, none⟩) nd cd, .slice (some ⟨bs, os, none⟩) n cs] w fun e w' => e = .returned (.int .i64 ((n : Int) * 2)) ∧ w'.rowIs bd T N (Hx.row f od (Lib.bytesOf xs) n) ∧ w.grownBy w' (some bd) := Any.hex_Encode_tag Tryd.laysPa40 T bd od nd cd N f bs os n cs xs w hx hr hsrc hrow hfit hlen hne hbig
def Tryd.laysPa44_ren : Go.Shelf.Ren := ⟨fun | 44 => 42 | n => n, fun | 30 => 31 | 3 => 3 | 35 => 28 | 4 => 4 | 0 => 0 | 5 => 5 | 9 => 9 | 47 => 75 | 46 => 41 | 45 => 79 | n => n, fun | 0 => 7 | n => n⟩
theorem Tryd.laysPa44 : Go.Proofs.Lays.p44 Tryd.prog Tryd.laysPa44_ren := {
  mixed := by kernel_rfl
  f44 := Tryd.func42.trans (congrArg some (by kernel_rfl))
  t0 := Tryd.underlying0
  a0 := Tryd.isAgg0
  z0 := Tryd.sizeOf0
  v0 := Tryd.zeroValue0
  t3 := Tryd.underlying3
  a3 := Tryd.isAgg3
  z3 := Tryd.sizeOf3
  v3 := Tryd.zeroValue3
  t4 := Tryd.underlying4
  a4 := Tryd.isAgg4
  z4 := Tryd.sizeOf4
  v4 := Tryd.zeroValue4
  t5 := Tryd.underlying5
  a5 := Tryd.isAgg5
  z5 := Tryd.sizeOf5
  v5 := Tryd.zeroValue5
  t9 := Tryd.underlying9
  a9 := Tryd.isAgg9
  z9 := Tryd.sizeOf9
  v9 := Tryd.zeroValue9
  t30 := Tryd.underlying31
  a30 := Tryd.isAgg31
  z30 := Tryd.sizeOf31
  v30 := Tryd.zeroValue31
  t35 := Tryd.underlying28
  a35 := Tryd.isAgg28
  z35 := Tryd.sizeOf28
  v35 := Tryd.zeroValue28
  t45 := Tryd.underlying79
  a45 := Tryd.isAgg79
  z45 := Tryd.sizeOf79
  v45 := Tryd.zeroValue79
  t46 := Tryd.underlying41
  a46 := Tryd.isAgg41
  z46 := Tryd.sizeOf41
  v46 := Tryd.zeroValue41
  t47 := Tryd.underlying75
  a47 := Tryd.isAgg75
  z47 := Tryd.sizeOf75
  v47 := Tryd.zeroValue75
  g0 := by kernel_rfl }
open Go.RowKit Go.Lib in
/-- encoding/hex.Decode, FOR EVERY src THAT IS NOT nil: "Decode decodes src into DecodedLen(len(src)) bytes, returning the actual number of bytes written to dst. Decode expects that src contains only hexadecimal characters and that src has even length. If the input is malformed, Decode returns the number of bytes decoded before the error.": dst: nd places from place od on of a row (block bd), with room for len(src) / 2 bytes; src: n cells of ANOTHER block, holding the numbers xs, each a byte's; 'ev': what the variable encoding/hex.ErrLength holds. IT RETURNS (how many bytes 'Hx.decode' gives, the error by how it ends: nil ¦ InvalidByteError(c) ¦ ErrLength's content); THE ROW THEN HOLDS those bytes from place od on ('Hx.rowP'); nothing else has turned. THE FORM '_tag': THE DESTINATION's BLOCK MAY BEAR WHATEVER TYPE's NUMBER 'T' (the elder form asks uint8's own: true of 'make([]byte, n)', false of 'var buf [3]byte; ..(buf[:], ..)': an array variable's block bears THE ARRAY's number). (LAID: no walk: one application.) -/
theorem Tryd.hex_Decode_tag (T : TypeId) (bd od nd cd N : Nat) (f : Nat → Value) (bs os n cs : Nat) (xs : List Int) (w : World) (ev : Value) (hx : xs.length = n) (hr : ∀ i, i < n → 0 ≤ xs.getD i 0 ∧ xs.getD i 0 < 256) (hsrc : ∀ i, i < n → w.cell? ⟨bs, os + i, none⟩ = some (.int .u8 (xs.getD i 0))) (hrow : w.rowIs bd T N f) (hfit : od + nd ≤ N) (hlen : n / 2 ≤ nd) (hne : bd ≠ bs) (hbig : n ≤ 4611686018427387903) (hE : w.cell? ⟨7, 0, none⟩ = some ev) (hgb : 7 ≠ bd) :
    Calls Tryd.prog 42 #[.slice (some ⟨bd, od, none⟩) nd cd, .slice (some ⟨bs, os, none⟩) n cs] w fun e w' =>
      e = .returned (.tuple #[.int .i64 ((Hx.decode (Lib.bytesOf xs)).1.length : Int), Hx.errVal 75 ev (Hx.decode (Lib.bytesOf xs)).2]) ∧ w'.rowIs bd T N (Hx.rowP f od (Hx.decode (Lib.bytesOf xs)).1) ∧ w.grownBy w' (some bd) := Any.hex_Decode_tag Tryd.laysPa44 T bd od nd cd N f bs os n cs xs w ev hx hr hsrc hrow hfit hlen hne hbig hE hgb
def Tryd.laysPa41_ren : Go.Shelf.Ren := ⟨fun | 41 => 43 | n => n, fun | 3 => 3 | n => n, fun | n => n⟩
theorem Tryd.laysPa41 : Go.Proofs.Lays.p41 Tryd.prog Tryd.laysPa41_ren := {
  mixed := by kernel_rfl
  f41 := Tryd.func43.trans (congrArg some (by kernel_rfl))
  t3 := Tryd.underlying3
  a3 := Tryd.isAgg3
  z3 := Tryd.sizeOf3
  v3 := Tryd.zeroValue3 }
open Go.RowKit Go.Lib in
/-- encoding/hex.EncodedLen: "EncodedLen returns the length of an encoding of n source bytes. Specifically, it returns n * 2.": for 0 ≤ n < 2^62 (beyond it int's product wraps). (LAID: no walk: one application.) -/
theorem Tryd.hex_EncodedLen (n : Int) (h0 : 0 ≤ n) (h1 : n < 4611686018427387904) (w : World) :
    Calls Tryd.prog 43 #[.int .i64 n] w fun e w' => e = .returned (.int .i64 (n * 2)) ∧ w' = w := Any.hex_EncodedLen Tryd.laysPa41 n h0 h1 w
def Tryd.laysPa42_ren : Go.Shelf.Ren := ⟨fun | 42 => 41 | n => n, fun | 3 => 3 | n => n, fun | n => n⟩
theorem Tryd.laysPa42 : Go.Proofs.Lays.p42 Tryd.prog Tryd.laysPa42_ren := {
  mixed := by kernel_rfl
  f42 := Tryd.func41.trans (congrArg some (by kernel_rfl))
  t3 := Tryd.underlying3
  a3 := Tryd.isAgg3
  z3 := Tryd.sizeOf3
  v3 := Tryd.zeroValue3 }
open Go.RowKit Go.Lib in
/-- encoding/hex.DecodedLen: "DecodedLen returns the length of a decoding of x source bytes. Specifically, it returns x / 2.": for 0 ≤ x. (LAID: no walk: one application.) -/
theorem Tryd.hex_DecodedLen (x : Int) (h0 : 0 ≤ x) (h1 : x < 9223372036854775808) (w : World) :
    Calls Tryd.prog 41 #[.int .i64 x] w fun e w' => e = .returned (.int .i64 (x / 2)) ∧ w' = w := Any.hex_DecodedLen Tryd.laysPa42 x h0 h1 w
open Go.RowKit Go.Lib in
/-- encoding/hex.Encode: "Encode encodes src into EncodedLen(len(src)) bytes of dst. As a convenience, it returns the number of bytes written to dst, but this value is always EncodedLen(len(src)). Encode implements hexadecimal encoding.": dst: nd places from place od on of a row (block bd: N cells of uint8, none frozen, holding 'f'), with room for the digits; src: n cells of ANOTHER block, holding the numbers xs, each a byte's. IT RETURNS n * 2; THE ROW THEN HOLDS 'Hx.row f od (the bytes of src) n': the 2 * n digits of 'Hx.encode' from place od on, else what it held; nothing else has turned ('grownBy'). (LAID: no walk: one application.) -/
theorem Tryd.hex_Encode (bd od nd cd N : Nat) (f : Nat → Value) (bs os n cs : Nat) (xs : List Int) (w : World) (hx : xs.length = n) (hr : ∀ i, i < n → 0 ≤ xs.getD i 0 ∧ xs.getD i 0 < 256) (hsrc : ∀ i, i < n → w.cell? ⟨bs, os + i, none⟩ = some (.int .u8 (xs.getD i 0))) (hrow : w.rowIs bd 5 N f) (hfit : od + nd ≤ N) (hlen : 2 * n ≤ nd) (hne : bd ≠ bs) (hbig : n ≤ 4611686018427387903) :
    Calls Tryd.prog 44 #[.slice (some ⟨bd, od, none⟩) nd cd, .slice (some ⟨bs, os, none⟩) n cs] w fun e w' => e = .returned (.int .i64 ((n : Int) * 2)) ∧ w'.rowIs bd 5 N (Hx.row f od (Lib.bytesOf xs) n) ∧ w.grownBy w' (some bd) := Any.hex_Encode Tryd.laysPa40 bd od nd cd N f bs os n cs xs w hx hr hsrc hrow hfit hlen hne hbig
def Tryd.laysPah39_ren : Go.Shelf.Ren := ⟨fun | 39 => 38 | 41 => 43 | 40 => 44 | n => n, fun | 30 => 31 | 9 => 9 | 3 => 3 | 0 => 0 | 5 => 5 | 46 => 41 | n => n, fun | n => n⟩
theorem Tryd.laysPah39 : Go.Proofs.Lays.ph39 Tryd.prog Tryd.laysPah39_ren := {
  mixed := by kernel_rfl
  f39 := Tryd.func38.trans (congrArg some (by kernel_rfl))
  f40 := Tryd.func44.trans (congrArg some (by kernel_rfl))
  f41 := Tryd.func43.trans (congrArg some (by kernel_rfl))
  t0 := Tryd.underlying0
  a0 := Tryd.isAgg0
  z0 := Tryd.sizeOf0
  v0 := Tryd.zeroValue0
  t3 := Tryd.underlying3
  a3 := Tryd.isAgg3
  z3 := Tryd.sizeOf3
  v3 := Tryd.zeroValue3
  t5 := Tryd.underlying5
  a5 := Tryd.isAgg5
  z5 := Tryd.sizeOf5
  v5 := Tryd.zeroValue5
  t9 := Tryd.underlying9
  a9 := Tryd.isAgg9
  z9 := Tryd.sizeOf9
  v9 := Tryd.zeroValue9
  t30 := Tryd.underlying31
  a30 := Tryd.isAgg31
  z30 := Tryd.sizeOf31
  v30 := Tryd.zeroValue31
  t46 := Tryd.underlying41
  a46 := Tryd.isAgg41
  z46 := Tryd.sizeOf41
  v46 := Tryd.zeroValue41
  info5 := by kernel_rfl }
open Go.RowKit Go.Lib in
/-- encoding/hex.EncodeToString: "EncodeToString returns the hexadecimal encoding of src.": src: n cells holding the numbers xs, each a byte's. IT RETURNS THE STRING OF 'Hx.encode (the bytes of src)'; what was there before the call is as it was ('Below': the call lays one new block). IT ASKS 2 * n ≤ 2^48 (makeslice's own limit). (LAID: no walk: one application.) -/
theorem Tryd.hex_EncodeToString (bs os n cs : Nat) (xs : List Int) (w : World) (hx : xs.length = n) (hr : ∀ i, i < n → 0 ≤ xs.getD i 0 ∧ xs.getD i 0 < 256) (hsrc : ∀ i, i < n → w.cell? ⟨bs, os + i, none⟩ = some (.int .u8 (xs.getD i 0))) (hb : bs < w.heap.size) (hbig : 2 * n ≤ 281474976710656) :
    Calls Tryd.prog 38 #[.slice (some ⟨bs, os, none⟩) n cs] w fun e w' => e = .returned (.string ⟨(Hx.encode (Lib.bytesOf xs)).toArray⟩) ∧ Below w.heap.size w w' := Any.hex_EncodeToString Tryd.laysPah39 bs os n cs xs w hx hr hsrc hb hbig
open Go.RowKit Go.Lib in
/-- encoding/hex.Encode AT A src THAT IS nil: nothing is written; it returns 0. (dst: whatever value.) (LAID: no walk: one application.) -/
theorem Tryd.hex_Encode_nil (dst : Value) (w : World) :
    Calls Tryd.prog 44 #[dst, .slice none 0 0] w fun e w' => e = .returned (.int .i64 0) ∧ w' = w := Any.hex_Encode_nil Tryd.laysPa40 dst w
open Go.RowKit Go.Lib in
/-- encoding/hex.EncodeToString AT A src THAT IS nil: IT RETURNS ""; what was there before the call is as it was. (LAID: no walk: one application.) -/
theorem Tryd.hex_EncodeToString_nil (w : World) :
    Calls Tryd.prog 38 #[.slice none 0 0] w fun e w' => e = .returned (.string ⟨#[]⟩) ∧ Below w.heap.size w w' := Any.hex_EncodeToString_nil Tryd.laysPah39 w
open Go.RowKit Go.Lib in
/-- encoding/hex.Decode, FOR EVERY src THAT IS NOT nil: "Decode decodes src into DecodedLen(len(src)) bytes, returning the actual number of bytes written to dst. Decode expects that src contains only hexadecimal characters and that src has even length. If the input is malformed, Decode returns the number of bytes decoded before the error.": dst: nd places from place od on of a row (block bd), with room for len(src) / 2 bytes; src: n cells of ANOTHER block, holding the numbers xs, each a byte's; 'ev': what the variable encoding/hex.ErrLength holds. IT RETURNS (how many bytes 'Hx.decode' gives, the error by how it ends: nil ¦ InvalidByteError(c) ¦ ErrLength's content); THE ROW THEN HOLDS those bytes from place od on ('Hx.rowP'); nothing else has turned. (LAID: no walk: one application.) -/
theorem Tryd.hex_Decode (bd od nd cd N : Nat) (f : Nat → Value) (bs os n cs : Nat) (xs : List Int) (w : World) (ev : Value) (hx : xs.length = n) (hr : ∀ i, i < n → 0 ≤ xs.getD i 0 ∧ xs.getD i 0 < 256) (hsrc : ∀ i, i < n → w.cell? ⟨bs, os + i, none⟩ = some (.int .u8 (xs.getD i 0))) (hrow : w.rowIs bd 5 N f) (hfit : od + nd ≤ N) (hlen : n / 2 ≤ nd) (hne : bd ≠ bs) (hbig : n ≤ 4611686018427387903) (hE : w.cell? ⟨7, 0, none⟩ = some ev) (hgb : 7 ≠ bd) :
    Calls Tryd.prog 42 #[.slice (some ⟨bd, od, none⟩) nd cd, .slice (some ⟨bs, os, none⟩) n cs] w fun e w' =>
      e = .returned (.tuple #[.int .i64 ((Hx.decode (Lib.bytesOf xs)).1.length : Int), Hx.errVal 75 ev (Hx.decode (Lib.bytesOf xs)).2]) ∧ w'.rowIs bd 5 N (Hx.rowP f od (Hx.decode (Lib.bytesOf xs)).1) ∧ w.grownBy w' (some bd) := Any.hex_Decode Tryd.laysPa44 bd od nd cd N f bs os n cs xs w ev hx hr hsrc hrow hfit hlen hne hbig hE hgb
def Tryd.laysPah43_ren : Go.Shelf.Ren := ⟨fun | 43 => 37 | 42 => 41 | 44 => 42 | n => n, fun | 9 => 9 | 30 => 31 | 35 => 28 | 3 => 3 | 38 => 65 | 4 => 4 | 0 => 0 | 5 => 5 | 47 => 75 | 46 => 41 | 45 => 79 | n => n, fun | 0 => 7 | n => n⟩
theorem Tryd.laysPah43 : Go.Proofs.Lays.ph43 Tryd.prog Tryd.laysPah43_ren := {
  mixed := by kernel_rfl
  f42 := Tryd.func41.trans (congrArg some (by kernel_rfl))
  f43 := Tryd.func37.trans (congrArg some (by kernel_rfl))
  f44 := Tryd.func42.trans (congrArg some (by kernel_rfl))
  t0 := Tryd.underlying0
  a0 := Tryd.isAgg0
  z0 := Tryd.sizeOf0
  v0 := Tryd.zeroValue0
  t3 := Tryd.underlying3
  a3 := Tryd.isAgg3
  z3 := Tryd.sizeOf3
  v3 := Tryd.zeroValue3
  t4 := Tryd.underlying4
  a4 := Tryd.isAgg4
  z4 := Tryd.sizeOf4
  v4 := Tryd.zeroValue4
  t5 := Tryd.underlying5
  a5 := Tryd.isAgg5
  z5 := Tryd.sizeOf5
  v5 := Tryd.zeroValue5
  t9 := Tryd.underlying9
  a9 := Tryd.isAgg9
  z9 := Tryd.sizeOf9
  v9 := Tryd.zeroValue9
  t30 := Tryd.underlying31
  a30 := Tryd.isAgg31
  z30 := Tryd.sizeOf31
  v30 := Tryd.zeroValue31
  t35 := Tryd.underlying28
  a35 := Tryd.isAgg28
  z35 := Tryd.sizeOf28
  v35 := Tryd.zeroValue28
  t38 := Tryd.underlying65
  a38 := Tryd.isAgg65
  z38 := Tryd.sizeOf65
  v38 := Tryd.zeroValue65
  t45 := Tryd.underlying79
  a45 := Tryd.isAgg79
  z45 := Tryd.sizeOf79
  v45 := Tryd.zeroValue79
  t46 := Tryd.underlying41
  a46 := Tryd.isAgg41
  z46 := Tryd.sizeOf41
  v46 := Tryd.zeroValue41
  t47 := Tryd.underlying75
  a47 := Tryd.isAgg75
  z47 := Tryd.sizeOf75
  v47 := Tryd.zeroValue75
  g0 := by kernel_rfl
  info5 := by kernel_rfl }
open Go.RowKit Go.Lib in
/-- encoding/hex.DecodeString, FOR EVERY s: "DecodeString returns the bytes represented by the hexadecimal string s. DecodeString expects that src contains only hexadecimal characters and that src has even length. If the input is malformed, DecodeString returns the bytes decoded before the error.": 'ev': what the variable encoding/hex.ErrLength holds. IT RETURNS (a slice at the head of A NEW BLOCK, the first that the call lays, of as many bytes as 'Hx.decode s' gives, capacity len(s) / 2; the error by how the decoding ends: nil ¦ InvalidByteError(c) ¦ ErrLength's content); THAT BLOCK IS A ROW WHICH HOLDS THOSE BYTES ('Hx.rowP'); what was there before the call is as it was ('Below'). IT ASKS len(s) ≤ 2^48. (LAID: no walk: one application.) -/
theorem Tryd.hex_DecodeString (s : ByteArray) (w : World) (ev : Value) (hE : w.cell? ⟨7, 0, none⟩ = some ev) (hbig : s.size ≤ 281474976710656) :
    Calls Tryd.prog 37 #[.string s] w fun e w' =>
      e = .returned (.tuple #[.slice (some ⟨w.heap.size, 0, none⟩) (Hx.decode s.data.toList).1.length (s.size / 2), Hx.errVal 75 ev (Hx.decode s.data.toList).2]) ∧
      w'.rowIs w.heap.size 5 (s.size / 2) (Hx.rowP (fun _ => .int .u8 0) 0 (Hx.decode s.data.toList).1) ∧ Below w.heap.size w w' := Any.hex_DecodeString Tryd.laysPah43 s w ev hE hbig
open Go.RowKit Go.Lib in
/-- encoding/hex.DecodeString: the result slice OWNS the bytes decoded. (LAID: no walk: one application.) -/
theorem Tryd.hex_DecodeString_owns (s : ByteArray) (w : World) (ev : Value) (hE : w.cell? ⟨7, 0, none⟩ = some ev) (hbig : s.size ≤ 281474976710656) :
    Calls Tryd.prog 37 #[.string s] w fun e w' => ∃ v, e = .returned (.tuple #[v, Hx.errVal 75 ev (Hx.decode s.data.toList).2]) ∧
      w'.ownsRow w.heap.size 5 1 v (Hx.decode s.data.toList).1.length ((Hx.decode s.data.toList).1.map fun b => Value.int .u8 (b.toNat : Int)) ∧ Below w.heap.size w w' := Any.hex_DecodeString_owns Tryd.laysPah43 s w ev hE hbig
open Go.RowKit Go.Lib in
/-- encoding/hex.Decode AT A src THAT IS nil: nothing is written; it returns (0, nil). (dst: whatever value.) (LAID: no walk: one application.) -/
theorem Tryd.hex_Decode_nil (dst : Value) (w : World) :
    Calls Tryd.prog 42 #[dst, .slice none 0 0] w fun e w' => e = .returned (.tuple #[.int .i64 0, .nilIface]) ∧ w' = w := Any.hex_Decode_nil Tryd.laysPa44 dst w
open Go.RowKit Go.Lib in
/-- encoding/hex.EncodeToString, the slice's content held AS BYTES. (LAID: no walk: one application.) -/
theorem Tryd.hex_EncodeToString_bytes (bs os cs : Nat) (l : List UInt8) (w : World) (hsrc : ∀ i (h : i < l.length), w.cell? ⟨bs, os + i, none⟩ = some (.int .u8 ((l[i]'h).toNat : Int))) (hb : bs < w.heap.size) (hbig : 2 * l.length ≤ 281474976710656) :
    Calls Tryd.prog 38 #[.slice (some ⟨bs, os, none⟩) l.length cs] w fun e w' => e = .returned (.string ⟨(Hx.encode l).toArray⟩) ∧ Below w.heap.size w w' := Any.hex_EncodeToString_bytes Tryd.laysPah39 bs os cs l w hsrc hb hbig
end Go.Proofs
