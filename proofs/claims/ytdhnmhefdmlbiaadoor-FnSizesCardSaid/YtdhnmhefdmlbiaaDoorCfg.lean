/- The executor's configuration for this seat: its types, its functions; each row is what the loaded program has. -/
import Derived.Test.YtdhnmhefdmlbiaaDoorProg
import Derived.Test.YtdhnmhefdmlbiaaDoorSxK
namespace Go.Proofs.YtdhnmhefdmlbiaaDoor
open Go Go.Sx Go.Proofs
set_option maxRecDepth 100000
def ti3 : TI := { t := 3, desc := .int .i64, zero := .int .i64 0, size := 1, bytes := 8 }
theorem ti3_ok : TIok Tryd.prog ti3 := ⟨by kernel_rfl, by kernel_rfl⟩
def ti4 : TI := { t := 4, desc := .bool, zero := .bool false, size := 1, bytes := 1 }
theorem ti4_ok : TIok Tryd.prog ti4 := ⟨by kernel_rfl, by kernel_rfl⟩
def ti5 : TI := { t := 5, desc := .int .u8, zero := .int .u8 0, size := 1, bytes := 1 }
theorem ti5_ok : TIok Tryd.prog ti5 := ⟨by kernel_rfl, by kernel_rfl⟩
def ti32 : TI := { t := 32, desc := .slice 5, zero := .slice none 0 0, size := 1, bytes := 24 }
theorem ti32_ok : TIok Tryd.prog ti32 := ⟨by kernel_rfl, by kernel_rfl⟩
def ti33 : TI := { t := 33, desc := .pointer 44, zero := .pointer none, size := 1, bytes := 8 }
theorem ti33_ok : TIok Tryd.prog ti33 := ⟨by kernel_rfl, by kernel_rfl⟩
def ti36 : TI := { t := 36, desc := .pointer 50, zero := .pointer none, size := 1, bytes := 8 }
theorem ti36_ok : TIok Tryd.prog ti36 := ⟨by kernel_rfl, by kernel_rfl⟩
def ti39 : TI := { t := 39, desc := .int .u32, zero := .int .u32 0, size := 1, bytes := 4 }
theorem ti39_ok : TIok Tryd.prog ti39 := ⟨by kernel_rfl, by kernel_rfl⟩
def ti40 : TI := { t := 40, desc := .array 8 39, zero := .agg #[.int .u32 0, .int .u32 0, .int .u32 0, .int .u32 0, .int .u32 0, .int .u32 0, .int .u32 0, .int .u32 0], size := 8, bytes := 32 }
theorem ti40_ok : TIok Tryd.prog ti40 := ⟨by kernel_rfl, by kernel_rfl⟩
def ti41 : TI := { t := 41, desc := .array 2 39, zero := .agg #[.int .u32 0, .int .u32 0], size := 2, bytes := 8 }
theorem ti41_ok : TIok Tryd.prog ti41 := ⟨by kernel_rfl, by kernel_rfl⟩
def ti42 : TI := { t := 42, desc := .array 64 5, zero := .agg #[.int .u8 0, .int .u8 0, .int .u8 0, .int .u8 0, .int .u8 0, .int .u8 0, .int .u8 0, .int .u8 0, .int .u8 0, .int .u8 0, .int .u8 0, .int .u8 0, .int .u8 0, .int .u8 0, .int .u8 0, .int .u8 0, .int .u8 0, .int .u8 0, .int .u8 0, .int .u8 0, .int .u8 0, .int .u8 0, .int .u8 0, .int .u8 0, .int .u8 0, .int .u8 0, .int .u8 0, .int .u8 0, .int .u8 0, .int .u8 0, .int .u8 0, .int .u8 0, .int .u8 0, .int .u8 0, .int .u8 0, .int .u8 0, .int .u8 0, .int .u8 0, .int .u8 0, .int .u8 0, .int .u8 0, .int .u8 0, .int .u8 0, .int .u8 0, .int .u8 0, .int .u8 0, .int .u8 0, .int .u8 0, .int .u8 0, .int .u8 0, .int .u8 0, .int .u8 0, .int .u8 0, .int .u8 0, .int .u8 0, .int .u8 0, .int .u8 0, .int .u8 0, .int .u8 0, .int .u8 0, .int .u8 0, .int .u8 0, .int .u8 0, .int .u8 0], size := 64, bytes := 64 }
theorem ti42_ok : TIok Tryd.prog ti42 := ⟨by kernel_rfl, by kernel_rfl⟩
def ti44 : TI := { t := 44, desc := .struct #[{ name := "h", type := 40, offset := 0, embedded := false, tag := "", pkgPath := "loop.example/pub-g03123/pub/crypto/blake2s", byteOffset := 0 }, { name := "c", type := 41, offset := 8, embedded := false, tag := "", pkgPath := "loop.example/pub-g03123/pub/crypto/blake2s", byteOffset := 32 }, { name := "size", type := 3, offset := 10, embedded := false, tag := "", pkgPath := "loop.example/pub-g03123/pub/crypto/blake2s", byteOffset := 40 }, { name := "block", type := 42, offset := 11, embedded := false, tag := "", pkgPath := "loop.example/pub-g03123/pub/crypto/blake2s", byteOffset := 48 }, { name := "offset", type := 3, offset := 75, embedded := false, tag := "", pkgPath := "loop.example/pub-g03123/pub/crypto/blake2s", byteOffset := 112 }, { name := "key", type := 42, offset := 76, embedded := false, tag := "", pkgPath := "loop.example/pub-g03123/pub/crypto/blake2s", byteOffset := 120 }, { name := "keyLen", type := 3, offset := 140, embedded := false, tag := "", pkgPath := "loop.example/pub-g03123/pub/crypto/blake2s", byteOffset := 184 }], zero := .agg #[.int .u32 0, .int .u32 0, .int .u32 0, .int .u32 0, .int .u32 0, .int .u32 0, .int .u32 0, .int .u32 0, .int .u32 0, .int .u32 0, .int .i64 0, .int .u8 0, .int .u8 0, .int .u8 0, .int .u8 0, .int .u8 0, .int .u8 0, .int .u8 0, .int .u8 0, .int .u8 0, .int .u8 0, .int .u8 0, .int .u8 0, .int .u8 0, .int .u8 0, .int .u8 0, .int .u8 0, .int .u8 0, .int .u8 0, .int .u8 0, .int .u8 0, .int .u8 0, .int .u8 0, .int .u8 0, .int .u8 0, .int .u8 0, .int .u8 0, .int .u8 0, .int .u8 0, .int .u8 0, .int .u8 0, .int .u8 0, .int .u8 0, .int .u8 0, .int .u8 0, .int .u8 0, .int .u8 0, .int .u8 0, .int .u8 0, .int .u8 0, .int .u8 0, .int .u8 0, .int .u8 0, .int .u8 0, .int .u8 0, .int .u8 0, .int .u8 0, .int .u8 0, .int .u8 0, .int .u8 0, .int .u8 0, .int .u8 0, .int .u8 0, .int .u8 0, .int .u8 0, .int .u8 0, .int .u8 0, .int .u8 0, .int .u8 0, .int .u8 0, .int .u8 0, .int .u8 0, .int .u8 0, .int .u8 0, .int .u8 0, .int .i64 0, .int .u8 0, .int .u8 0, .int .u8 0, .int .u8 0, .int .u8 0, .int .u8 0, .int .u8 0, .int .u8 0, .int .u8 0, .int .u8 0, .int .u8 0, .int .u8 0, .int .u8 0, .int .u8 0, .int .u8 0, .int .u8 0, .int .u8 0, .int .u8 0, .int .u8 0, .int .u8 0, .int .u8 0, .int .u8 0, .int .u8 0, .int .u8 0, .int .u8 0, .int .u8 0, .int .u8 0, .int .u8 0, .int .u8 0, .int .u8 0, .int .u8 0, .int .u8 0, .int .u8 0, .int .u8 0, .int .u8 0, .int .u8 0, .int .u8 0, .int .u8 0, .int .u8 0, .int .u8 0, .int .u8 0, .int .u8 0, .int .u8 0, .int .u8 0, .int .u8 0, .int .u8 0, .int .u8 0, .int .u8 0, .int .u8 0, .int .u8 0, .int .u8 0, .int .u8 0, .int .u8 0, .int .u8 0, .int .u8 0, .int .u8 0, .int .u8 0, .int .u8 0, .int .u8 0, .int .u8 0, .int .u8 0, .int .u8 0, .int .u8 0, .int .u8 0, .int .i64 0], size := 141, bytes := 192 }
theorem ti44_ok : TIok Tryd.prog ti44 := ⟨by kernel_rfl, by kernel_rfl⟩
def ti45 : TI := { t := 45, desc := .int .u64, zero := .int .u64 0, size := 1, bytes := 8 }
theorem ti45_ok : TIok Tryd.prog ti45 := ⟨by kernel_rfl, by kernel_rfl⟩
def ti46 : TI := { t := 46, desc := .array 8 45, zero := .agg #[.int .u64 0, .int .u64 0, .int .u64 0, .int .u64 0, .int .u64 0, .int .u64 0, .int .u64 0, .int .u64 0], size := 8, bytes := 64 }
theorem ti46_ok : TIok Tryd.prog ti46 := ⟨by kernel_rfl, by kernel_rfl⟩
def ti47 : TI := { t := 47, desc := .array 2 45, zero := .agg #[.int .u64 0, .int .u64 0], size := 2, bytes := 16 }
theorem ti47_ok : TIok Tryd.prog ti47 := ⟨by kernel_rfl, by kernel_rfl⟩
def ti48 : TI := { t := 48, desc := .array 128 5, zero := .agg #[.int .u8 0, .int .u8 0, .int .u8 0, .int .u8 0, .int .u8 0, .int .u8 0, .int .u8 0, .int .u8 0, .int .u8 0, .int .u8 0, .int .u8 0, .int .u8 0, .int .u8 0, .int .u8 0, .int .u8 0, .int .u8 0, .int .u8 0, .int .u8 0, .int .u8 0, .int .u8 0, .int .u8 0, .int .u8 0, .int .u8 0, .int .u8 0, .int .u8 0, .int .u8 0, .int .u8 0, .int .u8 0, .int .u8 0, .int .u8 0, .int .u8 0, .int .u8 0, .int .u8 0, .int .u8 0, .int .u8 0, .int .u8 0, .int .u8 0, .int .u8 0, .int .u8 0, .int .u8 0, .int .u8 0, .int .u8 0, .int .u8 0, .int .u8 0, .int .u8 0, .int .u8 0, .int .u8 0, .int .u8 0, .int .u8 0, .int .u8 0, .int .u8 0, .int .u8 0, .int .u8 0, .int .u8 0, .int .u8 0, .int .u8 0, .int .u8 0, .int .u8 0, .int .u8 0, .int .u8 0, .int .u8 0, .int .u8 0, .int .u8 0, .int .u8 0, .int .u8 0, .int .u8 0, .int .u8 0, .int .u8 0, .int .u8 0, .int .u8 0, .int .u8 0, .int .u8 0, .int .u8 0, .int .u8 0, .int .u8 0, .int .u8 0, .int .u8 0, .int .u8 0, .int .u8 0, .int .u8 0, .int .u8 0, .int .u8 0, .int .u8 0, .int .u8 0, .int .u8 0, .int .u8 0, .int .u8 0, .int .u8 0, .int .u8 0, .int .u8 0, .int .u8 0, .int .u8 0, .int .u8 0, .int .u8 0, .int .u8 0, .int .u8 0, .int .u8 0, .int .u8 0, .int .u8 0, .int .u8 0, .int .u8 0, .int .u8 0, .int .u8 0, .int .u8 0, .int .u8 0, .int .u8 0, .int .u8 0, .int .u8 0, .int .u8 0, .int .u8 0, .int .u8 0, .int .u8 0, .int .u8 0, .int .u8 0, .int .u8 0, .int .u8 0, .int .u8 0, .int .u8 0, .int .u8 0, .int .u8 0, .int .u8 0, .int .u8 0, .int .u8 0, .int .u8 0, .int .u8 0, .int .u8 0, .int .u8 0, .int .u8 0], size := 128, bytes := 128 }
theorem ti48_ok : TIok Tryd.prog ti48 := ⟨by kernel_rfl, by kernel_rfl⟩
def ti50 : TI := { t := 50, desc := .struct #[{ name := "h", type := 46, offset := 0, embedded := false, tag := "", pkgPath := "loop.example/pub-g03123/pub/crypto/blake2b", byteOffset := 0 }, { name := "c", type := 47, offset := 8, embedded := false, tag := "", pkgPath := "loop.example/pub-g03123/pub/crypto/blake2b", byteOffset := 64 }, { name := "size", type := 3, offset := 10, embedded := false, tag := "", pkgPath := "loop.example/pub-g03123/pub/crypto/blake2b", byteOffset := 80 }, { name := "block", type := 48, offset := 11, embedded := false, tag := "", pkgPath := "loop.example/pub-g03123/pub/crypto/blake2b", byteOffset := 88 }, { name := "offset", type := 3, offset := 139, embedded := false, tag := "", pkgPath := "loop.example/pub-g03123/pub/crypto/blake2b", byteOffset := 216 }, { name := "key", type := 48, offset := 140, embedded := false, tag := "", pkgPath := "loop.example/pub-g03123/pub/crypto/blake2b", byteOffset := 224 }, { name := "keyLen", type := 3, offset := 268, embedded := false, tag := "", pkgPath := "loop.example/pub-g03123/pub/crypto/blake2b", byteOffset := 352 }], zero := .agg #[.int .u64 0, .int .u64 0, .int .u64 0, .int .u64 0, .int .u64 0, .int .u64 0, .int .u64 0, .int .u64 0, .int .u64 0, .int .u64 0, .int .i64 0, .int .u8 0, .int .u8 0, .int .u8 0, .int .u8 0, .int .u8 0, .int .u8 0, .int .u8 0, .int .u8 0, .int .u8 0, .int .u8 0, .int .u8 0, .int .u8 0, .int .u8 0, .int .u8 0, .int .u8 0, .int .u8 0, .int .u8 0, .int .u8 0, .int .u8 0, .int .u8 0, .int .u8 0, .int .u8 0, .int .u8 0, .int .u8 0, .int .u8 0, .int .u8 0, .int .u8 0, .int .u8 0, .int .u8 0, .int .u8 0, .int .u8 0, .int .u8 0, .int .u8 0, .int .u8 0, .int .u8 0, .int .u8 0, .int .u8 0, .int .u8 0, .int .u8 0, .int .u8 0, .int .u8 0, .int .u8 0, .int .u8 0, .int .u8 0, .int .u8 0, .int .u8 0, .int .u8 0, .int .u8 0, .int .u8 0, .int .u8 0, .int .u8 0, .int .u8 0, .int .u8 0, .int .u8 0, .int .u8 0, .int .u8 0, .int .u8 0, .int .u8 0, .int .u8 0, .int .u8 0, .int .u8 0, .int .u8 0, .int .u8 0, .int .u8 0, .int .u8 0, .int .u8 0, .int .u8 0, .int .u8 0, .int .u8 0, .int .u8 0, .int .u8 0, .int .u8 0, .int .u8 0, .int .u8 0, .int .u8 0, .int .u8 0, .int .u8 0, .int .u8 0, .int .u8 0, .int .u8 0, .int .u8 0, .int .u8 0, .int .u8 0, .int .u8 0, .int .u8 0, .int .u8 0, .int .u8 0, .int .u8 0, .int .u8 0, .int .u8 0, .int .u8 0, .int .u8 0, .int .u8 0, .int .u8 0, .int .u8 0, .int .u8 0, .int .u8 0, .int .u8 0, .int .u8 0, .int .u8 0, .int .u8 0, .int .u8 0, .int .u8 0, .int .u8 0, .int .u8 0, .int .u8 0, .int .u8 0, .int .u8 0, .int .u8 0, .int .u8 0, .int .u8 0, .int .u8 0, .int .u8 0, .int .u8 0, .int .u8 0, .int .u8 0, .int .u8 0, .int .u8 0, .int .u8 0, .int .u8 0, .int .u8 0, .int .u8 0, .int .u8 0, .int .u8 0, .int .u8 0, .int .u8 0, .int .u8 0, .int .u8 0, .int .i64 0, .int .u8 0, .int .u8 0, .int .u8 0, .int .u8 0, .int .u8 0, .int .u8 0, .int .u8 0, .int .u8 0, .int .u8 0, .int .u8 0, .int .u8 0, .int .u8 0, .int .u8 0, .int .u8 0, .int .u8 0, .int .u8 0, .int .u8 0, .int .u8 0, .int .u8 0, .int .u8 0, .int .u8 0, .int .u8 0, .int .u8 0, .int .u8 0, .int .u8 0, .int .u8 0, .int .u8 0, .int .u8 0, .int .u8 0, .int .u8 0, .int .u8 0, .int .u8 0, .int .u8 0, .int .u8 0, .int .u8 0, .int .u8 0, .int .u8 0, .int .u8 0, .int .u8 0, .int .u8 0, .int .u8 0, .int .u8 0, .int .u8 0, .int .u8 0, .int .u8 0, .int .u8 0, .int .u8 0, .int .u8 0, .int .u8 0, .int .u8 0, .int .u8 0, .int .u8 0, .int .u8 0, .int .u8 0, .int .u8 0, .int .u8 0, .int .u8 0, .int .u8 0, .int .u8 0, .int .u8 0, .int .u8 0, .int .u8 0, .int .u8 0, .int .u8 0, .int .u8 0, .int .u8 0, .int .u8 0, .int .u8 0, .int .u8 0, .int .u8 0, .int .u8 0, .int .u8 0, .int .u8 0, .int .u8 0, .int .u8 0, .int .u8 0, .int .u8 0, .int .u8 0, .int .u8 0, .int .u8 0, .int .u8 0, .int .u8 0, .int .u8 0, .int .u8 0, .int .u8 0, .int .u8 0, .int .u8 0, .int .u8 0, .int .u8 0, .int .u8 0, .int .u8 0, .int .u8 0, .int .u8 0, .int .u8 0, .int .u8 0, .int .u8 0, .int .u8 0, .int .u8 0, .int .u8 0, .int .u8 0, .int .u8 0, .int .u8 0, .int .u8 0, .int .u8 0, .int .u8 0, .int .u8 0, .int .u8 0, .int .u8 0, .int .u8 0, .int .u8 0, .int .u8 0, .int .u8 0, .int .u8 0, .int .u8 0, .int .u8 0, .int .u8 0, .int .u8 0, .int .u8 0, .int .u8 0, .int .u8 0, .int .u8 0, .int .u8 0, .int .u8 0, .int .u8 0, .int .u8 0, .int .u8 0, .int .u8 0, .int .u8 0, .int .i64 0], size := 269, bytes := 360 }
theorem ti50_ok : TIok Tryd.prog ti50 := ⟨by kernel_rfl, by kernel_rfl⟩
def ti51 : TI := { t := 51, desc := .int .u64, zero := .int .u64 0, size := 1, bytes := 8 }
theorem ti51_ok : TIok Tryd.prog ti51 := ⟨by kernel_rfl, by kernel_rfl⟩
def tabs : List TI := [ti3, ti4, ti5, ti32, ti33, ti36, ti39, ti40, ti41, ti42, ti44, ti45, ti46, ti47, ti48, ti50, ti51]
theorem tabs_ok : ∀ x ∈ tabs, TIok Tryd.prog x := by
  intro x hx
  simp only [tabs, List.mem_cons, List.not_mem_nil, or_false] at hx
  rcases hx with rfl | rfl | rfl | rfl | rfl | rfl | rfl | rfl | rfl | rfl | rfl | rfl | rfl | rfl | rfl | rfl | rfl
  · exact ti3_ok
  · exact ti4_ok
  · exact ti5_ok
  · exact ti32_ok
  · exact ti33_ok
  · exact ti36_ok
  · exact ti39_ok
  · exact ti40_ok
  · exact ti41_ok
  · exact ti42_ok
  · exact ti44_ok
  · exact ti45_ok
  · exact ti46_ok
  · exact ti47_ok
  · exact ti48_ok
  · exact ti50_ok
  · exact ti51_ok
theorem fn9_ok : FNok Tryd.prog (9, Tryd.f9) := ⟨Tryd.func9, by kernel_rfl, by kernel_rfl⟩
theorem fn10_ok : FNok Tryd.prog (10, Tryd.f10) := ⟨Tryd.func10, by kernel_rfl, by kernel_rfl⟩
theorem fn7_ok : FNok Tryd.prog (7, Tryd.f7) := ⟨Tryd.func7, by kernel_rfl, by kernel_rfl⟩
theorem fn8_ok : FNok Tryd.prog (8, Tryd.f8) := ⟨Tryd.func8, by kernel_rfl, by kernel_rfl⟩
noncomputable def fns : List (FuncId × Func) := [(9, Tryd.f9), (10, Tryd.f10)]
theorem fns_ok : ∀ x ∈ fns, FNok Tryd.prog x := by
  intro x hx
  simp only [fns, List.mem_cons, List.not_mem_nil, or_false] at hx
  rcases hx with rfl | rfl
  · exact fn9_ok
  · exact fn10_ok
noncomputable def fnsE : List (FuncId × Func) := [(7, Tryd.f7), (8, Tryd.f8)]
theorem fnsE_ok : ∀ x ∈ fnsE, FNok Tryd.prog x := by
  intro x hx
  simp only [fnsE, List.mem_cons, List.not_mem_nil, or_false] at hx
  rcases hx with rfl | rfl
  · exact fn7_ok
  · exact fn8_ok
/-- The configuration, with these names for the variables of a package, and these for cells that were there and are written. -/
noncomputable def cfgW (gl : List (Nat × Nat)) (w0s : List Nat) : Cfg := { tabs := tabs, fns := fns, w0s := w0s, gl := gl }
theorem cfgW_ok (gl : List (Nat × Nat)) (w0s : List Nat) : CfgOk Tryd.prog (cfgW gl w0s) := ⟨tabs_ok, fns_ok, by kernel_rfl⟩
/-- .. and with the functions that are entered by name. -/
noncomputable def cfgE (gl : List (Nat × Nat)) (w0s : List Nat) : Cfg := { tabs := tabs, fns := fnsE, w0s := w0s, gl := gl }
theorem cfgE_ok (gl : List (Nat × Nat)) (w0s : List Nat) : CfgOk Tryd.prog (cfgE gl w0s) := ⟨tabs_ok, fnsE_ok, by kernel_rfl⟩
end Go.Proofs.YtdhnmhefdmlbiaaDoor
