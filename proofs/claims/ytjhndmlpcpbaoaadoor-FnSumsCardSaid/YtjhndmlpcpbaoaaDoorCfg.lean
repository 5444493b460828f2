/- The executor's configuration for this seat: its types, its functions; each row is what the loaded program has. -/
import Derived.Test.YtjhndmlpcpbaoaaDoorProg
import Derived.Test.YtjhndmlpcpbaoaaDoorSxK
namespace Go.Proofs.YtjhndmlpcpbaoaaDoor
open Go Go.Sx Go.Proofs
set_option maxRecDepth 100000
def ti3 : TI := { t := 3, desc := .int .i64, zero := .int .i64 0, size := 1, bytes := 8 }
theorem ti3_ok : TIok Tryd.prog ti3 := ⟨by kernel_rfl, by kernel_rfl⟩
def ti4 : TI := { t := 4, desc := .bool, zero := .bool false, size := 1, bytes := 1 }
theorem ti4_ok : TIok Tryd.prog ti4 := ⟨by kernel_rfl, by kernel_rfl⟩
def ti5 : TI := { t := 5, desc := .int .u8, zero := .int .u8 0, size := 1, bytes := 1 }
theorem ti5_ok : TIok Tryd.prog ti5 := ⟨by kernel_rfl, by kernel_rfl⟩
def ti22 : TI := { t := 22, desc := .slice 5, zero := .slice none 0 0, size := 1, bytes := 24 }
theorem ti22_ok : TIok Tryd.prog ti22 := ⟨by kernel_rfl, by kernel_rfl⟩
def ti30 : TI := { t := 30, desc := .array 64 5, zero := .agg #[.int .u8 0, .int .u8 0, .int .u8 0, .int .u8 0, .int .u8 0, .int .u8 0, .int .u8 0, .int .u8 0, .int .u8 0, .int .u8 0, .int .u8 0, .int .u8 0, .int .u8 0, .int .u8 0, .int .u8 0, .int .u8 0, .int .u8 0, .int .u8 0, .int .u8 0, .int .u8 0, .int .u8 0, .int .u8 0, .int .u8 0, .int .u8 0, .int .u8 0, .int .u8 0, .int .u8 0, .int .u8 0, .int .u8 0, .int .u8 0, .int .u8 0, .int .u8 0, .int .u8 0, .int .u8 0, .int .u8 0, .int .u8 0, .int .u8 0, .int .u8 0, .int .u8 0, .int .u8 0, .int .u8 0, .int .u8 0, .int .u8 0, .int .u8 0, .int .u8 0, .int .u8 0, .int .u8 0, .int .u8 0, .int .u8 0, .int .u8 0, .int .u8 0, .int .u8 0, .int .u8 0, .int .u8 0, .int .u8 0, .int .u8 0, .int .u8 0, .int .u8 0, .int .u8 0, .int .u8 0, .int .u8 0, .int .u8 0, .int .u8 0, .int .u8 0], size := 64, bytes := 64 }
theorem ti30_ok : TIok Tryd.prog ti30 := ⟨by kernel_rfl, by kernel_rfl⟩
def ti32 : TI := { t := 32, desc := .array 48 5, zero := .agg #[.int .u8 0, .int .u8 0, .int .u8 0, .int .u8 0, .int .u8 0, .int .u8 0, .int .u8 0, .int .u8 0, .int .u8 0, .int .u8 0, .int .u8 0, .int .u8 0, .int .u8 0, .int .u8 0, .int .u8 0, .int .u8 0, .int .u8 0, .int .u8 0, .int .u8 0, .int .u8 0, .int .u8 0, .int .u8 0, .int .u8 0, .int .u8 0, .int .u8 0, .int .u8 0, .int .u8 0, .int .u8 0, .int .u8 0, .int .u8 0, .int .u8 0, .int .u8 0, .int .u8 0, .int .u8 0, .int .u8 0, .int .u8 0, .int .u8 0, .int .u8 0, .int .u8 0, .int .u8 0, .int .u8 0, .int .u8 0, .int .u8 0, .int .u8 0, .int .u8 0, .int .u8 0, .int .u8 0, .int .u8 0], size := 48, bytes := 48 }
theorem ti32_ok : TIok Tryd.prog ti32 := ⟨by kernel_rfl, by kernel_rfl⟩
def ti34 : TI := { t := 34, desc := .array 32 5, zero := .agg #[.int .u8 0, .int .u8 0, .int .u8 0, .int .u8 0, .int .u8 0, .int .u8 0, .int .u8 0, .int .u8 0, .int .u8 0, .int .u8 0, .int .u8 0, .int .u8 0, .int .u8 0, .int .u8 0, .int .u8 0, .int .u8 0, .int .u8 0, .int .u8 0, .int .u8 0, .int .u8 0, .int .u8 0, .int .u8 0, .int .u8 0, .int .u8 0, .int .u8 0, .int .u8 0, .int .u8 0, .int .u8 0, .int .u8 0, .int .u8 0, .int .u8 0, .int .u8 0], size := 32, bytes := 32 }
theorem ti34_ok : TIok Tryd.prog ti34 := ⟨by kernel_rfl, by kernel_rfl⟩
def ti37 : TI := { t := 37, desc := .int .u64, zero := .int .u64 0, size := 1, bytes := 8 }
theorem ti37_ok : TIok Tryd.prog ti37 := ⟨by kernel_rfl, by kernel_rfl⟩
def ti39 : TI := { t := 39, desc := .int .u32, zero := .int .u32 0, size := 1, bytes := 4 }
theorem ti39_ok : TIok Tryd.prog ti39 := ⟨by kernel_rfl, by kernel_rfl⟩
def ti41 : TI := { t := 41, desc := .pointer 30, zero := .pointer none, size := 1, bytes := 8 }
theorem ti41_ok : TIok Tryd.prog ti41 := ⟨by kernel_rfl, by kernel_rfl⟩
def ti42 : TI := { t := 42, desc := .array 4 3, zero := .agg #[.int .i64 0, .int .i64 0, .int .i64 0, .int .i64 0], size := 4, bytes := 32 }
theorem ti42_ok : TIok Tryd.prog ti42 := ⟨by kernel_rfl, by kernel_rfl⟩
def ti43 : TI := { t := 43, desc := .struct #[{ name := "bits", type := 3, offset := 0, embedded := false, tag := "", pkgPath := "loop.example/pub-g03123/spec", byteOffset := 0 }, { name := "rounds", type := 3, offset := 1, embedded := false, tag := "", pkgPath := "loop.example/pub-g03123/spec", byteOffset := 8 }, { name := "turns", type := 42, offset := 2, embedded := false, tag := "", pkgPath := "loop.example/pub-g03123/spec", byteOffset := 16 }], zero := .agg #[.int .i64 0, .int .i64 0, .int .i64 0, .int .i64 0, .int .i64 0, .int .i64 0], size := 6, bytes := 48 }
theorem ti43_ok : TIok Tryd.prog ti43 := ⟨by kernel_rfl, by kernel_rfl⟩
def ti44 : TI := { t := 44, desc := .struct #[{ name := "bits", type := 3, offset := 0, embedded := false, tag := "", pkgPath := "loop.example/pub-g03123/spec", byteOffset := 0 }, { name := "rounds", type := 3, offset := 1, embedded := false, tag := "", pkgPath := "loop.example/pub-g03123/spec", byteOffset := 8 }, { name := "turns", type := 42, offset := 2, embedded := false, tag := "", pkgPath := "loop.example/pub-g03123/spec", byteOffset := 16 }], zero := .agg #[.int .i64 0, .int .i64 0, .int .i64 0, .int .i64 0, .int .i64 0, .int .i64 0], size := 6, bytes := 48 }
theorem ti44_ok : TIok Tryd.prog ti44 := ⟨by kernel_rfl, by kernel_rfl⟩
def ti46 : TI := { t := 46, desc := .array 8 37, zero := .agg #[.int .u64 0, .int .u64 0, .int .u64 0, .int .u64 0, .int .u64 0, .int .u64 0, .int .u64 0, .int .u64 0], size := 8, bytes := 64 }
theorem ti46_ok : TIok Tryd.prog ti46 := ⟨by kernel_rfl, by kernel_rfl⟩
def ti51 : TI := { t := 51, desc := .slice 37, zero := .slice none 0 0, size := 1, bytes := 24 }
theorem ti51_ok : TIok Tryd.prog ti51 := ⟨by kernel_rfl, by kernel_rfl⟩
def ti53 : TI := { t := 53, desc := .pointer 34, zero := .pointer none, size := 1, bytes := 8 }
theorem ti53_ok : TIok Tryd.prog ti53 := ⟨by kernel_rfl, by kernel_rfl⟩
def ti54 : TI := { t := 54, desc := .array 8 39, zero := .agg #[.int .u32 0, .int .u32 0, .int .u32 0, .int .u32 0, .int .u32 0, .int .u32 0, .int .u32 0, .int .u32 0], size := 8, bytes := 32 }
theorem ti54_ok : TIok Tryd.prog ti54 := ⟨by kernel_rfl, by kernel_rfl⟩
def ti59 : TI := { t := 59, desc := .slice 39, zero := .slice none 0 0, size := 1, bytes := 24 }
theorem ti59_ok : TIok Tryd.prog ti59 := ⟨by kernel_rfl, by kernel_rfl⟩
def ti60 : TI := { t := 60, desc := .array 2 37, zero := .agg #[.int .u64 0, .int .u64 0], size := 2, bytes := 16 }
theorem ti60_ok : TIok Tryd.prog ti60 := ⟨by kernel_rfl, by kernel_rfl⟩
def ti62 : TI := { t := 62, desc := .pointer 46, zero := .pointer none, size := 1, bytes := 8 }
theorem ti62_ok : TIok Tryd.prog ti62 := ⟨by kernel_rfl, by kernel_rfl⟩
def ti63 : TI := { t := 63, desc := .pointer 60, zero := .pointer none, size := 1, bytes := 8 }
theorem ti63_ok : TIok Tryd.prog ti63 := ⟨by kernel_rfl, by kernel_rfl⟩
def ti64 : TI := { t := 64, desc := .array 128 5, zero := .agg #[.int .u8 0, .int .u8 0, .int .u8 0, .int .u8 0, .int .u8 0, .int .u8 0, .int .u8 0, .int .u8 0, .int .u8 0, .int .u8 0, .int .u8 0, .int .u8 0, .int .u8 0, .int .u8 0, .int .u8 0, .int .u8 0, .int .u8 0, .int .u8 0, .int .u8 0, .int .u8 0, .int .u8 0, .int .u8 0, .int .u8 0, .int .u8 0, .int .u8 0, .int .u8 0, .int .u8 0, .int .u8 0, .int .u8 0, .int .u8 0, .int .u8 0, .int .u8 0, .int .u8 0, .int .u8 0, .int .u8 0, .int .u8 0, .int .u8 0, .int .u8 0, .int .u8 0, .int .u8 0, .int .u8 0, .int .u8 0, .int .u8 0, .int .u8 0, .int .u8 0, .int .u8 0, .int .u8 0, .int .u8 0, .int .u8 0, .int .u8 0, .int .u8 0, .int .u8 0, .int .u8 0, .int .u8 0, .int .u8 0, .int .u8 0, .int .u8 0, .int .u8 0, .int .u8 0, .int .u8 0, .int .u8 0, .int .u8 0, .int .u8 0, .int .u8 0, .int .u8 0, .int .u8 0, .int .u8 0, .int .u8 0, .int .u8 0, .int .u8 0, .int .u8 0, .int .u8 0, .int .u8 0, .int .u8 0, .int .u8 0, .int .u8 0, .int .u8 0, .int .u8 0, .int .u8 0, .int .u8 0, .int .u8 0, .int .u8 0, .int .u8 0, .int .u8 0, .int .u8 0, .int .u8 0, .int .u8 0, .int .u8 0, .int .u8 0, .int .u8 0, .int .u8 0, .int .u8 0, .int .u8 0, .int .u8 0, .int .u8 0, .int .u8 0, .int .u8 0, .int .u8 0, .int .u8 0, .int .u8 0, .int .u8 0, .int .u8 0, .int .u8 0, .int .u8 0, .int .u8 0, .int .u8 0, .int .u8 0, .int .u8 0, .int .u8 0, .int .u8 0, .int .u8 0, .int .u8 0, .int .u8 0, .int .u8 0, .int .u8 0, .int .u8 0, .int .u8 0, .int .u8 0, .int .u8 0, .int .u8 0, .int .u8 0, .int .u8 0, .int .u8 0, .int .u8 0, .int .u8 0, .int .u8 0, .int .u8 0, .int .u8 0], size := 128, bytes := 128 }
theorem ti64_ok : TIok Tryd.prog ti64 := ⟨by kernel_rfl, by kernel_rfl⟩
def ti66 : TI := { t := 66, desc := .struct #[], zero := .agg #[], size := 0, bytes := 0 }
theorem ti66_ok : TIok Tryd.prog ti66 := ⟨by kernel_rfl, by kernel_rfl⟩
def ti68 : TI := { t := 68, desc := .int .u64, zero := .int .u64 0, size := 1, bytes := 8 }
theorem ti68_ok : TIok Tryd.prog ti68 := ⟨by kernel_rfl, by kernel_rfl⟩
def ti69 : TI := { t := 69, desc := .array 16 37, zero := .agg #[.int .u64 0, .int .u64 0, .int .u64 0, .int .u64 0, .int .u64 0, .int .u64 0, .int .u64 0, .int .u64 0, .int .u64 0, .int .u64 0, .int .u64 0, .int .u64 0, .int .u64 0, .int .u64 0, .int .u64 0, .int .u64 0], size := 16, bytes := 128 }
theorem ti69_ok : TIok Tryd.prog ti69 := ⟨by kernel_rfl, by kernel_rfl⟩
def ti70 : TI := { t := 70, desc := .array 16 3, zero := .agg #[.int .i64 0, .int .i64 0, .int .i64 0, .int .i64 0, .int .i64 0, .int .i64 0, .int .i64 0, .int .i64 0, .int .i64 0, .int .i64 0, .int .i64 0, .int .i64 0, .int .i64 0, .int .i64 0, .int .i64 0, .int .i64 0], size := 16, bytes := 128 }
theorem ti70_ok : TIok Tryd.prog ti70 := ⟨by kernel_rfl, by kernel_rfl⟩
def ti73 : TI := { t := 73, desc := .pointer 69, zero := .pointer none, size := 1, bytes := 8 }
theorem ti73_ok : TIok Tryd.prog ti73 := ⟨by kernel_rfl, by kernel_rfl⟩
def ti74 : TI := { t := 74, desc := .array 2 39, zero := .agg #[.int .u32 0, .int .u32 0], size := 2, bytes := 8 }
theorem ti74_ok : TIok Tryd.prog ti74 := ⟨by kernel_rfl, by kernel_rfl⟩
def ti76 : TI := { t := 76, desc := .pointer 54, zero := .pointer none, size := 1, bytes := 8 }
theorem ti76_ok : TIok Tryd.prog ti76 := ⟨by kernel_rfl, by kernel_rfl⟩
def ti77 : TI := { t := 77, desc := .pointer 74, zero := .pointer none, size := 1, bytes := 8 }
theorem ti77_ok : TIok Tryd.prog ti77 := ⟨by kernel_rfl, by kernel_rfl⟩
def ti79 : TI := { t := 79, desc := .array 16 39, zero := .agg #[.int .u32 0, .int .u32 0, .int .u32 0, .int .u32 0, .int .u32 0, .int .u32 0, .int .u32 0, .int .u32 0, .int .u32 0, .int .u32 0, .int .u32 0, .int .u32 0, .int .u32 0, .int .u32 0, .int .u32 0, .int .u32 0], size := 16, bytes := 64 }
theorem ti79_ok : TIok Tryd.prog ti79 := ⟨by kernel_rfl, by kernel_rfl⟩
def ti81 : TI := { t := 81, desc := .pointer 79, zero := .pointer none, size := 1, bytes := 8 }
theorem ti81_ok : TIok Tryd.prog ti81 := ⟨by kernel_rfl, by kernel_rfl⟩
def ti82 : TI := { t := 82, desc := .array 10 70, zero := .agg #[.int .i64 0, .int .i64 0, .int .i64 0, .int .i64 0, .int .i64 0, .int .i64 0, .int .i64 0, .int .i64 0, .int .i64 0, .int .i64 0, .int .i64 0, .int .i64 0, .int .i64 0, .int .i64 0, .int .i64 0, .int .i64 0, .int .i64 0, .int .i64 0, .int .i64 0, .int .i64 0, .int .i64 0, .int .i64 0, .int .i64 0, .int .i64 0, .int .i64 0, .int .i64 0, .int .i64 0, .int .i64 0, .int .i64 0, .int .i64 0, .int .i64 0, .int .i64 0, .int .i64 0, .int .i64 0, .int .i64 0, .int .i64 0, .int .i64 0, .int .i64 0, .int .i64 0, .int .i64 0, .int .i64 0, .int .i64 0, .int .i64 0, .int .i64 0, .int .i64 0, .int .i64 0, .int .i64 0, .int .i64 0, .int .i64 0, .int .i64 0, .int .i64 0, .int .i64 0, .int .i64 0, .int .i64 0, .int .i64 0, .int .i64 0, .int .i64 0, .int .i64 0, .int .i64 0, .int .i64 0, .int .i64 0, .int .i64 0, .int .i64 0, .int .i64 0, .int .i64 0, .int .i64 0, .int .i64 0, .int .i64 0, .int .i64 0, .int .i64 0, .int .i64 0, .int .i64 0, .int .i64 0, .int .i64 0, .int .i64 0, .int .i64 0, .int .i64 0, .int .i64 0, .int .i64 0, .int .i64 0, .int .i64 0, .int .i64 0, .int .i64 0, .int .i64 0, .int .i64 0, .int .i64 0, .int .i64 0, .int .i64 0, .int .i64 0, .int .i64 0, .int .i64 0, .int .i64 0, .int .i64 0, .int .i64 0, .int .i64 0, .int .i64 0, .int .i64 0, .int .i64 0, .int .i64 0, .int .i64 0, .int .i64 0, .int .i64 0, .int .i64 0, .int .i64 0, .int .i64 0, .int .i64 0, .int .i64 0, .int .i64 0, .int .i64 0, .int .i64 0, .int .i64 0, .int .i64 0, .int .i64 0, .int .i64 0, .int .i64 0, .int .i64 0, .int .i64 0, .int .i64 0, .int .i64 0, .int .i64 0, .int .i64 0, .int .i64 0, .int .i64 0, .int .i64 0, .int .i64 0, .int .i64 0, .int .i64 0, .int .i64 0, .int .i64 0, .int .i64 0, .int .i64 0, .int .i64 0, .int .i64 0, .int .i64 0, .int .i64 0, .int .i64 0, .int .i64 0, .int .i64 0, .int .i64 0, .int .i64 0, .int .i64 0, .int .i64 0, .int .i64 0, .int .i64 0, .int .i64 0, .int .i64 0, .int .i64 0, .int .i64 0, .int .i64 0, .int .i64 0, .int .i64 0, .int .i64 0, .int .i64 0, .int .i64 0, .int .i64 0, .int .i64 0, .int .i64 0, .int .i64 0, .int .i64 0, .int .i64 0], size := 160, bytes := 1280 }
theorem ti82_ok : TIok Tryd.prog ti82 := ⟨by kernel_rfl, by kernel_rfl⟩
def ti85 : TI := { t := 85, desc := .array 16 5, zero := .agg #[.int .u8 0, .int .u8 0, .int .u8 0, .int .u8 0, .int .u8 0, .int .u8 0, .int .u8 0, .int .u8 0, .int .u8 0, .int .u8 0, .int .u8 0, .int .u8 0, .int .u8 0, .int .u8 0, .int .u8 0, .int .u8 0], size := 16, bytes := 16 }
theorem ti85_ok : TIok Tryd.prog ti85 := ⟨by kernel_rfl, by kernel_rfl⟩
def ti86 : TI := { t := 86, desc := .array 12 85, zero := .agg #[.int .u8 0, .int .u8 0, .int .u8 0, .int .u8 0, .int .u8 0, .int .u8 0, .int .u8 0, .int .u8 0, .int .u8 0, .int .u8 0, .int .u8 0, .int .u8 0, .int .u8 0, .int .u8 0, .int .u8 0, .int .u8 0, .int .u8 0, .int .u8 0, .int .u8 0, .int .u8 0, .int .u8 0, .int .u8 0, .int .u8 0, .int .u8 0, .int .u8 0, .int .u8 0, .int .u8 0, .int .u8 0, .int .u8 0, .int .u8 0, .int .u8 0, .int .u8 0, .int .u8 0, .int .u8 0, .int .u8 0, .int .u8 0, .int .u8 0, .int .u8 0, .int .u8 0, .int .u8 0, .int .u8 0, .int .u8 0, .int .u8 0, .int .u8 0, .int .u8 0, .int .u8 0, .int .u8 0, .int .u8 0, .int .u8 0, .int .u8 0, .int .u8 0, .int .u8 0, .int .u8 0, .int .u8 0, .int .u8 0, .int .u8 0, .int .u8 0, .int .u8 0, .int .u8 0, .int .u8 0, .int .u8 0, .int .u8 0, .int .u8 0, .int .u8 0, .int .u8 0, .int .u8 0, .int .u8 0, .int .u8 0, .int .u8 0, .int .u8 0, .int .u8 0, .int .u8 0, .int .u8 0, .int .u8 0, .int .u8 0, .int .u8 0, .int .u8 0, .int .u8 0, .int .u8 0, .int .u8 0, .int .u8 0, .int .u8 0, .int .u8 0, .int .u8 0, .int .u8 0, .int .u8 0, .int .u8 0, .int .u8 0, .int .u8 0, .int .u8 0, .int .u8 0, .int .u8 0, .int .u8 0, .int .u8 0, .int .u8 0, .int .u8 0, .int .u8 0, .int .u8 0, .int .u8 0, .int .u8 0, .int .u8 0, .int .u8 0, .int .u8 0, .int .u8 0, .int .u8 0, .int .u8 0, .int .u8 0, .int .u8 0, .int .u8 0, .int .u8 0, .int .u8 0, .int .u8 0, .int .u8 0, .int .u8 0, .int .u8 0, .int .u8 0, .int .u8 0, .int .u8 0, .int .u8 0, .int .u8 0, .int .u8 0, .int .u8 0, .int .u8 0, .int .u8 0, .int .u8 0, .int .u8 0, .int .u8 0, .int .u8 0, .int .u8 0, .int .u8 0, .int .u8 0, .int .u8 0, .int .u8 0, .int .u8 0, .int .u8 0, .int .u8 0, .int .u8 0, .int .u8 0, .int .u8 0, .int .u8 0, .int .u8 0, .int .u8 0, .int .u8 0, .int .u8 0, .int .u8 0, .int .u8 0, .int .u8 0, .int .u8 0, .int .u8 0, .int .u8 0, .int .u8 0, .int .u8 0, .int .u8 0, .int .u8 0, .int .u8 0, .int .u8 0, .int .u8 0, .int .u8 0, .int .u8 0, .int .u8 0, .int .u8 0, .int .u8 0, .int .u8 0, .int .u8 0, .int .u8 0, .int .u8 0, .int .u8 0, .int .u8 0, .int .u8 0, .int .u8 0, .int .u8 0, .int .u8 0, .int .u8 0, .int .u8 0, .int .u8 0, .int .u8 0, .int .u8 0, .int .u8 0, .int .u8 0, .int .u8 0, .int .u8 0, .int .u8 0, .int .u8 0, .int .u8 0, .int .u8 0, .int .u8 0, .int .u8 0, .int .u8 0, .int .u8 0, .int .u8 0, .int .u8 0, .int .u8 0], size := 192, bytes := 192 }
theorem ti86_ok : TIok Tryd.prog ti86 := ⟨by kernel_rfl, by kernel_rfl⟩
def ti87 : TI := { t := 87, desc := .pointer 85, zero := .pointer none, size := 1, bytes := 8 }
theorem ti87_ok : TIok Tryd.prog ti87 := ⟨by kernel_rfl, by kernel_rfl⟩
def ti88 : TI := { t := 88, desc := .array 10 85, zero := .agg #[.int .u8 0, .int .u8 0, .int .u8 0, .int .u8 0, .int .u8 0, .int .u8 0, .int .u8 0, .int .u8 0, .int .u8 0, .int .u8 0, .int .u8 0, .int .u8 0, .int .u8 0, .int .u8 0, .int .u8 0, .int .u8 0, .int .u8 0, .int .u8 0, .int .u8 0, .int .u8 0, .int .u8 0, .int .u8 0, .int .u8 0, .int .u8 0, .int .u8 0, .int .u8 0, .int .u8 0, .int .u8 0, .int .u8 0, .int .u8 0, .int .u8 0, .int .u8 0, .int .u8 0, .int .u8 0, .int .u8 0, .int .u8 0, .int .u8 0, .int .u8 0, .int .u8 0, .int .u8 0, .int .u8 0, .int .u8 0, .int .u8 0, .int .u8 0, .int .u8 0, .int .u8 0, .int .u8 0, .int .u8 0, .int .u8 0, .int .u8 0, .int .u8 0, .int .u8 0, .int .u8 0, .int .u8 0, .int .u8 0, .int .u8 0, .int .u8 0, .int .u8 0, .int .u8 0, .int .u8 0, .int .u8 0, .int .u8 0, .int .u8 0, .int .u8 0, .int .u8 0, .int .u8 0, .int .u8 0, .int .u8 0, .int .u8 0, .int .u8 0, .int .u8 0, .int .u8 0, .int .u8 0, .int .u8 0, .int .u8 0, .int .u8 0, .int .u8 0, .int .u8 0, .int .u8 0, .int .u8 0, .int .u8 0, .int .u8 0, .int .u8 0, .int .u8 0, .int .u8 0, .int .u8 0, .int .u8 0, .int .u8 0, .int .u8 0, .int .u8 0, .int .u8 0, .int .u8 0, .int .u8 0, .int .u8 0, .int .u8 0, .int .u8 0, .int .u8 0, .int .u8 0, .int .u8 0, .int .u8 0, .int .u8 0, .int .u8 0, .int .u8 0, .int .u8 0, .int .u8 0, .int .u8 0, .int .u8 0, .int .u8 0, .int .u8 0, .int .u8 0, .int .u8 0, .int .u8 0, .int .u8 0, .int .u8 0, .int .u8 0, .int .u8 0, .int .u8 0, .int .u8 0, .int .u8 0, .int .u8 0, .int .u8 0, .int .u8 0, .int .u8 0, .int .u8 0, .int .u8 0, .int .u8 0, .int .u8 0, .int .u8 0, .int .u8 0, .int .u8 0, .int .u8 0, .int .u8 0, .int .u8 0, .int .u8 0, .int .u8 0, .int .u8 0, .int .u8 0, .int .u8 0, .int .u8 0, .int .u8 0, .int .u8 0, .int .u8 0, .int .u8 0, .int .u8 0, .int .u8 0, .int .u8 0, .int .u8 0, .int .u8 0, .int .u8 0, .int .u8 0, .int .u8 0, .int .u8 0, .int .u8 0, .int .u8 0, .int .u8 0, .int .u8 0, .int .u8 0, .int .u8 0, .int .u8 0, .int .u8 0], size := 160, bytes := 160 }
theorem ti88_ok : TIok Tryd.prog ti88 := ⟨by kernel_rfl, by kernel_rfl⟩
def tabs : List TI := [ti3, ti4, ti5, ti22, ti30, ti32, ti34, ti37, ti39, ti41, ti42, ti43, ti44, ti46, ti51, ti53, ti54, ti59, ti60, ti62, ti63, ti64, ti66, ti68, ti69, ti70, ti73, ti74, ti76, ti77, ti79, ti81, ti82, ti85, ti86, ti87, ti88]
theorem tabs_ok : ∀ x ∈ tabs, TIok Tryd.prog x := by
  intro x hx
  simp only [tabs, List.mem_cons, List.not_mem_nil, or_false] at hx
  rcases hx with rfl | rfl | rfl | rfl | rfl | rfl | rfl | rfl | rfl | rfl | rfl | rfl | rfl | rfl | rfl | rfl | rfl | rfl | rfl | rfl | rfl | rfl | rfl | rfl | rfl | rfl | rfl | rfl | rfl | rfl | rfl | rfl | rfl | rfl | rfl | rfl | rfl
  · exact ti3_ok
  · exact ti4_ok
  · exact ti5_ok
  · exact ti22_ok
  · exact ti30_ok
  · exact ti32_ok
  · exact ti34_ok
  · exact ti37_ok
  · exact ti39_ok
  · exact ti41_ok
  · exact ti42_ok
  · exact ti43_ok
  · exact ti44_ok
  · exact ti46_ok
  · exact ti51_ok
  · exact ti53_ok
  · exact ti54_ok
  · exact ti59_ok
  · exact ti60_ok
  · exact ti62_ok
  · exact ti63_ok
  · exact ti64_ok
  · exact ti66_ok
  · exact ti68_ok
  · exact ti69_ok
  · exact ti70_ok
  · exact ti73_ok
  · exact ti74_ok
  · exact ti76_ok
  · exact ti77_ok
  · exact ti79_ok
  · exact ti81_ok
  · exact ti82_ok
  · exact ti85_ok
  · exact ti86_ok
  · exact ti87_ok
  · exact ti88_ok
theorem fn20_ok : FNok Tryd.prog (20, Tryd.f20) := ⟨Tryd.func20, by kernel_rfl, by kernel_rfl⟩
theorem fn21_ok : FNok Tryd.prog (21, Tryd.f21) := ⟨Tryd.func21, by kernel_rfl, by kernel_rfl⟩
theorem fn22_ok : FNok Tryd.prog (22, Tryd.f22) := ⟨Tryd.func22, by kernel_rfl, by kernel_rfl⟩
theorem fn24_ok : FNok Tryd.prog (24, Tryd.f24) := ⟨Tryd.func24, by kernel_rfl, by kernel_rfl⟩
theorem fn26_ok : FNok Tryd.prog (26, Tryd.f26) := ⟨Tryd.func26, by kernel_rfl, by kernel_rfl⟩
theorem fn27_ok : FNok Tryd.prog (27, Tryd.f27) := ⟨Tryd.func27, by kernel_rfl, by kernel_rfl⟩
theorem fn28_ok : FNok Tryd.prog (28, Tryd.f28) := ⟨Tryd.func28, by kernel_rfl, by kernel_rfl⟩
theorem fn30_ok : FNok Tryd.prog (30, Tryd.f30) := ⟨Tryd.func30, by kernel_rfl, by kernel_rfl⟩
theorem fn32_ok : FNok Tryd.prog (32, Tryd.f32) := ⟨Tryd.func32, by kernel_rfl, by kernel_rfl⟩
theorem fn33_ok : FNok Tryd.prog (33, Tryd.f33) := ⟨Tryd.func33, by kernel_rfl, by kernel_rfl⟩
theorem fn34_ok : FNok Tryd.prog (34, Tryd.f34) := ⟨Tryd.func34, by kernel_rfl, by kernel_rfl⟩
theorem fn36_ok : FNok Tryd.prog (36, Tryd.f36) := ⟨Tryd.func36, by kernel_rfl, by kernel_rfl⟩
theorem fn37_ok : FNok Tryd.prog (37, Tryd.f37) := ⟨Tryd.func37, by kernel_rfl, by kernel_rfl⟩
theorem fn39_ok : FNok Tryd.prog (39, Tryd.f39) := ⟨Tryd.func39, by kernel_rfl, by kernel_rfl⟩
theorem fn41_ok : FNok Tryd.prog (41, Tryd.f41) := ⟨Tryd.func41, by kernel_rfl, by kernel_rfl⟩
theorem fn42_ok : FNok Tryd.prog (42, Tryd.f42) := ⟨Tryd.func42, by kernel_rfl, by kernel_rfl⟩
theorem fn43_ok : FNok Tryd.prog (43, Tryd.f43) := ⟨Tryd.func43, by kernel_rfl, by kernel_rfl⟩
theorem fn44_ok : FNok Tryd.prog (44, Tryd.f44) := ⟨Tryd.func44, by kernel_rfl, by kernel_rfl⟩
theorem fn6_ok : FNok Tryd.prog (6, Tryd.f6) := ⟨Tryd.func6, by kernel_rfl, by kernel_rfl⟩
theorem fn8_ok : FNok Tryd.prog (8, Tryd.f8) := ⟨Tryd.func8, by kernel_rfl, by kernel_rfl⟩
theorem fn11_ok : FNok Tryd.prog (11, Tryd.f11) := ⟨Tryd.func11, by kernel_rfl, by kernel_rfl⟩
theorem fn12_ok : FNok Tryd.prog (12, Tryd.f12) := ⟨Tryd.func12, by kernel_rfl, by kernel_rfl⟩
theorem fn13_ok : FNok Tryd.prog (13, Tryd.f13) := ⟨Tryd.func13, by kernel_rfl, by kernel_rfl⟩
theorem fn16_ok : FNok Tryd.prog (16, Tryd.f16) := ⟨Tryd.func16, by kernel_rfl, by kernel_rfl⟩
theorem fn19_ok : FNok Tryd.prog (19, Tryd.f19) := ⟨Tryd.func19, by kernel_rfl, by kernel_rfl⟩
theorem fn23_ok : FNok Tryd.prog (23, Tryd.f23) := ⟨Tryd.func23, by kernel_rfl, by kernel_rfl⟩
theorem fn25_ok : FNok Tryd.prog (25, Tryd.f25) := ⟨Tryd.func25, by kernel_rfl, by kernel_rfl⟩
theorem fn29_ok : FNok Tryd.prog (29, Tryd.f29) := ⟨Tryd.func29, by kernel_rfl, by kernel_rfl⟩
theorem fn31_ok : FNok Tryd.prog (31, Tryd.f31) := ⟨Tryd.func31, by kernel_rfl, by kernel_rfl⟩
theorem fn35_ok : FNok Tryd.prog (35, Tryd.f35) := ⟨Tryd.func35, by kernel_rfl, by kernel_rfl⟩
theorem fn38_ok : FNok Tryd.prog (38, Tryd.f38) := ⟨Tryd.func38, by kernel_rfl, by kernel_rfl⟩
theorem fn40_ok : FNok Tryd.prog (40, Tryd.f40) := ⟨Tryd.func40, by kernel_rfl, by kernel_rfl⟩
noncomputable def fns : List (FuncId × Func) := [(20, Tryd.f20), (21, Tryd.f21), (22, Tryd.f22), (24, Tryd.f24), (26, Tryd.f26), (27, Tryd.f27), (28, Tryd.f28), (30, Tryd.f30), (32, Tryd.f32), (33, Tryd.f33), (34, Tryd.f34), (36, Tryd.f36), (37, Tryd.f37), (39, Tryd.f39), (41, Tryd.f41), (42, Tryd.f42), (43, Tryd.f43), (44, Tryd.f44)]
theorem fns_ok : ∀ x ∈ fns, FNok Tryd.prog x := by
  intro x hx
  simp only [fns, List.mem_cons, List.not_mem_nil, or_false] at hx
  rcases hx with rfl | rfl | rfl | rfl | rfl | rfl | rfl | rfl | rfl | rfl | rfl | rfl | rfl | rfl | rfl | rfl | rfl | rfl
  · exact fn20_ok
  · exact fn21_ok
  · exact fn22_ok
  · exact fn24_ok
  · exact fn26_ok
  · exact fn27_ok
  · exact fn28_ok
  · exact fn30_ok
  · exact fn32_ok
  · exact fn33_ok
  · exact fn34_ok
  · exact fn36_ok
  · exact fn37_ok
  · exact fn39_ok
  · exact fn41_ok
  · exact fn42_ok
  · exact fn43_ok
  · exact fn44_ok
noncomputable def fnsE : List (FuncId × Func) := [(6, Tryd.f6), (8, Tryd.f8), (11, Tryd.f11), (12, Tryd.f12), (13, Tryd.f13), (16, Tryd.f16), (19, Tryd.f19), (23, Tryd.f23), (25, Tryd.f25), (29, Tryd.f29), (31, Tryd.f31), (35, Tryd.f35), (38, Tryd.f38), (40, Tryd.f40)]
theorem fnsE_ok : ∀ x ∈ fnsE, FNok Tryd.prog x := by
  intro x hx
  simp only [fnsE, List.mem_cons, List.not_mem_nil, or_false] at hx
  rcases hx with rfl | rfl | rfl | rfl | rfl | rfl | rfl | rfl | rfl | rfl | rfl | rfl | rfl | rfl
  · exact fn6_ok
  · exact fn8_ok
  · exact fn11_ok
  · exact fn12_ok
  · exact fn13_ok
  · exact fn16_ok
  · exact fn19_ok
  · exact fn23_ok
  · exact fn25_ok
  · exact fn29_ok
  · exact fn31_ok
  · exact fn35_ok
  · exact fn38_ok
  · exact fn40_ok
/-- The configuration, with these names for the variables of a package, and these for cells that were there and are written. -/
noncomputable def cfgW (gl : List (Nat × Nat)) (w0s : List Nat) : Cfg := { tabs := tabs, fns := fns, w0s := w0s, gl := gl }
theorem cfgW_ok (gl : List (Nat × Nat)) (w0s : List Nat) : CfgOk Tryd.prog (cfgW gl w0s) := ⟨tabs_ok, fns_ok, by kernel_rfl⟩
/-- .. and with the functions that are entered by name. -/
noncomputable def cfgE (gl : List (Nat × Nat)) (w0s : List Nat) : Cfg := { tabs := tabs, fns := fnsE, w0s := w0s, gl := gl }
theorem cfgE_ok (gl : List (Nat × Nat)) (w0s : List Nat) : CfgOk Tryd.prog (cfgE gl w0s) := ⟨tabs_ok, fnsE_ok, by kernel_rfl⟩
end Go.Proofs.YtjhndmlpcpbaoaaDoor
