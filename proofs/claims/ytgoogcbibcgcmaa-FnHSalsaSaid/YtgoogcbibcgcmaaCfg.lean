/- The executor's configuration for this seat: its types, its functions; each row is what the loaded program has. -/
import Derived.Test.YtgoogcbibcgcmaaProg
import Derived.Test.YtgoogcbibcgcmaaSxK
namespace Go.Proofs.Ytgoogcbibcgcmaa
open Go Go.Sx Go.Proofs
set_option maxRecDepth 100000
def ti3 : TI := { t := 3, desc := .int .i64, zero := .int .i64 0, size := 1, bytes := 8 }
theorem ti3_ok : TIok Try.prog ti3 := ⟨by kernel_rfl, by kernel_rfl⟩
def ti4 : TI := { t := 4, desc := .bool, zero := .bool false, size := 1, bytes := 1 }
theorem ti4_ok : TIok Try.prog ti4 := ⟨by kernel_rfl, by kernel_rfl⟩
def ti5 : TI := { t := 5, desc := .int .u8, zero := .int .u8 0, size := 1, bytes := 1 }
theorem ti5_ok : TIok Try.prog ti5 := ⟨by kernel_rfl, by kernel_rfl⟩
def ti22 : TI := { t := 22, desc := .slice 5, zero := .slice none 0 0, size := 1, bytes := 24 }
theorem ti22_ok : TIok Try.prog ti22 := ⟨by kernel_rfl, by kernel_rfl⟩
def ti26 : TI := { t := 26, desc := .array 16 5, zero := .agg #[.int .u8 0, .int .u8 0, .int .u8 0, .int .u8 0, .int .u8 0, .int .u8 0, .int .u8 0, .int .u8 0, .int .u8 0, .int .u8 0, .int .u8 0, .int .u8 0, .int .u8 0, .int .u8 0, .int .u8 0, .int .u8 0], size := 16, bytes := 16 }
theorem ti26_ok : TIok Try.prog ti26 := ⟨by kernel_rfl, by kernel_rfl⟩
def ti27 : TI := { t := 27, desc := .array 32 5, zero := .agg #[.int .u8 0, .int .u8 0, .int .u8 0, .int .u8 0, .int .u8 0, .int .u8 0, .int .u8 0, .int .u8 0, .int .u8 0, .int .u8 0, .int .u8 0, .int .u8 0, .int .u8 0, .int .u8 0, .int .u8 0, .int .u8 0, .int .u8 0, .int .u8 0, .int .u8 0, .int .u8 0, .int .u8 0, .int .u8 0, .int .u8 0, .int .u8 0, .int .u8 0, .int .u8 0, .int .u8 0, .int .u8 0, .int .u8 0, .int .u8 0, .int .u8 0, .int .u8 0], size := 32, bytes := 32 }
theorem ti27_ok : TIok Try.prog ti27 := ⟨by kernel_rfl, by kernel_rfl⟩
def ti29 : TI := { t := 29, desc := .pointer 27, zero := .pointer none, size := 1, bytes := 8 }
theorem ti29_ok : TIok Try.prog ti29 := ⟨by kernel_rfl, by kernel_rfl⟩
def ti30 : TI := { t := 30, desc := .pointer 26, zero := .pointer none, size := 1, bytes := 8 }
theorem ti30_ok : TIok Try.prog ti30 := ⟨by kernel_rfl, by kernel_rfl⟩
def ti32 : TI := { t := 32, desc := .int .u32, zero := .int .u32 0, size := 1, bytes := 4 }
theorem ti32_ok : TIok Try.prog ti32 := ⟨by kernel_rfl, by kernel_rfl⟩
def ti33 : TI := { t := 33, desc := .array 16 32, zero := .agg #[.int .u32 0, .int .u32 0, .int .u32 0, .int .u32 0, .int .u32 0, .int .u32 0, .int .u32 0, .int .u32 0, .int .u32 0, .int .u32 0, .int .u32 0, .int .u32 0, .int .u32 0, .int .u32 0, .int .u32 0, .int .u32 0], size := 16, bytes := 64 }
theorem ti33_ok : TIok Try.prog ti33 := ⟨by kernel_rfl, by kernel_rfl⟩
def ti37 : TI := { t := 37, desc := .slice 32, zero := .slice none 0 0, size := 1, bytes := 24 }
theorem ti37_ok : TIok Try.prog ti37 := ⟨by kernel_rfl, by kernel_rfl⟩
def ti38 : TI := { t := 38, desc := .int .u64, zero := .int .u64 0, size := 1, bytes := 8 }
theorem ti38_ok : TIok Try.prog ti38 := ⟨by kernel_rfl, by kernel_rfl⟩
def ti41 : TI := { t := 41, desc := .pointer 33, zero := .pointer none, size := 1, bytes := 8 }
theorem ti41_ok : TIok Try.prog ti41 := ⟨by kernel_rfl, by kernel_rfl⟩
def ti43 : TI := { t := 43, desc := .array 4 3, zero := .agg #[.int .i64 0, .int .i64 0, .int .i64 0, .int .i64 0], size := 4, bytes := 32 }
theorem ti43_ok : TIok Try.prog ti43 := ⟨by kernel_rfl, by kernel_rfl⟩
def ti45 : TI := { t := 45, desc := .struct #[{ name := "bits", type := 3, offset := 0, embedded := false, tag := "", pkgPath := "loop.example/pub-g03123/spec", byteOffset := 0 }, { name := "rounds", type := 3, offset := 1, embedded := false, tag := "", pkgPath := "loop.example/pub-g03123/spec", byteOffset := 8 }, { name := "turns", type := 43, offset := 2, embedded := false, tag := "", pkgPath := "loop.example/pub-g03123/spec", byteOffset := 16 }], zero := .agg #[.int .i64 0, .int .i64 0, .int .i64 0, .int .i64 0, .int .i64 0, .int .i64 0], size := 6, bytes := 48 }
theorem ti45_ok : TIok Try.prog ti45 := ⟨by kernel_rfl, by kernel_rfl⟩
def tabs : List TI := [ti3, ti4, ti5, ti22, ti26, ti27, ti29, ti30, ti32, ti33, ti37, ti38, ti41, ti43, ti45]
theorem tabs_ok : ∀ x ∈ tabs, TIok Try.prog x := by
  intro x hx
  simp only [tabs, List.mem_cons, List.not_mem_nil, or_false] at hx
  rcases hx with rfl | rfl | rfl | rfl | rfl | rfl | rfl | rfl | rfl | rfl | rfl | rfl | rfl | rfl | rfl
  · exact ti3_ok
  · exact ti4_ok
  · exact ti5_ok
  · exact ti22_ok
  · exact ti26_ok
  · exact ti27_ok
  · exact ti29_ok
  · exact ti30_ok
  · exact ti32_ok
  · exact ti33_ok
  · exact ti37_ok
  · exact ti38_ok
  · exact ti41_ok
  · exact ti43_ok
  · exact ti45_ok
theorem fn8_ok : FNok Try.prog (8, Try.f8) := ⟨Try.func8, by kernel_rfl, by kernel_rfl⟩
theorem fn10_ok : FNok Try.prog (10, Try.f10) := ⟨Try.func10, by kernel_rfl, by kernel_rfl⟩
theorem fn11_ok : FNok Try.prog (11, Try.f11) := ⟨Try.func11, by kernel_rfl, by kernel_rfl⟩
theorem fn12_ok : FNok Try.prog (12, Try.f12) := ⟨Try.func12, by kernel_rfl, by kernel_rfl⟩
theorem fn13_ok : FNok Try.prog (13, Try.f13) := ⟨Try.func13, by kernel_rfl, by kernel_rfl⟩
theorem fn14_ok : FNok Try.prog (14, Try.f14) := ⟨Try.func14, by kernel_rfl, by kernel_rfl⟩
theorem fn15_ok : FNok Try.prog (15, Try.f15) := ⟨Try.func15, by kernel_rfl, by kernel_rfl⟩
theorem fn16_ok : FNok Try.prog (16, Try.f16) := ⟨Try.func16, by kernel_rfl, by kernel_rfl⟩
theorem fn17_ok : FNok Try.prog (17, Try.f17) := ⟨Try.func17, by kernel_rfl, by kernel_rfl⟩
theorem fn3_ok : FNok Try.prog (3, Try.f3) := ⟨Try.func3, by kernel_rfl, by kernel_rfl⟩
theorem fn4_ok : FNok Try.prog (4, Try.f4) := ⟨Try.func4, by kernel_rfl, by kernel_rfl⟩
theorem fn5_ok : FNok Try.prog (5, Try.f5) := ⟨Try.func5, by kernel_rfl, by kernel_rfl⟩
theorem fn6_ok : FNok Try.prog (6, Try.f6) := ⟨Try.func6, by kernel_rfl, by kernel_rfl⟩
theorem fn7_ok : FNok Try.prog (7, Try.f7) := ⟨Try.func7, by kernel_rfl, by kernel_rfl⟩
theorem fn9_ok : FNok Try.prog (9, Try.f9) := ⟨Try.func9, by kernel_rfl, by kernel_rfl⟩
noncomputable def fns : List (FuncId × Func) := [(8, Try.f8), (10, Try.f10), (11, Try.f11), (12, Try.f12), (13, Try.f13), (14, Try.f14), (15, Try.f15), (16, Try.f16), (17, Try.f17)]
theorem fns_ok : ∀ x ∈ fns, FNok Try.prog x := by
  intro x hx
  simp only [fns, List.mem_cons, List.not_mem_nil, or_false] at hx
  rcases hx with rfl | rfl | rfl | rfl | rfl | rfl | rfl | rfl | rfl
  · exact fn8_ok
  · exact fn10_ok
  · exact fn11_ok
  · exact fn12_ok
  · exact fn13_ok
  · exact fn14_ok
  · exact fn15_ok
  · exact fn16_ok
  · exact fn17_ok
noncomputable def fnsE : List (FuncId × Func) := [(3, Try.f3), (4, Try.f4), (5, Try.f5), (6, Try.f6), (7, Try.f7), (9, Try.f9)]
theorem fnsE_ok : ∀ x ∈ fnsE, FNok Try.prog x := by
  intro x hx
  simp only [fnsE, List.mem_cons, List.not_mem_nil, or_false] at hx
  rcases hx with rfl | rfl | rfl | rfl | rfl | rfl
  · exact fn3_ok
  · exact fn4_ok
  · exact fn5_ok
  · exact fn6_ok
  · exact fn7_ok
  · exact fn9_ok
/-- The configuration, with these names for the variables of a package, and these for cells that were there and are written. -/
noncomputable def cfgW (gl : List (Nat × Nat)) (w0s : List Nat) : Cfg := { tabs := tabs, fns := fns, w0s := w0s, gl := gl }
theorem cfgW_ok (gl : List (Nat × Nat)) (w0s : List Nat) : CfgOk Try.prog (cfgW gl w0s) := ⟨tabs_ok, fns_ok, by kernel_rfl⟩
/-- .. and with the functions that are entered by name. -/
noncomputable def cfgE (gl : List (Nat × Nat)) (w0s : List Nat) : Cfg := { tabs := tabs, fns := fnsE, w0s := w0s, gl := gl }
theorem cfgE_ok (gl : List (Nat × Nat)) (w0s : List Nat) : CfgOk Try.prog (cfgE gl w0s) := ⟨tabs_ok, fnsE_ok, by kernel_rfl⟩
end Go.Proofs.Ytgoogcbibcgcmaa
