/- What is known of the types of this program, by its own tables. -/
import Derived.Test.YthjbgpmcfcijgaaProg
import Derived.Test.YthjbgpmcfcijgaaV4
namespace Go.Proofs.YthjbgpmcfcijgaaV
set_option maxRecDepth 100000
@[go_sem] theorem ti1 : tinfo Try.prog 1 = some ⟨.func, 1, 8, (some (.nilFunc))⟩ := by kernel_rfl
@[go_sem] theorem ti2 : tinfo Try.prog 2 = some ⟨.int .i64, 1, 8, (some (.int .i64 0))⟩ := by kernel_rfl
@[go_sem] theorem ti3 : tinfo Try.prog 3 = some ⟨.int .i64, 1, 8, (some (.int .i64 0))⟩ := by kernel_rfl
@[go_sem] theorem ti4 : tinfo Try.prog 4 = some ⟨.bool, 1, 1, (some (.bool false))⟩ := by kernel_rfl
@[go_sem] theorem ti5 : tinfo Try.prog 5 = some ⟨.int .u8, 1, 1, (some (.int .u8 0))⟩ := by kernel_rfl
@[go_sem] theorem ti6 : tinfo Try.prog 6 = some ⟨.int .u8, 1, 1, (some (.int .u8 0))⟩ := by kernel_rfl
@[go_sem] theorem ti7 : tinfo Try.prog 7 = some ⟨.struct [(2, 0), (3, 1), (4, 2), (6, 3)], 4, 24, (some (.agg #[.int .i64 0, .int .i64 0, .bool false, .int .u8 0]))⟩ := by kernel_rfl
@[go_sem] theorem fk7 : fieldsOk Try.prog 7 = true := by kernel_rfl
@[go_sem] theorem fo7_0 : fieldOf Try.prog 7 0 = some ⟨2, 0, 1, false⟩ := by kernel_rfl
@[go_sem] theorem fo7_1 : fieldOf Try.prog 7 1 = some ⟨3, 1, 1, false⟩ := by kernel_rfl
@[go_sem] theorem fo7_2 : fieldOf Try.prog 7 2 = some ⟨4, 2, 1, false⟩ := by kernel_rfl
@[go_sem] theorem fo7_3 : fieldOf Try.prog 7 3 = some ⟨6, 3, 1, false⟩ := by kernel_rfl
@[go_sem] theorem ti8 : tinfo Try.prog 8 = some ⟨.struct [(2, 0), (3, 1), (4, 2), (6, 3)], 4, 24, (some (.agg #[.int .i64 0, .int .i64 0, .bool false, .int .u8 0]))⟩ := by kernel_rfl
@[go_sem] theorem fk8 : fieldsOk Try.prog 8 = true := by kernel_rfl
@[go_sem] theorem fo8_0 : fieldOf Try.prog 8 0 = some ⟨2, 0, 1, false⟩ := by kernel_rfl
@[go_sem] theorem fo8_1 : fieldOf Try.prog 8 1 = some ⟨3, 1, 1, false⟩ := by kernel_rfl
@[go_sem] theorem fo8_2 : fieldOf Try.prog 8 2 = some ⟨4, 2, 1, false⟩ := by kernel_rfl
@[go_sem] theorem fo8_3 : fieldOf Try.prog 8 3 = some ⟨6, 3, 1, false⟩ := by kernel_rfl
@[go_sem] theorem ti9 : tinfo Try.prog 9 = some ⟨.string, 1, 16, (some (.string ⟨#[]⟩))⟩ := by kernel_rfl
@[go_sem] theorem ti10 : tinfo Try.prog 10 = some ⟨.string, 1, 16, (some (.string ⟨#[]⟩))⟩ := by kernel_rfl
@[go_sem] theorem ti11 : tinfo Try.prog 11 = some ⟨.string, 1, 16, (some (.string ⟨#[]⟩))⟩ := by kernel_rfl
@[go_sem] theorem ti12 : tinfo Try.prog 12 = some ⟨.int .u64, 1, 8, (some (.int .u64 0))⟩ := by kernel_rfl
@[go_sem] theorem ti13 : tinfo Try.prog 13 = some ⟨.struct [(9, 0), (12, 1)], 2, 24, (some (.agg #[.string ⟨#[]⟩, .int .u64 0]))⟩ := by kernel_rfl
@[go_sem] theorem fk13 : fieldsOk Try.prog 13 = true := by kernel_rfl
@[go_sem] theorem fo13_0 : fieldOf Try.prog 13 0 = some ⟨9, 0, 1, false⟩ := by kernel_rfl
@[go_sem] theorem fo13_1 : fieldOf Try.prog 13 1 = some ⟨12, 1, 1, false⟩ := by kernel_rfl
@[go_sem] theorem ti14 : tinfo Try.prog 14 = some ⟨.struct [(9, 0), (12, 1)], 2, 24, (some (.agg #[.string ⟨#[]⟩, .int .u64 0]))⟩ := by kernel_rfl
@[go_sem] theorem fk14 : fieldsOk Try.prog 14 = true := by kernel_rfl
@[go_sem] theorem fo14_0 : fieldOf Try.prog 14 0 = some ⟨9, 0, 1, false⟩ := by kernel_rfl
@[go_sem] theorem fo14_1 : fieldOf Try.prog 14 1 = some ⟨12, 1, 1, false⟩ := by kernel_rfl
@[go_sem] theorem ti15 : tinfo Try.prog 15 = some ⟨.pointer 133, 1, 8, (some (.pointer none))⟩ := by kernel_rfl
@[go_sem] theorem ti16 : tinfo Try.prog 16 = some ⟨.pointer 136, 1, 8, (some (.pointer none))⟩ := by kernel_rfl
@[go_sem] theorem ti17 : tinfo Try.prog 17 = some ⟨.pointer 145, 1, 8, (some (.pointer none))⟩ := by kernel_rfl
@[go_sem] theorem ti18 : tinfo Try.prog 18 = some ⟨.struct [(17, 0)], 1, 8, (some (.agg #[.pointer none]))⟩ := by kernel_rfl
@[go_sem] theorem fk18 : fieldsOk Try.prog 18 = true := by kernel_rfl
@[go_sem] theorem fo18_0 : fieldOf Try.prog 18 0 = some ⟨17, 0, 1, false⟩ := by kernel_rfl
@[go_sem] theorem ti19 : tinfo Try.prog 19 = some ⟨.struct [(17, 0)], 1, 8, (some (.agg #[.pointer none]))⟩ := by kernel_rfl
@[go_sem] theorem fk19 : fieldsOk Try.prog 19 = true := by kernel_rfl
@[go_sem] theorem fo19_0 : fieldOf Try.prog 19 0 = some ⟨17, 0, 1, false⟩ := by kernel_rfl
@[go_sem] theorem ti20 : tinfo Try.prog 20 = some ⟨.iface [], 1, 16, (some (.nilIface))⟩ := by kernel_rfl
@[go_sem] theorem ti21 : tinfo Try.prog 21 = some ⟨.int .i32, 1, 4, (some (.int .i32 0))⟩ := by kernel_rfl
@[go_sem] theorem ti22 : tinfo Try.prog 22 = some ⟨.struct [(9, 0), (9, 1), (9, 2), (9, 3), (9, 4)], 5, 80, (some (.agg #[.string ⟨#[]⟩, .string ⟨#[]⟩, .string ⟨#[]⟩, .string ⟨#[]⟩, .string ⟨#[]⟩]))⟩ := by kernel_rfl
@[go_sem] theorem fk22 : fieldsOk Try.prog 22 = true := by kernel_rfl
@[go_sem] theorem fo22_0 : fieldOf Try.prog 22 0 = some ⟨9, 0, 1, false⟩ := by kernel_rfl
@[go_sem] theorem fo22_1 : fieldOf Try.prog 22 1 = some ⟨9, 1, 1, false⟩ := by kernel_rfl
@[go_sem] theorem fo22_2 : fieldOf Try.prog 22 2 = some ⟨9, 2, 1, false⟩ := by kernel_rfl
@[go_sem] theorem fo22_3 : fieldOf Try.prog 22 3 = some ⟨9, 3, 1, false⟩ := by kernel_rfl
@[go_sem] theorem fo22_4 : fieldOf Try.prog 22 4 = some ⟨9, 4, 1, false⟩ := by kernel_rfl
@[go_sem] theorem ti23 : tinfo Try.prog 23 = some ⟨.struct [(9, 0), (9, 1), (9, 2), (9, 3), (9, 4)], 5, 80, (some (.agg #[.string ⟨#[]⟩, .string ⟨#[]⟩, .string ⟨#[]⟩, .string ⟨#[]⟩, .string ⟨#[]⟩]))⟩ := by kernel_rfl
@[go_sem] theorem fk23 : fieldsOk Try.prog 23 = true := by kernel_rfl
@[go_sem] theorem fo23_0 : fieldOf Try.prog 23 0 = some ⟨9, 0, 1, false⟩ := by kernel_rfl
@[go_sem] theorem fo23_1 : fieldOf Try.prog 23 1 = some ⟨9, 1, 1, false⟩ := by kernel_rfl
@[go_sem] theorem fo23_2 : fieldOf Try.prog 23 2 = some ⟨9, 2, 1, false⟩ := by kernel_rfl
@[go_sem] theorem fo23_3 : fieldOf Try.prog 23 3 = some ⟨9, 3, 1, false⟩ := by kernel_rfl
@[go_sem] theorem fo23_4 : fieldOf Try.prog 23 4 = some ⟨9, 4, 1, false⟩ := by kernel_rfl
@[go_sem] theorem ti24 : tinfo Try.prog 24 = some ⟨.func, 1, 8, (some (.nilFunc))⟩ := by kernel_rfl
@[go_sem] theorem ti25 : tinfo Try.prog 25 = some ⟨.slice 9, 1, 24, (some (.slice none 0 0))⟩ := by kernel_rfl
@[go_sem] theorem ti26 : tinfo Try.prog 26 = some ⟨.func, 1, 8, (some (.nilFunc))⟩ := by kernel_rfl
@[go_sem] theorem ti28 : tinfo Try.prog 28 = some ⟨.func, 1, 8, (some (.nilFunc))⟩ := by kernel_rfl
@[go_sem] theorem ti29 : tinfo Try.prog 29 = some ⟨.slice 31, 1, 24, (some (.slice none 0 0))⟩ := by kernel_rfl
@[go_sem] theorem ti30 : tinfo Try.prog 30 = some ⟨.struct [(3, 0), (3, 1), (9, 2), (9, 3), (9, 4), (9, 5), (9, 6), (9, 7), (3, 8), (3, 9), (3, 10), (29, 11)], 12, 160, (some (.agg #[.int .i64 0, .int .i64 0, .string ⟨#[]⟩, .string ⟨#[]⟩, .string ⟨#[]⟩, .string ⟨#[]⟩, .string ⟨#[]⟩, .string ⟨#[]⟩, .int .i64 0, .int .i64 0, .int .i64 0, .slice none 0 0]))⟩ := by kernel_rfl
@[go_sem] theorem fk30 : fieldsOk Try.prog 30 = true := by kernel_rfl
@[go_sem] theorem fo30_0 : fieldOf Try.prog 30 0 = some ⟨3, 0, 1, false⟩ := by kernel_rfl
@[go_sem] theorem fo30_1 : fieldOf Try.prog 30 1 = some ⟨3, 1, 1, false⟩ := by kernel_rfl
@[go_sem] theorem fo30_2 : fieldOf Try.prog 30 2 = some ⟨9, 2, 1, false⟩ := by kernel_rfl
@[go_sem] theorem fo30_3 : fieldOf Try.prog 30 3 = some ⟨9, 3, 1, false⟩ := by kernel_rfl
@[go_sem] theorem fo30_4 : fieldOf Try.prog 30 4 = some ⟨9, 4, 1, false⟩ := by kernel_rfl
@[go_sem] theorem fo30_5 : fieldOf Try.prog 30 5 = some ⟨9, 5, 1, false⟩ := by kernel_rfl
@[go_sem] theorem fo30_6 : fieldOf Try.prog 30 6 = some ⟨9, 6, 1, false⟩ := by kernel_rfl
@[go_sem] theorem fo30_7 : fieldOf Try.prog 30 7 = some ⟨9, 7, 1, false⟩ := by kernel_rfl
@[go_sem] theorem fo30_8 : fieldOf Try.prog 30 8 = some ⟨3, 8, 1, false⟩ := by kernel_rfl
@[go_sem] theorem fo30_9 : fieldOf Try.prog 30 9 = some ⟨3, 9, 1, false⟩ := by kernel_rfl
@[go_sem] theorem fo30_10 : fieldOf Try.prog 30 10 = some ⟨3, 10, 1, false⟩ := by kernel_rfl
@[go_sem] theorem fo30_11 : fieldOf Try.prog 30 11 = some ⟨29, 11, 1, false⟩ := by kernel_rfl
@[go_sem] theorem ti31 : tinfo Try.prog 31 = some ⟨.struct [(3, 0), (3, 1), (9, 2), (9, 3), (9, 4), (9, 5), (9, 6), (9, 7), (3, 8), (3, 9), (3, 10), (29, 11)], 12, 160, (some (.agg #[.int .i64 0, .int .i64 0, .string ⟨#[]⟩, .string ⟨#[]⟩, .string ⟨#[]⟩, .string ⟨#[]⟩, .string ⟨#[]⟩, .string ⟨#[]⟩, .int .i64 0, .int .i64 0, .int .i64 0, .slice none 0 0]))⟩ := by kernel_rfl
@[go_sem] theorem fk31 : fieldsOk Try.prog 31 = true := by kernel_rfl
@[go_sem] theorem fo31_0 : fieldOf Try.prog 31 0 = some ⟨3, 0, 1, false⟩ := by kernel_rfl
@[go_sem] theorem fo31_1 : fieldOf Try.prog 31 1 = some ⟨3, 1, 1, false⟩ := by kernel_rfl
@[go_sem] theorem fo31_2 : fieldOf Try.prog 31 2 = some ⟨9, 2, 1, false⟩ := by kernel_rfl
@[go_sem] theorem fo31_3 : fieldOf Try.prog 31 3 = some ⟨9, 3, 1, false⟩ := by kernel_rfl
@[go_sem] theorem fo31_4 : fieldOf Try.prog 31 4 = some ⟨9, 4, 1, false⟩ := by kernel_rfl
@[go_sem] theorem fo31_5 : fieldOf Try.prog 31 5 = some ⟨9, 5, 1, false⟩ := by kernel_rfl
@[go_sem] theorem fo31_6 : fieldOf Try.prog 31 6 = some ⟨9, 6, 1, false⟩ := by kernel_rfl
@[go_sem] theorem fo31_7 : fieldOf Try.prog 31 7 = some ⟨9, 7, 1, false⟩ := by kernel_rfl
@[go_sem] theorem fo31_8 : fieldOf Try.prog 31 8 = some ⟨3, 8, 1, false⟩ := by kernel_rfl
@[go_sem] theorem fo31_9 : fieldOf Try.prog 31 9 = some ⟨3, 9, 1, false⟩ := by kernel_rfl
@[go_sem] theorem fo31_10 : fieldOf Try.prog 31 10 = some ⟨3, 10, 1, false⟩ := by kernel_rfl
@[go_sem] theorem fo31_11 : fieldOf Try.prog 31 11 = some ⟨29, 11, 1, false⟩ := by kernel_rfl
@[go_sem] theorem ti32 : tinfo Try.prog 32 = some ⟨.func, 1, 8, (some (.nilFunc))⟩ := by kernel_rfl
@[go_sem] theorem ti33 : tinfo Try.prog 33 = some ⟨.slice 76, 1, 24, (some (.slice none 0 0))⟩ := by kernel_rfl
@[go_sem] theorem ti34 : tinfo Try.prog 34 = some ⟨.struct [(9, 0), (9, 1), (9, 2), (9, 3), (33, 4), (33, 5)], 6, 112, (some (.agg #[.string ⟨#[]⟩, .string ⟨#[]⟩, .string ⟨#[]⟩, .string ⟨#[]⟩, .slice none 0 0, .slice none 0 0]))⟩ := by kernel_rfl
@[go_sem] theorem fk34 : fieldsOk Try.prog 34 = true := by kernel_rfl
@[go_sem] theorem fo34_0 : fieldOf Try.prog 34 0 = some ⟨9, 0, 1, false⟩ := by kernel_rfl
@[go_sem] theorem fo34_1 : fieldOf Try.prog 34 1 = some ⟨9, 1, 1, false⟩ := by kernel_rfl
@[go_sem] theorem fo34_2 : fieldOf Try.prog 34 2 = some ⟨9, 2, 1, false⟩ := by kernel_rfl
@[go_sem] theorem fo34_3 : fieldOf Try.prog 34 3 = some ⟨9, 3, 1, false⟩ := by kernel_rfl
@[go_sem] theorem fo34_4 : fieldOf Try.prog 34 4 = some ⟨33, 4, 1, false⟩ := by kernel_rfl
@[go_sem] theorem fo34_5 : fieldOf Try.prog 34 5 = some ⟨33, 5, 1, false⟩ := by kernel_rfl
@[go_sem] theorem ti35 : tinfo Try.prog 35 = some ⟨.struct [(9, 0), (9, 1), (9, 2), (9, 3), (33, 4), (33, 5)], 6, 112, (some (.agg #[.string ⟨#[]⟩, .string ⟨#[]⟩, .string ⟨#[]⟩, .string ⟨#[]⟩, .slice none 0 0, .slice none 0 0]))⟩ := by kernel_rfl
@[go_sem] theorem fk35 : fieldsOk Try.prog 35 = true := by kernel_rfl
@[go_sem] theorem fo35_0 : fieldOf Try.prog 35 0 = some ⟨9, 0, 1, false⟩ := by kernel_rfl
@[go_sem] theorem fo35_1 : fieldOf Try.prog 35 1 = some ⟨9, 1, 1, false⟩ := by kernel_rfl
@[go_sem] theorem fo35_2 : fieldOf Try.prog 35 2 = some ⟨9, 2, 1, false⟩ := by kernel_rfl
@[go_sem] theorem fo35_3 : fieldOf Try.prog 35 3 = some ⟨9, 3, 1, false⟩ := by kernel_rfl
@[go_sem] theorem fo35_4 : fieldOf Try.prog 35 4 = some ⟨33, 4, 1, false⟩ := by kernel_rfl
@[go_sem] theorem fo35_5 : fieldOf Try.prog 35 5 = some ⟨33, 5, 1, false⟩ := by kernel_rfl
@[go_sem] theorem ti36 : tinfo Try.prog 36 = some ⟨.func, 1, 8, (some (.nilFunc))⟩ := by kernel_rfl
@[go_sem] theorem ti38 : tinfo Try.prog 38 = some ⟨.func, 1, 8, (some (.nilFunc))⟩ := by kernel_rfl
@[go_sem] theorem ti39 : tinfo Try.prog 39 = some ⟨.func, 1, 8, (some (.nilFunc))⟩ := by kernel_rfl
@[go_sem] theorem ti40 : tinfo Try.prog 40 = some ⟨.func, 1, 8, (some (.nilFunc))⟩ := by kernel_rfl
@[go_sem] theorem ti41 : tinfo Try.prog 41 = some ⟨.pointer 86, 1, 8, (some (.pointer none))⟩ := by kernel_rfl
@[go_sem] theorem ti43 : tinfo Try.prog 43 = some ⟨.func, 1, 8, (some (.nilFunc))⟩ := by kernel_rfl
@[go_sem] theorem ti44 : tinfo Try.prog 44 = some ⟨.struct [(9, 0), (9, 1), (9, 2), (4, 3)], 4, 56, (some (.agg #[.string ⟨#[]⟩, .string ⟨#[]⟩, .string ⟨#[]⟩, .bool false]))⟩ := by kernel_rfl
@[go_sem] theorem fk44 : fieldsOk Try.prog 44 = true := by kernel_rfl
@[go_sem] theorem fo44_0 : fieldOf Try.prog 44 0 = some ⟨9, 0, 1, false⟩ := by kernel_rfl
@[go_sem] theorem fo44_1 : fieldOf Try.prog 44 1 = some ⟨9, 1, 1, false⟩ := by kernel_rfl
@[go_sem] theorem fo44_2 : fieldOf Try.prog 44 2 = some ⟨9, 2, 1, false⟩ := by kernel_rfl
@[go_sem] theorem fo44_3 : fieldOf Try.prog 44 3 = some ⟨4, 3, 1, false⟩ := by kernel_rfl
@[go_sem] theorem ti45 : tinfo Try.prog 45 = some ⟨.struct [(9, 0), (9, 1), (9, 2), (4, 3)], 4, 56, (some (.agg #[.string ⟨#[]⟩, .string ⟨#[]⟩, .string ⟨#[]⟩, .bool false]))⟩ := by kernel_rfl
@[go_sem] theorem fk45 : fieldsOk Try.prog 45 = true := by kernel_rfl
@[go_sem] theorem fo45_0 : fieldOf Try.prog 45 0 = some ⟨9, 0, 1, false⟩ := by kernel_rfl
@[go_sem] theorem fo45_1 : fieldOf Try.prog 45 1 = some ⟨9, 1, 1, false⟩ := by kernel_rfl
@[go_sem] theorem fo45_2 : fieldOf Try.prog 45 2 = some ⟨9, 2, 1, false⟩ := by kernel_rfl
@[go_sem] theorem fo45_3 : fieldOf Try.prog 45 3 = some ⟨4, 3, 1, false⟩ := by kernel_rfl
@[go_sem] theorem ti46 : tinfo Try.prog 46 = some ⟨.struct [(45, 0), (9, 4), (9, 5)], 6, 88, (some (.agg #[.string ⟨#[]⟩, .string ⟨#[]⟩, .string ⟨#[]⟩, .bool false, .string ⟨#[]⟩, .string ⟨#[]⟩]))⟩ := by kernel_rfl
@[go_sem] theorem fk46 : fieldsOk Try.prog 46 = true := by kernel_rfl
@[go_sem] theorem fo46_0 : fieldOf Try.prog 46 0 = some ⟨45, 0, 4, true⟩ := by kernel_rfl
@[go_sem] theorem fo46_1 : fieldOf Try.prog 46 1 = some ⟨9, 4, 1, false⟩ := by kernel_rfl
@[go_sem] theorem fo46_2 : fieldOf Try.prog 46 2 = some ⟨9, 5, 1, false⟩ := by kernel_rfl
@[go_sem] theorem ti47 : tinfo Try.prog 47 = some ⟨.struct [(45, 0), (9, 4), (9, 5)], 6, 88, (some (.agg #[.string ⟨#[]⟩, .string ⟨#[]⟩, .string ⟨#[]⟩, .bool false, .string ⟨#[]⟩, .string ⟨#[]⟩]))⟩ := by kernel_rfl
@[go_sem] theorem fk47 : fieldsOk Try.prog 47 = true := by kernel_rfl
@[go_sem] theorem fo47_0 : fieldOf Try.prog 47 0 = some ⟨45, 0, 4, true⟩ := by kernel_rfl
@[go_sem] theorem fo47_1 : fieldOf Try.prog 47 1 = some ⟨9, 4, 1, false⟩ := by kernel_rfl
@[go_sem] theorem fo47_2 : fieldOf Try.prog 47 2 = some ⟨9, 5, 1, false⟩ := by kernel_rfl
@[go_sem] theorem ti48 : tinfo Try.prog 48 = some ⟨.func, 1, 8, (some (.nilFunc))⟩ := by kernel_rfl
@[go_sem] theorem ti49 : tinfo Try.prog 49 = some ⟨.func, 1, 8, (some (.nilFunc))⟩ := by kernel_rfl
@[go_sem] theorem ti50 : tinfo Try.prog 50 = some ⟨.func, 1, 8, (some (.nilFunc))⟩ := by kernel_rfl
@[go_sem] theorem ti51 : tinfo Try.prog 51 = some ⟨.func, 1, 8, (some (.nilFunc))⟩ := by kernel_rfl
@[go_sem] theorem ti52 : tinfo Try.prog 52 = some ⟨.func, 1, 8, (some (.nilFunc))⟩ := by kernel_rfl
@[go_sem] theorem ti53 : tinfo Try.prog 53 = some ⟨.func, 1, 8, (some (.nilFunc))⟩ := by kernel_rfl
@[go_sem] theorem ti54 : tinfo Try.prog 54 = some ⟨.func, 1, 8, (some (.nilFunc))⟩ := by kernel_rfl
@[go_sem] theorem ti55 : tinfo Try.prog 55 = some ⟨.iface [("Error", 71)], 1, 16, (some (.nilIface))⟩ := by kernel_rfl
@[go_sem] theorem ti56 : tinfo Try.prog 56 = some ⟨.iface [("Error", 71)], 1, 16, (some (.nilIface))⟩ := by kernel_rfl
@[go_sem] theorem ti57 : tinfo Try.prog 57 = some ⟨.func, 1, 8, (some (.nilFunc))⟩ := by kernel_rfl
@[go_sem] theorem ti58 : tinfo Try.prog 58 = some ⟨.func, 1, 8, (some (.nilFunc))⟩ := by kernel_rfl
@[go_sem] theorem ti59 : tinfo Try.prog 59 = some ⟨.func, 1, 8, (some (.nilFunc))⟩ := by kernel_rfl
@[go_sem] theorem ti60 : tinfo Try.prog 60 = some ⟨.func, 1, 8, (some (.nilFunc))⟩ := by kernel_rfl
@[go_sem] theorem ti61 : tinfo Try.prog 61 = some ⟨.func, 1, 8, (some (.nilFunc))⟩ := by kernel_rfl
@[go_sem] theorem ti62 : tinfo Try.prog 62 = some ⟨.slice 3, 1, 24, (some (.slice none 0 0))⟩ := by kernel_rfl
@[go_sem] theorem ti63 : tinfo Try.prog 63 = some ⟨.func, 1, 8, (some (.nilFunc))⟩ := by kernel_rfl
@[go_sem] theorem ti64 : tinfo Try.prog 64 = some ⟨.pointer 3, 1, 8, (some (.pointer none))⟩ := by kernel_rfl
@[go_sem] theorem ti65 : tinfo Try.prog 65 = some ⟨.pointer 62, 1, 8, (some (.pointer none))⟩ := by kernel_rfl
@[go_sem] theorem ti66 : tinfo Try.prog 66 = some ⟨.func, 1, 8, (some (.nilFunc))⟩ := by kernel_rfl
@[go_sem] theorem ti67 : tinfo Try.prog 67 = some ⟨.pointer 94, 1, 8, (some (.pointer none))⟩ := by kernel_rfl
@[go_sem] theorem ti68 : tinfo Try.prog 68 = some ⟨.func, 1, 8, (some (.nilFunc))⟩ := by kernel_rfl
@[go_sem] theorem ti70 : tinfo Try.prog 70 = some ⟨.func, 1, 8, (some (.nilFunc))⟩ := by kernel_rfl
@[go_sem] theorem ti71 : tinfo Try.prog 71 = some ⟨.func, 1, 8, (some (.nilFunc))⟩ := by kernel_rfl
@[go_sem] theorem ti72 : tinfo Try.prog 72 = some ⟨.func, 1, 8, (some (.nilFunc))⟩ := by kernel_rfl
@[go_sem] theorem ti73 : tinfo Try.prog 73 = some ⟨.func, 1, 8, (some (.nilFunc))⟩ := by kernel_rfl
@[go_sem] theorem ti74 : tinfo Try.prog 74 = some ⟨.func, 1, 8, (some (.nilFunc))⟩ := by kernel_rfl
@[go_sem] theorem ti75 : tinfo Try.prog 75 = some ⟨.struct [(9, 0), (9, 1)], 2, 32, (some (.agg #[.string ⟨#[]⟩, .string ⟨#[]⟩]))⟩ := by kernel_rfl
@[go_sem] theorem fk75 : fieldsOk Try.prog 75 = true := by kernel_rfl
@[go_sem] theorem fo75_0 : fieldOf Try.prog 75 0 = some ⟨9, 0, 1, false⟩ := by kernel_rfl
@[go_sem] theorem fo75_1 : fieldOf Try.prog 75 1 = some ⟨9, 1, 1, false⟩ := by kernel_rfl
@[go_sem] theorem ti76 : tinfo Try.prog 76 = some ⟨.struct [(9, 0), (9, 1)], 2, 32, (some (.agg #[.string ⟨#[]⟩, .string ⟨#[]⟩]))⟩ := by kernel_rfl
@[go_sem] theorem fk76 : fieldsOk Try.prog 76 = true := by kernel_rfl
@[go_sem] theorem fo76_0 : fieldOf Try.prog 76 0 = some ⟨9, 0, 1, false⟩ := by kernel_rfl
@[go_sem] theorem fo76_1 : fieldOf Try.prog 76 1 = some ⟨9, 1, 1, false⟩ := by kernel_rfl
@[go_sem] theorem ti77 : tinfo Try.prog 77 = some ⟨.func, 1, 8, (some (.nilFunc))⟩ := by kernel_rfl
@[go_sem] theorem ti78 : tinfo Try.prog 78 = some ⟨.func, 1, 8, (some (.nilFunc))⟩ := by kernel_rfl
@[go_sem] theorem ti79 : tinfo Try.prog 79 = some ⟨.func, 1, 8, (some (.nilFunc))⟩ := by kernel_rfl
@[go_sem] theorem ti80 : tinfo Try.prog 80 = some ⟨.func, 1, 8, (some (.nilFunc))⟩ := by kernel_rfl
@[go_sem] theorem ti81 : tinfo Try.prog 81 = some ⟨.func, 1, 8, (some (.nilFunc))⟩ := by kernel_rfl
@[go_sem] theorem ti82 : tinfo Try.prog 82 = some ⟨.func, 1, 8, (some (.nilFunc))⟩ := by kernel_rfl
@[go_sem] theorem ti83 : tinfo Try.prog 83 = some ⟨.slice 67, 1, 24, (some (.slice none 0 0))⟩ := by kernel_rfl
@[go_sem] theorem ti84 : tinfo Try.prog 84 = some ⟨.func, 1, 8, (some (.nilFunc))⟩ := by kernel_rfl
@[go_sem] theorem ti85 : tinfo Try.prog 85 = some ⟨.struct [(25, 0), (67, 1), (4, 2), (25, 3)], 4, 64, (some (.agg #[.slice none 0 0, .pointer none, .bool false, .slice none 0 0]))⟩ := by kernel_rfl
@[go_sem] theorem fk85 : fieldsOk Try.prog 85 = true := by kernel_rfl
@[go_sem] theorem fo85_0 : fieldOf Try.prog 85 0 = some ⟨25, 0, 1, false⟩ := by kernel_rfl
@[go_sem] theorem fo85_1 : fieldOf Try.prog 85 1 = some ⟨67, 1, 1, false⟩ := by kernel_rfl
@[go_sem] theorem fo85_2 : fieldOf Try.prog 85 2 = some ⟨4, 2, 1, false⟩ := by kernel_rfl
@[go_sem] theorem fo85_3 : fieldOf Try.prog 85 3 = some ⟨25, 3, 1, false⟩ := by kernel_rfl
@[go_sem] theorem ti86 : tinfo Try.prog 86 = some ⟨.struct [(25, 0), (67, 1), (4, 2), (25, 3)], 4, 64, (some (.agg #[.slice none 0 0, .pointer none, .bool false, .slice none 0 0]))⟩ := by kernel_rfl
@[go_sem] theorem fk86 : fieldsOk Try.prog 86 = true := by kernel_rfl
@[go_sem] theorem fo86_0 : fieldOf Try.prog 86 0 = some ⟨25, 0, 1, false⟩ := by kernel_rfl
@[go_sem] theorem fo86_1 : fieldOf Try.prog 86 1 = some ⟨67, 1, 1, false⟩ := by kernel_rfl
@[go_sem] theorem fo86_2 : fieldOf Try.prog 86 2 = some ⟨4, 2, 1, false⟩ := by kernel_rfl
@[go_sem] theorem fo86_3 : fieldOf Try.prog 86 3 = some ⟨25, 3, 1, false⟩ := by kernel_rfl
@[go_sem] theorem ti87 : tinfo Try.prog 87 = some ⟨.func, 1, 8, (some (.nilFunc))⟩ := by kernel_rfl
@[go_sem] theorem ti88 : tinfo Try.prog 88 = some ⟨.func, 1, 8, (some (.nilFunc))⟩ := by kernel_rfl
@[go_sem] theorem ti89 : tinfo Try.prog 89 = some ⟨.func, 1, 8, (some (.nilFunc))⟩ := by kernel_rfl
@[go_sem] theorem ti90 : tinfo Try.prog 90 = some ⟨.int .u32, 1, 4, (some (.int .u32 0))⟩ := by kernel_rfl
@[go_sem] theorem ti91 : tinfo Try.prog 91 = some ⟨.int .u32, 1, 4, (some (.int .u32 0))⟩ := by kernel_rfl
@[go_sem] theorem ti92 : tinfo Try.prog 92 = some ⟨.int .u32, 1, 4, (some (.int .u32 0))⟩ := by kernel_rfl
@[go_sem] theorem ti93 : tinfo Try.prog 93 = some ⟨.struct [(91, 0), (92, 1), (9, 2), (9, 3), (9, 4), (67, 5), (83, 6), (9, 7), (9, 8), (9, 9), (3, 10), (3, 11)], 12, 152, (some (.agg #[.int .u32 0, .int .u32 0, .string ⟨#[]⟩, .string ⟨#[]⟩, .string ⟨#[]⟩, .pointer none, .slice none 0 0, .string ⟨#[]⟩, .string ⟨#[]⟩, .string ⟨#[]⟩, .int .i64 0, .int .i64 0]))⟩ := by kernel_rfl
@[go_sem] theorem fk93 : fieldsOk Try.prog 93 = true := by kernel_rfl
@[go_sem] theorem fo93_0 : fieldOf Try.prog 93 0 = some ⟨91, 0, 1, false⟩ := by kernel_rfl
@[go_sem] theorem fo93_1 : fieldOf Try.prog 93 1 = some ⟨92, 1, 1, false⟩ := by kernel_rfl
@[go_sem] theorem fo93_2 : fieldOf Try.prog 93 2 = some ⟨9, 2, 1, false⟩ := by kernel_rfl
@[go_sem] theorem fo93_3 : fieldOf Try.prog 93 3 = some ⟨9, 3, 1, false⟩ := by kernel_rfl
@[go_sem] theorem fo93_4 : fieldOf Try.prog 93 4 = some ⟨9, 4, 1, false⟩ := by kernel_rfl
@[go_sem] theorem fo93_5 : fieldOf Try.prog 93 5 = some ⟨67, 5, 1, false⟩ := by kernel_rfl
@[go_sem] theorem fo93_6 : fieldOf Try.prog 93 6 = some ⟨83, 6, 1, false⟩ := by kernel_rfl
@[go_sem] theorem fo93_7 : fieldOf Try.prog 93 7 = some ⟨9, 7, 1, false⟩ := by kernel_rfl
@[go_sem] theorem fo93_8 : fieldOf Try.prog 93 8 = some ⟨9, 8, 1, false⟩ := by kernel_rfl
@[go_sem] theorem fo93_9 : fieldOf Try.prog 93 9 = some ⟨9, 9, 1, false⟩ := by kernel_rfl
@[go_sem] theorem fo93_10 : fieldOf Try.prog 93 10 = some ⟨3, 10, 1, false⟩ := by kernel_rfl
@[go_sem] theorem fo93_11 : fieldOf Try.prog 93 11 = some ⟨3, 11, 1, false⟩ := by kernel_rfl
@[go_sem] theorem ti94 : tinfo Try.prog 94 = some ⟨.struct [(91, 0), (92, 1), (9, 2), (9, 3), (9, 4), (67, 5), (83, 6), (9, 7), (9, 8), (9, 9), (3, 10), (3, 11)], 12, 152, (some (.agg #[.int .u32 0, .int .u32 0, .string ⟨#[]⟩, .string ⟨#[]⟩, .string ⟨#[]⟩, .pointer none, .slice none 0 0, .string ⟨#[]⟩, .string ⟨#[]⟩, .string ⟨#[]⟩, .int .i64 0, .int .i64 0]))⟩ := by kernel_rfl
@[go_sem] theorem fk94 : fieldsOk Try.prog 94 = true := by kernel_rfl
@[go_sem] theorem fo94_0 : fieldOf Try.prog 94 0 = some ⟨91, 0, 1, false⟩ := by kernel_rfl
@[go_sem] theorem fo94_1 : fieldOf Try.prog 94 1 = some ⟨92, 1, 1, false⟩ := by kernel_rfl
@[go_sem] theorem fo94_2 : fieldOf Try.prog 94 2 = some ⟨9, 2, 1, false⟩ := by kernel_rfl
@[go_sem] theorem fo94_3 : fieldOf Try.prog 94 3 = some ⟨9, 3, 1, false⟩ := by kernel_rfl
@[go_sem] theorem fo94_4 : fieldOf Try.prog 94 4 = some ⟨9, 4, 1, false⟩ := by kernel_rfl
@[go_sem] theorem fo94_5 : fieldOf Try.prog 94 5 = some ⟨67, 5, 1, false⟩ := by kernel_rfl
@[go_sem] theorem fo94_6 : fieldOf Try.prog 94 6 = some ⟨83, 6, 1, false⟩ := by kernel_rfl
@[go_sem] theorem fo94_7 : fieldOf Try.prog 94 7 = some ⟨9, 7, 1, false⟩ := by kernel_rfl
@[go_sem] theorem fo94_8 : fieldOf Try.prog 94 8 = some ⟨9, 8, 1, false⟩ := by kernel_rfl
@[go_sem] theorem fo94_9 : fieldOf Try.prog 94 9 = some ⟨9, 9, 1, false⟩ := by kernel_rfl
@[go_sem] theorem fo94_10 : fieldOf Try.prog 94 10 = some ⟨3, 10, 1, false⟩ := by kernel_rfl
@[go_sem] theorem fo94_11 : fieldOf Try.prog 94 11 = some ⟨3, 11, 1, false⟩ := by kernel_rfl
@[go_sem] theorem ti95 : tinfo Try.prog 95 = some ⟨.func, 1, 8, (some (.nilFunc))⟩ := by kernel_rfl
@[go_sem] theorem ti96 : tinfo Try.prog 96 = some ⟨.func, 1, 8, (some (.nilFunc))⟩ := by kernel_rfl
@[go_sem] theorem ti97 : tinfo Try.prog 97 = some ⟨.func, 1, 8, (some (.nilFunc))⟩ := by kernel_rfl
@[go_sem] theorem ti98 : tinfo Try.prog 98 = some ⟨.func, 1, 8, (some (.nilFunc))⟩ := by kernel_rfl
@[go_sem] theorem ti99 : tinfo Try.prog 99 = some ⟨.pointer 101, 1, 8, (some (.pointer none))⟩ := by kernel_rfl
@[go_sem] theorem ti100 : tinfo Try.prog 100 = some ⟨.struct [(41, 0), (41, 1)], 2, 16, (some (.agg #[.pointer none, .pointer none]))⟩ := by kernel_rfl
@[go_sem] theorem fk100 : fieldsOk Try.prog 100 = true := by kernel_rfl
@[go_sem] theorem fo100_0 : fieldOf Try.prog 100 0 = some ⟨41, 0, 1, false⟩ := by kernel_rfl
@[go_sem] theorem fo100_1 : fieldOf Try.prog 100 1 = some ⟨41, 1, 1, false⟩ := by kernel_rfl
@[go_sem] theorem ti101 : tinfo Try.prog 101 = some ⟨.struct [(41, 0), (41, 1)], 2, 16, (some (.agg #[.pointer none, .pointer none]))⟩ := by kernel_rfl
@[go_sem] theorem fk101 : fieldsOk Try.prog 101 = true := by kernel_rfl
@[go_sem] theorem fo101_0 : fieldOf Try.prog 101 0 = some ⟨41, 0, 1, false⟩ := by kernel_rfl
@[go_sem] theorem fo101_1 : fieldOf Try.prog 101 1 = some ⟨41, 1, 1, false⟩ := by kernel_rfl
@[go_sem] theorem ti102 : tinfo Try.prog 102 = some ⟨.func, 1, 8, (some (.nilFunc))⟩ := by kernel_rfl
@[go_sem] theorem ti103 : tinfo Try.prog 103 = some ⟨.func, 1, 8, (some (.nilFunc))⟩ := by kernel_rfl
@[go_sem] theorem ti104 : tinfo Try.prog 104 = some ⟨.slice 20, 1, 24, (some (.slice none 0 0))⟩ := by kernel_rfl
@[go_sem] theorem ti105 : tinfo Try.prog 105 = some ⟨.func, 1, 8, (some (.nilFunc))⟩ := by kernel_rfl
@[go_sem] theorem ti106 : tinfo Try.prog 106 = some ⟨.func, 1, 8, (some (.nilFunc))⟩ := by kernel_rfl
@[go_sem] theorem ti107 : tinfo Try.prog 107 = some ⟨.func, 1, 8, (some (.nilFunc))⟩ := by kernel_rfl
@[go_sem] theorem ti108 : tinfo Try.prog 108 = some ⟨.func, 1, 8, (some (.nilFunc))⟩ := by kernel_rfl
@[go_sem] theorem ti109 : tinfo Try.prog 109 = some ⟨.func, 1, 8, (some (.nilFunc))⟩ := by kernel_rfl
@[go_sem] theorem ti111 : tinfo Try.prog 111 = some ⟨.func, 1, 8, (some (.nilFunc))⟩ := by kernel_rfl
@[go_sem] theorem ti112 : tinfo Try.prog 112 = some ⟨.func, 1, 8, (some (.nilFunc))⟩ := by kernel_rfl
@[go_sem] theorem ti113 : tinfo Try.prog 113 = some ⟨.func, 1, 8, (some (.nilFunc))⟩ := by kernel_rfl
@[go_sem] theorem ti114 : tinfo Try.prog 114 = some ⟨.func, 1, 8, (some (.nilFunc))⟩ := by kernel_rfl
@[go_sem] theorem ti115 : tinfo Try.prog 115 = some ⟨.slice 41, 1, 24, (some (.slice none 0 0))⟩ := by kernel_rfl
@[go_sem] theorem ti117 : tinfo Try.prog 117 = some ⟨.func, 1, 8, (some (.nilFunc))⟩ := by kernel_rfl
@[go_sem] theorem ti118 : tinfo Try.prog 118 = some ⟨.pointer 120, 1, 8, (some (.pointer none))⟩ := by kernel_rfl
@[go_sem] theorem ti119 : tinfo Try.prog 119 = some ⟨.struct [(9, 0)], 1, 16, (some (.agg #[.string ⟨#[]⟩]))⟩ := by kernel_rfl
@[go_sem] theorem fk119 : fieldsOk Try.prog 119 = true := by kernel_rfl
@[go_sem] theorem fo119_0 : fieldOf Try.prog 119 0 = some ⟨9, 0, 1, false⟩ := by kernel_rfl
@[go_sem] theorem ti120 : tinfo Try.prog 120 = some ⟨.struct [(9, 0)], 1, 16, (some (.agg #[.string ⟨#[]⟩]))⟩ := by kernel_rfl
@[go_sem] theorem fk120 : fieldsOk Try.prog 120 = true := by kernel_rfl
@[go_sem] theorem fo120_0 : fieldOf Try.prog 120 0 = some ⟨9, 0, 1, false⟩ := by kernel_rfl
@[go_sem] theorem ti121 : tinfo Try.prog 121 = some ⟨.func, 1, 8, (some (.nilFunc))⟩ := by kernel_rfl
@[go_sem] theorem ti122 : tinfo Try.prog 122 = some ⟨.func, 1, 8, (some (.nilFunc))⟩ := by kernel_rfl
@[go_sem] theorem ti123 : tinfo Try.prog 123 = some ⟨.map 9 4, 1, 8, (some (.map none))⟩ := by kernel_rfl
@[go_sem] theorem ti124 : tinfo Try.prog 124 = some ⟨.func, 1, 8, (some (.nilFunc))⟩ := by kernel_rfl
@[go_sem] theorem ti125 : tinfo Try.prog 125 = some ⟨.func, 1, 8, (some (.nilFunc))⟩ := by kernel_rfl
@[go_sem] theorem ti126 : tinfo Try.prog 126 = some ⟨.func, 1, 8, (some (.nilFunc))⟩ := by kernel_rfl
@[go_sem] theorem ti127 : tinfo Try.prog 127 = some ⟨.func, 1, 8, (some (.nilFunc))⟩ := by kernel_rfl
@[go_sem] theorem ti128 : tinfo Try.prog 128 = some ⟨.pointer 130, 1, 8, (some (.pointer none))⟩ := by kernel_rfl
@[go_sem] theorem ti129 : tinfo Try.prog 129 = some ⟨.struct [(91, 0), (41, 1)], 2, 16, (some (.agg #[.int .u32 0, .pointer none]))⟩ := by kernel_rfl
@[go_sem] theorem fk129 : fieldsOk Try.prog 129 = true := by kernel_rfl
@[go_sem] theorem fo129_0 : fieldOf Try.prog 129 0 = some ⟨91, 0, 1, false⟩ := by kernel_rfl
@[go_sem] theorem fo129_1 : fieldOf Try.prog 129 1 = some ⟨41, 1, 1, false⟩ := by kernel_rfl
@[go_sem] theorem ti130 : tinfo Try.prog 130 = some ⟨.struct [(91, 0), (41, 1)], 2, 16, (some (.agg #[.int .u32 0, .pointer none]))⟩ := by kernel_rfl
@[go_sem] theorem fk130 : fieldsOk Try.prog 130 = true := by kernel_rfl
@[go_sem] theorem fo130_0 : fieldOf Try.prog 130 0 = some ⟨91, 0, 1, false⟩ := by kernel_rfl
@[go_sem] theorem fo130_1 : fieldOf Try.prog 130 1 = some ⟨41, 1, 1, false⟩ := by kernel_rfl
@[go_sem] theorem ti131 : tinfo Try.prog 131 = some ⟨.func, 1, 8, (some (.nilFunc))⟩ := by kernel_rfl
@[go_sem] theorem ti132 : tinfo Try.prog 132 = some ⟨.struct [(17, 0), (17, 1), (17, 2), (9, 3)], 4, 40, (some (.agg #[.pointer none, .pointer none, .pointer none, .string ⟨#[]⟩]))⟩ := by kernel_rfl
@[go_sem] theorem fk132 : fieldsOk Try.prog 132 = true := by kernel_rfl
@[go_sem] theorem fo132_0 : fieldOf Try.prog 132 0 = some ⟨17, 0, 1, false⟩ := by kernel_rfl
@[go_sem] theorem fo132_1 : fieldOf Try.prog 132 1 = some ⟨17, 1, 1, false⟩ := by kernel_rfl
@[go_sem] theorem fo132_2 : fieldOf Try.prog 132 2 = some ⟨17, 2, 1, false⟩ := by kernel_rfl
@[go_sem] theorem fo132_3 : fieldOf Try.prog 132 3 = some ⟨9, 3, 1, false⟩ := by kernel_rfl
@[go_sem] theorem ti133 : tinfo Try.prog 133 = some ⟨.struct [(17, 0), (17, 1), (17, 2), (9, 3)], 4, 40, (some (.agg #[.pointer none, .pointer none, .pointer none, .string ⟨#[]⟩]))⟩ := by kernel_rfl
@[go_sem] theorem fk133 : fieldsOk Try.prog 133 = true := by kernel_rfl
@[go_sem] theorem fo133_0 : fieldOf Try.prog 133 0 = some ⟨17, 0, 1, false⟩ := by kernel_rfl
@[go_sem] theorem fo133_1 : fieldOf Try.prog 133 1 = some ⟨17, 1, 1, false⟩ := by kernel_rfl
@[go_sem] theorem fo133_2 : fieldOf Try.prog 133 2 = some ⟨17, 2, 1, false⟩ := by kernel_rfl
@[go_sem] theorem fo133_3 : fieldOf Try.prog 133 3 = some ⟨9, 3, 1, false⟩ := by kernel_rfl
@[go_sem] theorem ti134 : tinfo Try.prog 134 = some ⟨.array 0 16, 0, 0, (some (.agg #[]))⟩ := by kernel_rfl
@[go_sem] theorem ti135 : tinfo Try.prog 135 = some ⟨.struct [(134, 0)], 0, 0, (some (.agg #[]))⟩ := by kernel_rfl
@[go_sem] theorem fk135 : fieldsOk Try.prog 135 = true := by kernel_rfl
@[go_sem] theorem fo135_0 : fieldOf Try.prog 135 0 = some ⟨134, 0, 0, true⟩ := by kernel_rfl
@[go_sem] theorem ti136 : tinfo Try.prog 136 = some ⟨.struct [(134, 0)], 0, 0, (some (.agg #[]))⟩ := by kernel_rfl
@[go_sem] theorem fk136 : fieldsOk Try.prog 136 = true := by kernel_rfl
@[go_sem] theorem fo136_0 : fieldOf Try.prog 136 0 = some ⟨134, 0, 0, true⟩ := by kernel_rfl
@[go_sem] theorem ti137 : tinfo Try.prog 137 = some ⟨.func, 1, 8, (some (.nilFunc))⟩ := by kernel_rfl
@[go_sem] theorem ti138 : tinfo Try.prog 138 = some ⟨.int .u8, 1, 1, (some (.int .u8 0))⟩ := by kernel_rfl
@[go_sem] theorem ti139 : tinfo Try.prog 139 = some ⟨.int .u8, 1, 1, (some (.int .u8 0))⟩ := by kernel_rfl
@[go_sem] theorem ti140 : tinfo Try.prog 140 = some ⟨.func, 1, 8, (some (.nilFunc))⟩ := by kernel_rfl
@[go_sem] theorem ti141 : tinfo Try.prog 141 = some ⟨.pointer 5, 1, 8, (some (.pointer none))⟩ := by kernel_rfl
@[go_sem] theorem ti142 : tinfo Try.prog 142 = some ⟨.int .i32, 1, 4, (some (.int .i32 0))⟩ := by kernel_rfl
@[go_sem] theorem ti143 : tinfo Try.prog 143 = some ⟨.int .i32, 1, 4, (some (.int .i32 0))⟩ := by kernel_rfl
@[go_sem] theorem ti144 : tinfo Try.prog 144 = some ⟨.struct [(12, 0), (12, 1), (90, 2), (138, 3), (5, 4), (5, 5), (139, 6), (140, 7), (141, 8), (142, 9), (143, 10)], 11, 48, (some (.agg #[.int .u64 0, .int .u64 0, .int .u32 0, .int .u8 0, .int .u8 0, .int .u8 0, .int .u8 0, .nilFunc, .pointer none, .int .i32 0, .int .i32 0]))⟩ := by kernel_rfl
@[go_sem] theorem fk144 : fieldsOk Try.prog 144 = true := by kernel_rfl
@[go_sem] theorem fo144_0 : fieldOf Try.prog 144 0 = some ⟨12, 0, 1, false⟩ := by kernel_rfl
@[go_sem] theorem fo144_1 : fieldOf Try.prog 144 1 = some ⟨12, 1, 1, false⟩ := by kernel_rfl
@[go_sem] theorem fo144_2 : fieldOf Try.prog 144 2 = some ⟨90, 2, 1, false⟩ := by kernel_rfl
@[go_sem] theorem fo144_3 : fieldOf Try.prog 144 3 = some ⟨138, 3, 1, false⟩ := by kernel_rfl
@[go_sem] theorem fo144_4 : fieldOf Try.prog 144 4 = some ⟨5, 4, 1, false⟩ := by kernel_rfl
@[go_sem] theorem fo144_5 : fieldOf Try.prog 144 5 = some ⟨5, 5, 1, false⟩ := by kernel_rfl
@[go_sem] theorem fo144_6 : fieldOf Try.prog 144 6 = some ⟨139, 6, 1, false⟩ := by kernel_rfl
@[go_sem] theorem fo144_7 : fieldOf Try.prog 144 7 = some ⟨140, 7, 1, false⟩ := by kernel_rfl
@[go_sem] theorem fo144_8 : fieldOf Try.prog 144 8 = some ⟨141, 8, 1, false⟩ := by kernel_rfl
@[go_sem] theorem fo144_9 : fieldOf Try.prog 144 9 = some ⟨142, 9, 1, false⟩ := by kernel_rfl
@[go_sem] theorem fo144_10 : fieldOf Try.prog 144 10 = some ⟨143, 10, 1, false⟩ := by kernel_rfl
@[go_sem] theorem ti145 : tinfo Try.prog 145 = some ⟨.struct [(12, 0), (12, 1), (90, 2), (138, 3), (5, 4), (5, 5), (139, 6), (140, 7), (141, 8), (142, 9), (143, 10)], 11, 48, (some (.agg #[.int .u64 0, .int .u64 0, .int .u32 0, .int .u8 0, .int .u8 0, .int .u8 0, .int .u8 0, .nilFunc, .pointer none, .int .i32 0, .int .i32 0]))⟩ := by kernel_rfl
@[go_sem] theorem fk145 : fieldsOk Try.prog 145 = true := by kernel_rfl
@[go_sem] theorem fo145_0 : fieldOf Try.prog 145 0 = some ⟨12, 0, 1, false⟩ := by kernel_rfl
@[go_sem] theorem fo145_1 : fieldOf Try.prog 145 1 = some ⟨12, 1, 1, false⟩ := by kernel_rfl
@[go_sem] theorem fo145_2 : fieldOf Try.prog 145 2 = some ⟨90, 2, 1, false⟩ := by kernel_rfl
@[go_sem] theorem fo145_3 : fieldOf Try.prog 145 3 = some ⟨138, 3, 1, false⟩ := by kernel_rfl
@[go_sem] theorem fo145_4 : fieldOf Try.prog 145 4 = some ⟨5, 4, 1, false⟩ := by kernel_rfl
@[go_sem] theorem fo145_5 : fieldOf Try.prog 145 5 = some ⟨5, 5, 1, false⟩ := by kernel_rfl
@[go_sem] theorem fo145_6 : fieldOf Try.prog 145 6 = some ⟨139, 6, 1, false⟩ := by kernel_rfl
@[go_sem] theorem fo145_7 : fieldOf Try.prog 145 7 = some ⟨140, 7, 1, false⟩ := by kernel_rfl
@[go_sem] theorem fo145_8 : fieldOf Try.prog 145 8 = some ⟨141, 8, 1, false⟩ := by kernel_rfl
@[go_sem] theorem fo145_9 : fieldOf Try.prog 145 9 = some ⟨142, 9, 1, false⟩ := by kernel_rfl
@[go_sem] theorem fo145_10 : fieldOf Try.prog 145 10 = some ⟨143, 10, 1, false⟩ := by kernel_rfl
@[go_sem] theorem ti146 : tinfo Try.prog 146 = some ⟨.func, 1, 8, (some (.nilFunc))⟩ := by kernel_rfl
@[go_sem] theorem ti147 : tinfo Try.prog 147 = some ⟨.other, 1, 8, (some (.pointer none))⟩ := by kernel_rfl
@[go_sem] theorem gf2 : goodFn Try.prog 2 = true := by kernel_rfl
@[go_sem] theorem gf3 : goodFn Try.prog 3 = true := by kernel_rfl
@[go_sem] theorem gf4 : goodFn Try.prog 4 = true := by kernel_rfl
@[go_sem] theorem gf5 : goodFn Try.prog 5 = true := by kernel_rfl
@[go_sem] theorem gf6 : goodFn Try.prog 6 = true := by kernel_rfl
@[go_sem] theorem gf7 : goodFn Try.prog 7 = true := by kernel_rfl
@[go_sem] theorem gf8 : goodFn Try.prog 8 = true := by kernel_rfl
@[go_sem] theorem gf9 : goodFn Try.prog 9 = true := by kernel_rfl
@[go_sem] theorem gf10 : goodFn Try.prog 10 = true := by kernel_rfl
@[go_sem] theorem gf11 : goodFn Try.prog 11 = true := by kernel_rfl
@[go_sem] theorem gf12 : goodFn Try.prog 12 = true := by kernel_rfl
@[go_sem] theorem gf13 : goodFn Try.prog 13 = true := by kernel_rfl
@[go_sem] theorem gf14 : goodFn Try.prog 14 = true := by kernel_rfl
@[go_sem] theorem gf15 : goodFn Try.prog 15 = true := by kernel_rfl
@[go_sem] theorem gf16 : goodFn Try.prog 16 = true := by kernel_rfl
@[go_sem] theorem gf17 : goodFn Try.prog 17 = true := by kernel_rfl
@[go_sem] theorem gf18 : goodFn Try.prog 18 = true := by kernel_rfl
@[go_sem] theorem gf19 : goodFn Try.prog 19 = true := by kernel_rfl
@[go_sem] theorem gf20 : goodFn Try.prog 20 = true := by kernel_rfl
@[go_sem] theorem gf21 : goodFn Try.prog 21 = true := by kernel_rfl
@[go_sem] theorem gf22 : goodFn Try.prog 22 = true := by kernel_rfl
@[go_sem] theorem gf23 : goodFn Try.prog 23 = true := by kernel_rfl
@[go_sem] theorem gf24 : goodFn Try.prog 24 = true := by kernel_rfl
@[go_sem] theorem gf25 : goodFn Try.prog 25 = true := by kernel_rfl
@[go_sem] theorem gf26 : goodFn Try.prog 26 = true := by kernel_rfl
@[go_sem] theorem gf27 : goodFn Try.prog 27 = true := by kernel_rfl
@[go_sem] theorem gf28 : goodFn Try.prog 28 = true := by kernel_rfl
@[go_sem] theorem gf29 : goodFn Try.prog 29 = true := by kernel_rfl
@[go_sem] theorem gf30 : goodFn Try.prog 30 = true := by kernel_rfl
@[go_sem] theorem gf31 : goodFn Try.prog 31 = true := by kernel_rfl
@[go_sem] theorem gf32 : goodFn Try.prog 32 = true := by kernel_rfl
@[go_sem] theorem gf33 : goodFn Try.prog 33 = true := by kernel_rfl
@[go_sem] theorem gf34 : goodFn Try.prog 34 = true := by kernel_rfl
@[go_sem] theorem gf35 : goodFn Try.prog 35 = true := by kernel_rfl
@[go_sem] theorem gf36 : goodFn Try.prog 36 = true := by kernel_rfl
@[go_sem] theorem gf37 : goodFn Try.prog 37 = true := by kernel_rfl
@[go_sem] theorem gf38 : goodFn Try.prog 38 = true := by kernel_rfl
@[go_sem] theorem gf39 : goodFn Try.prog 39 = true := by kernel_rfl
@[go_sem] theorem gf40 : goodFn Try.prog 40 = true := by kernel_rfl
@[go_sem] theorem gf41 : goodFn Try.prog 41 = true := by kernel_rfl
@[go_sem] theorem gf42 : goodFn Try.prog 42 = true := by kernel_rfl
@[go_sem] theorem gf43 : goodFn Try.prog 43 = true := by kernel_rfl
@[go_sem] theorem gf44 : goodFn Try.prog 44 = true := by kernel_rfl
@[go_sem] theorem gf45 : goodFn Try.prog 45 = true := by kernel_rfl
@[go_sem] theorem gf46 : goodFn Try.prog 46 = true := by kernel_rfl
@[go_sem] theorem gf47 : goodFn Try.prog 47 = true := by kernel_rfl
@[go_sem] theorem gf48 : goodFn Try.prog 48 = true := by kernel_rfl
@[go_sem] theorem gf49 : goodFn Try.prog 49 = true := by kernel_rfl
@[go_sem] theorem gf50 : goodFn Try.prog 50 = true := by kernel_rfl
@[go_sem] theorem gf51 : goodFn Try.prog 51 = true := by kernel_rfl
@[go_sem] theorem gf52 : goodFn Try.prog 52 = true := by kernel_rfl
@[go_sem] theorem gf53 : goodFn Try.prog 53 = true := by kernel_rfl
@[go_sem] theorem gf54 : goodFn Try.prog 54 = true := by kernel_rfl
@[go_sem] theorem gf55 : goodFn Try.prog 55 = true := by kernel_rfl
@[go_sem] theorem gf56 : goodFn Try.prog 56 = true := by kernel_rfl
@[go_sem] theorem gf57 : goodFn Try.prog 57 = true := by kernel_rfl
@[go_sem] theorem gf58 : goodFn Try.prog 58 = true := by kernel_rfl
@[go_sem] theorem gf59 : goodFn Try.prog 59 = true := by kernel_rfl
@[go_sem] theorem gf60 : goodFn Try.prog 60 = true := by kernel_rfl
@[go_sem] theorem gf61 : goodFn Try.prog 61 = true := by kernel_rfl
@[go_sem] theorem gf62 : goodFn Try.prog 62 = true := by kernel_rfl
@[go_sem] theorem gf63 : goodFn Try.prog 63 = true := by kernel_rfl
@[go_sem] theorem gf64 : goodFn Try.prog 64 = true := by kernel_rfl
@[go_sem] theorem gf65 : goodFn Try.prog 65 = true := by kernel_rfl
@[go_sem] theorem gf66 : goodFn Try.prog 66 = true := by kernel_rfl
@[go_sem] theorem gf67 : goodFn Try.prog 67 = true := by kernel_rfl
@[go_sem] theorem gf68 : goodFn Try.prog 68 = true := by kernel_rfl
@[go_sem] theorem gf69 : goodFn Try.prog 69 = true := by kernel_rfl
@[go_sem] theorem gf70 : goodFn Try.prog 70 = true := by kernel_rfl
@[go_sem] theorem gf71 : goodFn Try.prog 71 = true := by kernel_rfl
@[go_sem] theorem gf72 : goodFn Try.prog 72 = true := by kernel_rfl
@[go_sem] theorem gf73 : goodFn Try.prog 73 = true := by kernel_rfl
@[go_sem] theorem gf74 : goodFn Try.prog 74 = true := by kernel_rfl
@[go_sem] theorem gf75 : goodFn Try.prog 75 = true := by kernel_rfl
@[go_sem] theorem gf76 : goodFn Try.prog 76 = true := by kernel_rfl
@[go_sem] theorem gf77 : goodFn Try.prog 77 = true := by kernel_rfl
@[go_sem] theorem gf78 : goodFn Try.prog 78 = true := by kernel_rfl
@[go_sem] theorem gf79 : goodFn Try.prog 79 = true := by kernel_rfl
@[go_sem] theorem gf80 : goodFn Try.prog 80 = true := by kernel_rfl
@[go_sem] theorem gf81 : goodFn Try.prog 81 = true := by kernel_rfl
@[go_sem] theorem gf82 : goodFn Try.prog 82 = true := by kernel_rfl
@[go_sem] theorem gf83 : goodFn Try.prog 83 = true := by kernel_rfl
@[go_sem] theorem gf84 : goodFn Try.prog 84 = true := by kernel_rfl
@[go_sem] theorem gf85 : goodFn Try.prog 85 = true := by kernel_rfl
@[go_sem] theorem gf86 : goodFn Try.prog 86 = true := by kernel_rfl
@[go_sem] theorem gf87 : goodFn Try.prog 87 = true := by kernel_rfl
@[go_sem] theorem gf88 : goodFn Try.prog 88 = true := by kernel_rfl
@[go_sem] theorem gf89 : goodFn Try.prog 89 = true := by kernel_rfl
@[go_sem] theorem gf90 : goodFn Try.prog 90 = true := by kernel_rfl
@[go_sem] theorem gf91 : goodFn Try.prog 91 = true := by kernel_rfl
@[go_sem] theorem gf92 : goodFn Try.prog 92 = true := by kernel_rfl
theorem mixed : Try.prog.follows .mixedOrders = true := by kernel_rfl
end Go.Proofs.YthjbgpmcfcijgaaV
