/- What is known of the types of this program, by its own tables. -/
import Derived.Test.YtpinamipjddobaaProg
import Derived.Test.YtpinamipjddobaaV4
namespace Go.Proofs.YtpinamipjddobaaV
set_option maxRecDepth 100000
@[go_sem] theorem ti1 : tinfo Try.prog 1 = some ⟨.func, 1, 8, (some (.nilFunc))⟩ := by kernel_rfl
@[go_sem] theorem ti2 : tinfo Try.prog 2 = some ⟨.int .i64, 1, 8, (some (.int .i64 0))⟩ := by kernel_rfl
@[go_sem] theorem ti3 : tinfo Try.prog 3 = some ⟨.int .i64, 1, 8, (some (.int .i64 0))⟩ := by kernel_rfl
@[go_sem] theorem ti4 : tinfo Try.prog 4 = some ⟨.bool, 1, 1, (some (.bool false))⟩ := by kernel_rfl
@[go_sem] theorem ti5 : tinfo Try.prog 5 = some ⟨.int .u8, 1, 1, (some (.int .u8 0))⟩ := by kernel_rfl
@[go_sem] theorem ti6 : tinfo Try.prog 6 = some ⟨.int .u8, 1, 1, (some (.int .u8 0))⟩ := by kernel_rfl
@[go_sem] theorem ti7 : tinfo Try.prog 7 = some ⟨.struct [(2, 0), (3, 1), (4, 2), (6, 3)], 4, 24, (some (.agg #[.int .i64 0, .int .i64 0, .bool false, .int .u8 0]))⟩ := by kernel_rfl
@[go_sem] theorem fk7 : fieldsOk Try.prog 7 = true := by kernel_rfl
@[go_sem] theorem fo7_0 : fieldOf Try.prog 7 0 = some ⟨2, 0, 1, false⟩ := by kernel_rfl
@[go_sem] theorem fo7_1 : fieldOf Try.prog 7 1 = some ⟨3, 1, 1, false⟩ := by kernel_rfl
@[go_sem] theorem fo7_2 : fieldOf Try.prog 7 2 = some ⟨4, 2, 1, false⟩ := by kernel_rfl
@[go_sem] theorem fo7_3 : fieldOf Try.prog 7 3 = some ⟨6, 3, 1, false⟩ := by kernel_rfl
@[go_sem] theorem ti8 : tinfo Try.prog 8 = some ⟨.struct [(2, 0), (3, 1), (4, 2), (6, 3)], 4, 24, (some (.agg #[.int .i64 0, .int .i64 0, .bool false, .int .u8 0]))⟩ := by kernel_rfl
@[go_sem] theorem fk8 : fieldsOk Try.prog 8 = true := by kernel_rfl
@[go_sem] theorem fo8_0 : fieldOf Try.prog 8 0 = some ⟨2, 0, 1, false⟩ := by kernel_rfl
@[go_sem] theorem fo8_1 : fieldOf Try.prog 8 1 = some ⟨3, 1, 1, false⟩ := by kernel_rfl
@[go_sem] theorem fo8_2 : fieldOf Try.prog 8 2 = some ⟨4, 2, 1, false⟩ := by kernel_rfl
@[go_sem] theorem fo8_3 : fieldOf Try.prog 8 3 = some ⟨6, 3, 1, false⟩ := by kernel_rfl
@[go_sem] theorem ti9 : tinfo Try.prog 9 = some ⟨.string, 1, 16, (some (.string ⟨#[]⟩))⟩ := by kernel_rfl
@[go_sem] theorem ti10 : tinfo Try.prog 10 = some ⟨.string, 1, 16, (some (.string ⟨#[]⟩))⟩ := by kernel_rfl
@[go_sem] theorem ti11 : tinfo Try.prog 11 = some ⟨.string, 1, 16, (some (.string ⟨#[]⟩))⟩ := by kernel_rfl
@[go_sem] theorem ti12 : tinfo Try.prog 12 = some ⟨.int .u64, 1, 8, (some (.int .u64 0))⟩ := by kernel_rfl
@[go_sem] theorem ti13 : tinfo Try.prog 13 = some ⟨.struct [(9, 0), (12, 1)], 2, 24, (some (.agg #[.string ⟨#[]⟩, .int .u64 0]))⟩ := by kernel_rfl
@[go_sem] theorem fk13 : fieldsOk Try.prog 13 = true := by kernel_rfl
@[go_sem] theorem fo13_0 : fieldOf Try.prog 13 0 = some ⟨9, 0, 1, false⟩ := by kernel_rfl
@[go_sem] theorem fo13_1 : fieldOf Try.prog 13 1 = some ⟨12, 1, 1, false⟩ := by kernel_rfl
@[go_sem] theorem ti14 : tinfo Try.prog 14 = some ⟨.struct [(9, 0), (12, 1)], 2, 24, (some (.agg #[.string ⟨#[]⟩, .int .u64 0]))⟩ := by kernel_rfl
@[go_sem] theorem fk14 : fieldsOk Try.prog 14 = true := by kernel_rfl
@[go_sem] theorem fo14_0 : fieldOf Try.prog 14 0 = some ⟨9, 0, 1, false⟩ := by kernel_rfl
@[go_sem] theorem fo14_1 : fieldOf Try.prog 14 1 = some ⟨12, 1, 1, false⟩ := by kernel_rfl
@[go_sem] theorem ti15 : tinfo Try.prog 15 = some ⟨.pointer 142, 1, 8, (some (.pointer none))⟩ := by kernel_rfl
@[go_sem] theorem ti16 : tinfo Try.prog 16 = some ⟨.pointer 145, 1, 8, (some (.pointer none))⟩ := by kernel_rfl
@[go_sem] theorem ti17 : tinfo Try.prog 17 = some ⟨.pointer 154, 1, 8, (some (.pointer none))⟩ := by kernel_rfl
@[go_sem] theorem ti18 : tinfo Try.prog 18 = some ⟨.struct [(17, 0)], 1, 8, (some (.agg #[.pointer none]))⟩ := by kernel_rfl
@[go_sem] theorem fk18 : fieldsOk Try.prog 18 = true := by kernel_rfl
@[go_sem] theorem fo18_0 : fieldOf Try.prog 18 0 = some ⟨17, 0, 1, false⟩ := by kernel_rfl
@[go_sem] theorem ti19 : tinfo Try.prog 19 = some ⟨.struct [(17, 0)], 1, 8, (some (.agg #[.pointer none]))⟩ := by kernel_rfl
@[go_sem] theorem fk19 : fieldsOk Try.prog 19 = true := by kernel_rfl
@[go_sem] theorem fo19_0 : fieldOf Try.prog 19 0 = some ⟨17, 0, 1, false⟩ := by kernel_rfl
@[go_sem] theorem ti20 : tinfo Try.prog 20 = some ⟨.iface [], 1, 16, (some (.nilIface))⟩ := by kernel_rfl
@[go_sem] theorem ti21 : tinfo Try.prog 21 = some ⟨.int .i32, 1, 4, (some (.int .i32 0))⟩ := by kernel_rfl
@[go_sem] theorem ti22 : tinfo Try.prog 22 = some ⟨.slice 24, 1, 24, (some (.slice none 0 0))⟩ := by kernel_rfl
@[go_sem] theorem ti23 : tinfo Try.prog 23 = some ⟨.struct [(3, 0), (3, 1), (9, 2), (9, 3), (9, 4), (9, 5), (9, 6), (9, 7), (3, 8), (3, 9), (3, 10), (22, 11)], 12, 160, (some (.agg #[.int .i64 0, .int .i64 0, .string ⟨#[]⟩, .string ⟨#[]⟩, .string ⟨#[]⟩, .string ⟨#[]⟩, .string ⟨#[]⟩, .string ⟨#[]⟩, .int .i64 0, .int .i64 0, .int .i64 0, .slice none 0 0]))⟩ := by kernel_rfl
@[go_sem] theorem fk23 : fieldsOk Try.prog 23 = true := by kernel_rfl
@[go_sem] theorem fo23_0 : fieldOf Try.prog 23 0 = some ⟨3, 0, 1, false⟩ := by kernel_rfl
@[go_sem] theorem fo23_1 : fieldOf Try.prog 23 1 = some ⟨3, 1, 1, false⟩ := by kernel_rfl
@[go_sem] theorem fo23_2 : fieldOf Try.prog 23 2 = some ⟨9, 2, 1, false⟩ := by kernel_rfl
@[go_sem] theorem fo23_3 : fieldOf Try.prog 23 3 = some ⟨9, 3, 1, false⟩ := by kernel_rfl
@[go_sem] theorem fo23_4 : fieldOf Try.prog 23 4 = some ⟨9, 4, 1, false⟩ := by kernel_rfl
@[go_sem] theorem fo23_5 : fieldOf Try.prog 23 5 = some ⟨9, 5, 1, false⟩ := by kernel_rfl
@[go_sem] theorem fo23_6 : fieldOf Try.prog 23 6 = some ⟨9, 6, 1, false⟩ := by kernel_rfl
@[go_sem] theorem fo23_7 : fieldOf Try.prog 23 7 = some ⟨9, 7, 1, false⟩ := by kernel_rfl
@[go_sem] theorem fo23_8 : fieldOf Try.prog 23 8 = some ⟨3, 8, 1, false⟩ := by kernel_rfl
@[go_sem] theorem fo23_9 : fieldOf Try.prog 23 9 = some ⟨3, 9, 1, false⟩ := by kernel_rfl
@[go_sem] theorem fo23_10 : fieldOf Try.prog 23 10 = some ⟨3, 10, 1, false⟩ := by kernel_rfl
@[go_sem] theorem fo23_11 : fieldOf Try.prog 23 11 = some ⟨22, 11, 1, false⟩ := by kernel_rfl
@[go_sem] theorem ti24 : tinfo Try.prog 24 = some ⟨.struct [(3, 0), (3, 1), (9, 2), (9, 3), (9, 4), (9, 5), (9, 6), (9, 7), (3, 8), (3, 9), (3, 10), (22, 11)], 12, 160, (some (.agg #[.int .i64 0, .int .i64 0, .string ⟨#[]⟩, .string ⟨#[]⟩, .string ⟨#[]⟩, .string ⟨#[]⟩, .string ⟨#[]⟩, .string ⟨#[]⟩, .int .i64 0, .int .i64 0, .int .i64 0, .slice none 0 0]))⟩ := by kernel_rfl
@[go_sem] theorem fk24 : fieldsOk Try.prog 24 = true := by kernel_rfl
@[go_sem] theorem fo24_0 : fieldOf Try.prog 24 0 = some ⟨3, 0, 1, false⟩ := by kernel_rfl
@[go_sem] theorem fo24_1 : fieldOf Try.prog 24 1 = some ⟨3, 1, 1, false⟩ := by kernel_rfl
@[go_sem] theorem fo24_2 : fieldOf Try.prog 24 2 = some ⟨9, 2, 1, false⟩ := by kernel_rfl
@[go_sem] theorem fo24_3 : fieldOf Try.prog 24 3 = some ⟨9, 3, 1, false⟩ := by kernel_rfl
@[go_sem] theorem fo24_4 : fieldOf Try.prog 24 4 = some ⟨9, 4, 1, false⟩ := by kernel_rfl
@[go_sem] theorem fo24_5 : fieldOf Try.prog 24 5 = some ⟨9, 5, 1, false⟩ := by kernel_rfl
@[go_sem] theorem fo24_6 : fieldOf Try.prog 24 6 = some ⟨9, 6, 1, false⟩ := by kernel_rfl
@[go_sem] theorem fo24_7 : fieldOf Try.prog 24 7 = some ⟨9, 7, 1, false⟩ := by kernel_rfl
@[go_sem] theorem fo24_8 : fieldOf Try.prog 24 8 = some ⟨3, 8, 1, false⟩ := by kernel_rfl
@[go_sem] theorem fo24_9 : fieldOf Try.prog 24 9 = some ⟨3, 9, 1, false⟩ := by kernel_rfl
@[go_sem] theorem fo24_10 : fieldOf Try.prog 24 10 = some ⟨3, 10, 1, false⟩ := by kernel_rfl
@[go_sem] theorem fo24_11 : fieldOf Try.prog 24 11 = some ⟨22, 11, 1, false⟩ := by kernel_rfl
@[go_sem] theorem ti25 : tinfo Try.prog 25 = some ⟨.func, 1, 8, (some (.nilFunc))⟩ := by kernel_rfl
@[go_sem] theorem ti26 : tinfo Try.prog 26 = some ⟨.func, 1, 8, (some (.nilFunc))⟩ := by kernel_rfl
@[go_sem] theorem ti27 : tinfo Try.prog 27 = some ⟨.func, 1, 8, (some (.nilFunc))⟩ := by kernel_rfl
@[go_sem] theorem ti29 : tinfo Try.prog 29 = some ⟨.func, 1, 8, (some (.nilFunc))⟩ := by kernel_rfl
@[go_sem] theorem ti30 : tinfo Try.prog 30 = some ⟨.func, 1, 8, (some (.nilFunc))⟩ := by kernel_rfl
@[go_sem] theorem ti31 : tinfo Try.prog 31 = some ⟨.func, 1, 8, (some (.nilFunc))⟩ := by kernel_rfl
@[go_sem] theorem ti32 : tinfo Try.prog 32 = some ⟨.func, 1, 8, (some (.nilFunc))⟩ := by kernel_rfl
@[go_sem] theorem ti33 : tinfo Try.prog 33 = some ⟨.func, 1, 8, (some (.nilFunc))⟩ := by kernel_rfl
@[go_sem] theorem ti34 : tinfo Try.prog 34 = some ⟨.func, 1, 8, (some (.nilFunc))⟩ := by kernel_rfl
@[go_sem] theorem ti35 : tinfo Try.prog 35 = some ⟨.func, 1, 8, (some (.nilFunc))⟩ := by kernel_rfl
@[go_sem] theorem ti36 : tinfo Try.prog 36 = some ⟨.func, 1, 8, (some (.nilFunc))⟩ := by kernel_rfl
@[go_sem] theorem ti37 : tinfo Try.prog 37 = some ⟨.func, 1, 8, (some (.nilFunc))⟩ := by kernel_rfl
@[go_sem] theorem ti38 : tinfo Try.prog 38 = some ⟨.func, 1, 8, (some (.nilFunc))⟩ := by kernel_rfl
@[go_sem] theorem ti39 : tinfo Try.prog 39 = some ⟨.func, 1, 8, (some (.nilFunc))⟩ := by kernel_rfl
@[go_sem] theorem ti40 : tinfo Try.prog 40 = some ⟨.func, 1, 8, (some (.nilFunc))⟩ := by kernel_rfl
@[go_sem] theorem ti41 : tinfo Try.prog 41 = some ⟨.func, 1, 8, (some (.nilFunc))⟩ := by kernel_rfl
@[go_sem] theorem ti42 : tinfo Try.prog 42 = some ⟨.func, 1, 8, (some (.nilFunc))⟩ := by kernel_rfl
@[go_sem] theorem ti43 : tinfo Try.prog 43 = some ⟨.func, 1, 8, (some (.nilFunc))⟩ := by kernel_rfl
@[go_sem] theorem ti44 : tinfo Try.prog 44 = some ⟨.func, 1, 8, (some (.nilFunc))⟩ := by kernel_rfl
@[go_sem] theorem ti45 : tinfo Try.prog 45 = some ⟨.func, 1, 8, (some (.nilFunc))⟩ := by kernel_rfl
@[go_sem] theorem ti46 : tinfo Try.prog 46 = some ⟨.func, 1, 8, (some (.nilFunc))⟩ := by kernel_rfl
@[go_sem] theorem ti47 : tinfo Try.prog 47 = some ⟨.slice 9, 1, 24, (some (.slice none 0 0))⟩ := by kernel_rfl
@[go_sem] theorem ti48 : tinfo Try.prog 48 = some ⟨.func, 1, 8, (some (.nilFunc))⟩ := by kernel_rfl
@[go_sem] theorem ti49 : tinfo Try.prog 49 = some ⟨.func, 1, 8, (some (.nilFunc))⟩ := by kernel_rfl
@[go_sem] theorem ti50 : tinfo Try.prog 50 = some ⟨.func, 1, 8, (some (.nilFunc))⟩ := by kernel_rfl
@[go_sem] theorem ti51 : tinfo Try.prog 51 = some ⟨.func, 1, 8, (some (.nilFunc))⟩ := by kernel_rfl
@[go_sem] theorem ti52 : tinfo Try.prog 52 = some ⟨.func, 1, 8, (some (.nilFunc))⟩ := by kernel_rfl
@[go_sem] theorem ti53 : tinfo Try.prog 53 = some ⟨.func, 1, 8, (some (.nilFunc))⟩ := by kernel_rfl
@[go_sem] theorem ti54 : tinfo Try.prog 54 = some ⟨.func, 1, 8, (some (.nilFunc))⟩ := by kernel_rfl
@[go_sem] theorem ti55 : tinfo Try.prog 55 = some ⟨.func, 1, 8, (some (.nilFunc))⟩ := by kernel_rfl
@[go_sem] theorem ti57 : tinfo Try.prog 57 = some ⟨.func, 1, 8, (some (.nilFunc))⟩ := by kernel_rfl
@[go_sem] theorem ti58 : tinfo Try.prog 58 = some ⟨.func, 1, 8, (some (.nilFunc))⟩ := by kernel_rfl
@[go_sem] theorem ti59 : tinfo Try.prog 59 = some ⟨.func, 1, 8, (some (.nilFunc))⟩ := by kernel_rfl
@[go_sem] theorem ti60 : tinfo Try.prog 60 = some ⟨.func, 1, 8, (some (.nilFunc))⟩ := by kernel_rfl
@[go_sem] theorem ti61 : tinfo Try.prog 61 = some ⟨.pointer 3, 1, 8, (some (.pointer none))⟩ := by kernel_rfl
@[go_sem] theorem ti62 : tinfo Try.prog 62 = some ⟨.pointer 111, 1, 8, (some (.pointer none))⟩ := by kernel_rfl
@[go_sem] theorem ti64 : tinfo Try.prog 64 = some ⟨.func, 1, 8, (some (.nilFunc))⟩ := by kernel_rfl
@[go_sem] theorem ti65 : tinfo Try.prog 65 = some ⟨.func, 1, 8, (some (.nilFunc))⟩ := by kernel_rfl
@[go_sem] theorem ti66 : tinfo Try.prog 66 = some ⟨.iface [("Error", 140)], 1, 16, (some (.nilIface))⟩ := by kernel_rfl
@[go_sem] theorem ti67 : tinfo Try.prog 67 = some ⟨.iface [("Error", 140)], 1, 16, (some (.nilIface))⟩ := by kernel_rfl
@[go_sem] theorem ti69 : tinfo Try.prog 69 = some ⟨.func, 1, 8, (some (.nilFunc))⟩ := by kernel_rfl
@[go_sem] theorem ti70 : tinfo Try.prog 70 = some ⟨.int .u32, 1, 4, (some (.int .u32 0))⟩ := by kernel_rfl
@[go_sem] theorem ti71 : tinfo Try.prog 71 = some ⟨.int .u32, 1, 4, (some (.int .u32 0))⟩ := by kernel_rfl
@[go_sem] theorem ti72 : tinfo Try.prog 72 = some ⟨.struct [(9, 0), (9, 1), (9, 2)], 3, 48, (some (.agg #[.string ⟨#[]⟩, .string ⟨#[]⟩, .string ⟨#[]⟩]))⟩ := by kernel_rfl
@[go_sem] theorem fk72 : fieldsOk Try.prog 72 = true := by kernel_rfl
@[go_sem] theorem fo72_0 : fieldOf Try.prog 72 0 = some ⟨9, 0, 1, false⟩ := by kernel_rfl
@[go_sem] theorem fo72_1 : fieldOf Try.prog 72 1 = some ⟨9, 1, 1, false⟩ := by kernel_rfl
@[go_sem] theorem fo72_2 : fieldOf Try.prog 72 2 = some ⟨9, 2, 1, false⟩ := by kernel_rfl
@[go_sem] theorem ti73 : tinfo Try.prog 73 = some ⟨.struct [(9, 0), (9, 1), (9, 2)], 3, 48, (some (.agg #[.string ⟨#[]⟩, .string ⟨#[]⟩, .string ⟨#[]⟩]))⟩ := by kernel_rfl
@[go_sem] theorem fk73 : fieldsOk Try.prog 73 = true := by kernel_rfl
@[go_sem] theorem fo73_0 : fieldOf Try.prog 73 0 = some ⟨9, 0, 1, false⟩ := by kernel_rfl
@[go_sem] theorem fo73_1 : fieldOf Try.prog 73 1 = some ⟨9, 1, 1, false⟩ := by kernel_rfl
@[go_sem] theorem fo73_2 : fieldOf Try.prog 73 2 = some ⟨9, 2, 1, false⟩ := by kernel_rfl
@[go_sem] theorem ti74 : tinfo Try.prog 74 = some ⟨.struct [(9, 0), (9, 1), (73, 2), (62, 5), (9, 6), (4, 7), (71, 8)], 9, 112, (some (.agg #[.string ⟨#[]⟩, .string ⟨#[]⟩, .string ⟨#[]⟩, .string ⟨#[]⟩, .string ⟨#[]⟩, .pointer none, .string ⟨#[]⟩, .bool false, .int .u32 0]))⟩ := by kernel_rfl
@[go_sem] theorem fk74 : fieldsOk Try.prog 74 = true := by kernel_rfl
@[go_sem] theorem fo74_0 : fieldOf Try.prog 74 0 = some ⟨9, 0, 1, false⟩ := by kernel_rfl
@[go_sem] theorem fo74_1 : fieldOf Try.prog 74 1 = some ⟨9, 1, 1, false⟩ := by kernel_rfl
@[go_sem] theorem fo74_2 : fieldOf Try.prog 74 2 = some ⟨73, 2, 3, true⟩ := by kernel_rfl
@[go_sem] theorem fo74_3 : fieldOf Try.prog 74 3 = some ⟨62, 5, 1, false⟩ := by kernel_rfl
@[go_sem] theorem fo74_4 : fieldOf Try.prog 74 4 = some ⟨9, 6, 1, false⟩ := by kernel_rfl
@[go_sem] theorem fo74_5 : fieldOf Try.prog 74 5 = some ⟨4, 7, 1, false⟩ := by kernel_rfl
@[go_sem] theorem fo74_6 : fieldOf Try.prog 74 6 = some ⟨71, 8, 1, false⟩ := by kernel_rfl
@[go_sem] theorem ti75 : tinfo Try.prog 75 = some ⟨.struct [(9, 0), (9, 1), (73, 2), (62, 5), (9, 6), (4, 7), (71, 8)], 9, 112, (some (.agg #[.string ⟨#[]⟩, .string ⟨#[]⟩, .string ⟨#[]⟩, .string ⟨#[]⟩, .string ⟨#[]⟩, .pointer none, .string ⟨#[]⟩, .bool false, .int .u32 0]))⟩ := by kernel_rfl
@[go_sem] theorem fk75 : fieldsOk Try.prog 75 = true := by kernel_rfl
@[go_sem] theorem fo75_0 : fieldOf Try.prog 75 0 = some ⟨9, 0, 1, false⟩ := by kernel_rfl
@[go_sem] theorem fo75_1 : fieldOf Try.prog 75 1 = some ⟨9, 1, 1, false⟩ := by kernel_rfl
@[go_sem] theorem fo75_2 : fieldOf Try.prog 75 2 = some ⟨73, 2, 3, true⟩ := by kernel_rfl
@[go_sem] theorem fo75_3 : fieldOf Try.prog 75 3 = some ⟨62, 5, 1, false⟩ := by kernel_rfl
@[go_sem] theorem fo75_4 : fieldOf Try.prog 75 4 = some ⟨9, 6, 1, false⟩ := by kernel_rfl
@[go_sem] theorem fo75_5 : fieldOf Try.prog 75 5 = some ⟨4, 7, 1, false⟩ := by kernel_rfl
@[go_sem] theorem fo75_6 : fieldOf Try.prog 75 6 = some ⟨71, 8, 1, false⟩ := by kernel_rfl
@[go_sem] theorem ti76 : tinfo Try.prog 76 = some ⟨.func, 1, 8, (some (.nilFunc))⟩ := by kernel_rfl
@[go_sem] theorem ti77 : tinfo Try.prog 77 = some ⟨.func, 1, 8, (some (.nilFunc))⟩ := by kernel_rfl
@[go_sem] theorem ti78 : tinfo Try.prog 78 = some ⟨.func, 1, 8, (some (.nilFunc))⟩ := by kernel_rfl
@[go_sem] theorem ti79 : tinfo Try.prog 79 = some ⟨.struct [(9, 0)], 1, 16, (some (.agg #[.string ⟨#[]⟩]))⟩ := by kernel_rfl
@[go_sem] theorem fk79 : fieldsOk Try.prog 79 = true := by kernel_rfl
@[go_sem] theorem fo79_0 : fieldOf Try.prog 79 0 = some ⟨9, 0, 1, false⟩ := by kernel_rfl
@[go_sem] theorem ti80 : tinfo Try.prog 80 = some ⟨.struct [(9, 0)], 1, 16, (some (.agg #[.string ⟨#[]⟩]))⟩ := by kernel_rfl
@[go_sem] theorem fk80 : fieldsOk Try.prog 80 = true := by kernel_rfl
@[go_sem] theorem fo80_0 : fieldOf Try.prog 80 0 = some ⟨9, 0, 1, false⟩ := by kernel_rfl
@[go_sem] theorem ti81 : tinfo Try.prog 81 = some ⟨.struct [(9, 0)], 1, 16, (some (.agg #[.string ⟨#[]⟩]))⟩ := by kernel_rfl
@[go_sem] theorem fk81 : fieldsOk Try.prog 81 = true := by kernel_rfl
@[go_sem] theorem fo81_0 : fieldOf Try.prog 81 0 = some ⟨9, 0, 1, false⟩ := by kernel_rfl
@[go_sem] theorem ti82 : tinfo Try.prog 82 = some ⟨.struct [(3, 0)], 1, 8, (some (.agg #[.int .i64 0]))⟩ := by kernel_rfl
@[go_sem] theorem fk82 : fieldsOk Try.prog 82 = true := by kernel_rfl
@[go_sem] theorem fo82_0 : fieldOf Try.prog 82 0 = some ⟨3, 0, 1, false⟩ := by kernel_rfl
@[go_sem] theorem ti83 : tinfo Try.prog 83 = some ⟨.struct [(3, 0)], 1, 8, (some (.agg #[.int .i64 0]))⟩ := by kernel_rfl
@[go_sem] theorem fk83 : fieldsOk Try.prog 83 = true := by kernel_rfl
@[go_sem] theorem fo83_0 : fieldOf Try.prog 83 0 = some ⟨3, 0, 1, false⟩ := by kernel_rfl
@[go_sem] theorem ti84 : tinfo Try.prog 84 = some ⟨.func, 1, 8, (some (.nilFunc))⟩ := by kernel_rfl
@[go_sem] theorem ti85 : tinfo Try.prog 85 = some ⟨.struct [(9, 0), (9, 1), (4, 2)], 3, 40, (some (.agg #[.string ⟨#[]⟩, .string ⟨#[]⟩, .bool false]))⟩ := by kernel_rfl
@[go_sem] theorem fk85 : fieldsOk Try.prog 85 = true := by kernel_rfl
@[go_sem] theorem fo85_0 : fieldOf Try.prog 85 0 = some ⟨9, 0, 1, false⟩ := by kernel_rfl
@[go_sem] theorem fo85_1 : fieldOf Try.prog 85 1 = some ⟨9, 1, 1, false⟩ := by kernel_rfl
@[go_sem] theorem fo85_2 : fieldOf Try.prog 85 2 = some ⟨4, 2, 1, false⟩ := by kernel_rfl
@[go_sem] theorem ti86 : tinfo Try.prog 86 = some ⟨.struct [(9, 0), (9, 1), (4, 2)], 3, 40, (some (.agg #[.string ⟨#[]⟩, .string ⟨#[]⟩, .bool false]))⟩ := by kernel_rfl
@[go_sem] theorem fk86 : fieldsOk Try.prog 86 = true := by kernel_rfl
@[go_sem] theorem fo86_0 : fieldOf Try.prog 86 0 = some ⟨9, 0, 1, false⟩ := by kernel_rfl
@[go_sem] theorem fo86_1 : fieldOf Try.prog 86 1 = some ⟨9, 1, 1, false⟩ := by kernel_rfl
@[go_sem] theorem fo86_2 : fieldOf Try.prog 86 2 = some ⟨4, 2, 1, false⟩ := by kernel_rfl
@[go_sem] theorem ti87 : tinfo Try.prog 87 = some ⟨.struct [(9, 0), (9, 1), (62, 2), (9, 3), (9, 4), (62, 5)], 6, 80, (some (.agg #[.string ⟨#[]⟩, .string ⟨#[]⟩, .pointer none, .string ⟨#[]⟩, .string ⟨#[]⟩, .pointer none]))⟩ := by kernel_rfl
@[go_sem] theorem fk87 : fieldsOk Try.prog 87 = true := by kernel_rfl
@[go_sem] theorem fo87_0 : fieldOf Try.prog 87 0 = some ⟨9, 0, 1, false⟩ := by kernel_rfl
@[go_sem] theorem fo87_1 : fieldOf Try.prog 87 1 = some ⟨9, 1, 1, false⟩ := by kernel_rfl
@[go_sem] theorem fo87_2 : fieldOf Try.prog 87 2 = some ⟨62, 2, 1, false⟩ := by kernel_rfl
@[go_sem] theorem fo87_3 : fieldOf Try.prog 87 3 = some ⟨9, 3, 1, false⟩ := by kernel_rfl
@[go_sem] theorem fo87_4 : fieldOf Try.prog 87 4 = some ⟨9, 4, 1, false⟩ := by kernel_rfl
@[go_sem] theorem fo87_5 : fieldOf Try.prog 87 5 = some ⟨62, 5, 1, false⟩ := by kernel_rfl
@[go_sem] theorem ti88 : tinfo Try.prog 88 = some ⟨.struct [(9, 0), (9, 1), (62, 2), (9, 3), (9, 4), (62, 5)], 6, 80, (some (.agg #[.string ⟨#[]⟩, .string ⟨#[]⟩, .pointer none, .string ⟨#[]⟩, .string ⟨#[]⟩, .pointer none]))⟩ := by kernel_rfl
@[go_sem] theorem fk88 : fieldsOk Try.prog 88 = true := by kernel_rfl
@[go_sem] theorem fo88_0 : fieldOf Try.prog 88 0 = some ⟨9, 0, 1, false⟩ := by kernel_rfl
@[go_sem] theorem fo88_1 : fieldOf Try.prog 88 1 = some ⟨9, 1, 1, false⟩ := by kernel_rfl
@[go_sem] theorem fo88_2 : fieldOf Try.prog 88 2 = some ⟨62, 2, 1, false⟩ := by kernel_rfl
@[go_sem] theorem fo88_3 : fieldOf Try.prog 88 3 = some ⟨9, 3, 1, false⟩ := by kernel_rfl
@[go_sem] theorem fo88_4 : fieldOf Try.prog 88 4 = some ⟨9, 4, 1, false⟩ := by kernel_rfl
@[go_sem] theorem fo88_5 : fieldOf Try.prog 88 5 = some ⟨62, 5, 1, false⟩ := by kernel_rfl
@[go_sem] theorem ti89 : tinfo Try.prog 89 = some ⟨.func, 1, 8, (some (.nilFunc))⟩ := by kernel_rfl
@[go_sem] theorem ti90 : tinfo Try.prog 90 = some ⟨.pointer 114, 1, 8, (some (.pointer none))⟩ := by kernel_rfl
@[go_sem] theorem ti91 : tinfo Try.prog 91 = some ⟨.struct [(9, 0), (90, 1), (47, 2), (47, 3)], 4, 72, (some (.agg #[.string ⟨#[]⟩, .pointer none, .slice none 0 0, .slice none 0 0]))⟩ := by kernel_rfl
@[go_sem] theorem fk91 : fieldsOk Try.prog 91 = true := by kernel_rfl
@[go_sem] theorem fo91_0 : fieldOf Try.prog 91 0 = some ⟨9, 0, 1, false⟩ := by kernel_rfl
@[go_sem] theorem fo91_1 : fieldOf Try.prog 91 1 = some ⟨90, 1, 1, false⟩ := by kernel_rfl
@[go_sem] theorem fo91_2 : fieldOf Try.prog 91 2 = some ⟨47, 2, 1, false⟩ := by kernel_rfl
@[go_sem] theorem fo91_3 : fieldOf Try.prog 91 3 = some ⟨47, 3, 1, false⟩ := by kernel_rfl
@[go_sem] theorem ti92 : tinfo Try.prog 92 = some ⟨.struct [(9, 0), (90, 1), (47, 2), (47, 3)], 4, 72, (some (.agg #[.string ⟨#[]⟩, .pointer none, .slice none 0 0, .slice none 0 0]))⟩ := by kernel_rfl
@[go_sem] theorem fk92 : fieldsOk Try.prog 92 = true := by kernel_rfl
@[go_sem] theorem fo92_0 : fieldOf Try.prog 92 0 = some ⟨9, 0, 1, false⟩ := by kernel_rfl
@[go_sem] theorem fo92_1 : fieldOf Try.prog 92 1 = some ⟨90, 1, 1, false⟩ := by kernel_rfl
@[go_sem] theorem fo92_2 : fieldOf Try.prog 92 2 = some ⟨47, 2, 1, false⟩ := by kernel_rfl
@[go_sem] theorem fo92_3 : fieldOf Try.prog 92 3 = some ⟨47, 3, 1, false⟩ := by kernel_rfl
@[go_sem] theorem ti93 : tinfo Try.prog 93 = some ⟨.func, 1, 8, (some (.nilFunc))⟩ := by kernel_rfl
@[go_sem] theorem ti94 : tinfo Try.prog 94 = some ⟨.struct [(9, 0), (47, 1), (47, 2), (62, 3), (4, 4)], 5, 80, (some (.agg #[.string ⟨#[]⟩, .slice none 0 0, .slice none 0 0, .pointer none, .bool false]))⟩ := by kernel_rfl
@[go_sem] theorem fk94 : fieldsOk Try.prog 94 = true := by kernel_rfl
@[go_sem] theorem fo94_0 : fieldOf Try.prog 94 0 = some ⟨9, 0, 1, false⟩ := by kernel_rfl
@[go_sem] theorem fo94_1 : fieldOf Try.prog 94 1 = some ⟨47, 1, 1, false⟩ := by kernel_rfl
@[go_sem] theorem fo94_2 : fieldOf Try.prog 94 2 = some ⟨47, 2, 1, false⟩ := by kernel_rfl
@[go_sem] theorem fo94_3 : fieldOf Try.prog 94 3 = some ⟨62, 3, 1, false⟩ := by kernel_rfl
@[go_sem] theorem fo94_4 : fieldOf Try.prog 94 4 = some ⟨4, 4, 1, false⟩ := by kernel_rfl
@[go_sem] theorem ti95 : tinfo Try.prog 95 = some ⟨.struct [(9, 0), (47, 1), (47, 2), (62, 3), (4, 4)], 5, 80, (some (.agg #[.string ⟨#[]⟩, .slice none 0 0, .slice none 0 0, .pointer none, .bool false]))⟩ := by kernel_rfl
@[go_sem] theorem fk95 : fieldsOk Try.prog 95 = true := by kernel_rfl
@[go_sem] theorem fo95_0 : fieldOf Try.prog 95 0 = some ⟨9, 0, 1, false⟩ := by kernel_rfl
@[go_sem] theorem fo95_1 : fieldOf Try.prog 95 1 = some ⟨47, 1, 1, false⟩ := by kernel_rfl
@[go_sem] theorem fo95_2 : fieldOf Try.prog 95 2 = some ⟨47, 2, 1, false⟩ := by kernel_rfl
@[go_sem] theorem fo95_3 : fieldOf Try.prog 95 3 = some ⟨62, 3, 1, false⟩ := by kernel_rfl
@[go_sem] theorem fo95_4 : fieldOf Try.prog 95 4 = some ⟨4, 4, 1, false⟩ := by kernel_rfl
@[go_sem] theorem ti97 : tinfo Try.prog 97 = some ⟨.func, 1, 8, (some (.nilFunc))⟩ := by kernel_rfl
@[go_sem] theorem ti98 : tinfo Try.prog 98 = some ⟨.func, 1, 8, (some (.nilFunc))⟩ := by kernel_rfl
@[go_sem] theorem ti99 : tinfo Try.prog 99 = some ⟨.func, 1, 8, (some (.nilFunc))⟩ := by kernel_rfl
@[go_sem] theorem ti100 : tinfo Try.prog 100 = some ⟨.slice 90, 1, 24, (some (.slice none 0 0))⟩ := by kernel_rfl
@[go_sem] theorem ti101 : tinfo Try.prog 101 = some ⟨.struct [(9, 0), (100, 1)], 2, 40, (some (.agg #[.string ⟨#[]⟩, .slice none 0 0]))⟩ := by kernel_rfl
@[go_sem] theorem fk101 : fieldsOk Try.prog 101 = true := by kernel_rfl
@[go_sem] theorem fo101_0 : fieldOf Try.prog 101 0 = some ⟨9, 0, 1, false⟩ := by kernel_rfl
@[go_sem] theorem fo101_1 : fieldOf Try.prog 101 1 = some ⟨100, 1, 1, false⟩ := by kernel_rfl
@[go_sem] theorem ti102 : tinfo Try.prog 102 = some ⟨.struct [(9, 0), (100, 1)], 2, 40, (some (.agg #[.string ⟨#[]⟩, .slice none 0 0]))⟩ := by kernel_rfl
@[go_sem] theorem fk102 : fieldsOk Try.prog 102 = true := by kernel_rfl
@[go_sem] theorem fo102_0 : fieldOf Try.prog 102 0 = some ⟨9, 0, 1, false⟩ := by kernel_rfl
@[go_sem] theorem fo102_1 : fieldOf Try.prog 102 1 = some ⟨100, 1, 1, false⟩ := by kernel_rfl
@[go_sem] theorem ti103 : tinfo Try.prog 103 = some ⟨.func, 1, 8, (some (.nilFunc))⟩ := by kernel_rfl
@[go_sem] theorem ti104 : tinfo Try.prog 104 = some ⟨.slice 3, 1, 24, (some (.slice none 0 0))⟩ := by kernel_rfl
@[go_sem] theorem ti105 : tinfo Try.prog 105 = some ⟨.func, 1, 8, (some (.nilFunc))⟩ := by kernel_rfl
@[go_sem] theorem ti106 : tinfo Try.prog 106 = some ⟨.pointer 104, 1, 8, (some (.pointer none))⟩ := by kernel_rfl
@[go_sem] theorem ti107 : tinfo Try.prog 107 = some ⟨.func, 1, 8, (some (.nilFunc))⟩ := by kernel_rfl
@[go_sem] theorem ti108 : tinfo Try.prog 108 = some ⟨.func, 1, 8, (some (.nilFunc))⟩ := by kernel_rfl
@[go_sem] theorem ti109 : tinfo Try.prog 109 = some ⟨.slice 116, 1, 24, (some (.slice none 0 0))⟩ := by kernel_rfl
@[go_sem] theorem ti110 : tinfo Try.prog 110 = some ⟨.struct [(47, 0), (90, 1), (4, 2), (47, 3)], 4, 64, (some (.agg #[.slice none 0 0, .pointer none, .bool false, .slice none 0 0]))⟩ := by kernel_rfl
@[go_sem] theorem fk110 : fieldsOk Try.prog 110 = true := by kernel_rfl
@[go_sem] theorem fo110_0 : fieldOf Try.prog 110 0 = some ⟨47, 0, 1, false⟩ := by kernel_rfl
@[go_sem] theorem fo110_1 : fieldOf Try.prog 110 1 = some ⟨90, 1, 1, false⟩ := by kernel_rfl
@[go_sem] theorem fo110_2 : fieldOf Try.prog 110 2 = some ⟨4, 2, 1, false⟩ := by kernel_rfl
@[go_sem] theorem fo110_3 : fieldOf Try.prog 110 3 = some ⟨47, 3, 1, false⟩ := by kernel_rfl
@[go_sem] theorem ti111 : tinfo Try.prog 111 = some ⟨.struct [(47, 0), (90, 1), (4, 2), (47, 3)], 4, 64, (some (.agg #[.slice none 0 0, .pointer none, .bool false, .slice none 0 0]))⟩ := by kernel_rfl
@[go_sem] theorem fk111 : fieldsOk Try.prog 111 = true := by kernel_rfl
@[go_sem] theorem fo111_0 : fieldOf Try.prog 111 0 = some ⟨47, 0, 1, false⟩ := by kernel_rfl
@[go_sem] theorem fo111_1 : fieldOf Try.prog 111 1 = some ⟨90, 1, 1, false⟩ := by kernel_rfl
@[go_sem] theorem fo111_2 : fieldOf Try.prog 111 2 = some ⟨4, 2, 1, false⟩ := by kernel_rfl
@[go_sem] theorem fo111_3 : fieldOf Try.prog 111 3 = some ⟨47, 3, 1, false⟩ := by kernel_rfl
@[go_sem] theorem ti112 : tinfo Try.prog 112 = some ⟨.int .u32, 1, 4, (some (.int .u32 0))⟩ := by kernel_rfl
@[go_sem] theorem ti113 : tinfo Try.prog 113 = some ⟨.struct [(112, 0), (71, 1), (9, 2), (9, 3), (9, 4), (90, 5), (100, 6), (9, 7), (9, 8), (9, 9), (3, 10), (3, 11)], 12, 152, (some (.agg #[.int .u32 0, .int .u32 0, .string ⟨#[]⟩, .string ⟨#[]⟩, .string ⟨#[]⟩, .pointer none, .slice none 0 0, .string ⟨#[]⟩, .string ⟨#[]⟩, .string ⟨#[]⟩, .int .i64 0, .int .i64 0]))⟩ := by kernel_rfl
@[go_sem] theorem fk113 : fieldsOk Try.prog 113 = true := by kernel_rfl
@[go_sem] theorem fo113_0 : fieldOf Try.prog 113 0 = some ⟨112, 0, 1, false⟩ := by kernel_rfl
@[go_sem] theorem fo113_1 : fieldOf Try.prog 113 1 = some ⟨71, 1, 1, false⟩ := by kernel_rfl
@[go_sem] theorem fo113_2 : fieldOf Try.prog 113 2 = some ⟨9, 2, 1, false⟩ := by kernel_rfl
@[go_sem] theorem fo113_3 : fieldOf Try.prog 113 3 = some ⟨9, 3, 1, false⟩ := by kernel_rfl
@[go_sem] theorem fo113_4 : fieldOf Try.prog 113 4 = some ⟨9, 4, 1, false⟩ := by kernel_rfl
@[go_sem] theorem fo113_5 : fieldOf Try.prog 113 5 = some ⟨90, 5, 1, false⟩ := by kernel_rfl
@[go_sem] theorem fo113_6 : fieldOf Try.prog 113 6 = some ⟨100, 6, 1, false⟩ := by kernel_rfl
@[go_sem] theorem fo113_7 : fieldOf Try.prog 113 7 = some ⟨9, 7, 1, false⟩ := by kernel_rfl
@[go_sem] theorem fo113_8 : fieldOf Try.prog 113 8 = some ⟨9, 8, 1, false⟩ := by kernel_rfl
@[go_sem] theorem fo113_9 : fieldOf Try.prog 113 9 = some ⟨9, 9, 1, false⟩ := by kernel_rfl
@[go_sem] theorem fo113_10 : fieldOf Try.prog 113 10 = some ⟨3, 10, 1, false⟩ := by kernel_rfl
@[go_sem] theorem fo113_11 : fieldOf Try.prog 113 11 = some ⟨3, 11, 1, false⟩ := by kernel_rfl
@[go_sem] theorem ti114 : tinfo Try.prog 114 = some ⟨.struct [(112, 0), (71, 1), (9, 2), (9, 3), (9, 4), (90, 5), (100, 6), (9, 7), (9, 8), (9, 9), (3, 10), (3, 11)], 12, 152, (some (.agg #[.int .u32 0, .int .u32 0, .string ⟨#[]⟩, .string ⟨#[]⟩, .string ⟨#[]⟩, .pointer none, .slice none 0 0, .string ⟨#[]⟩, .string ⟨#[]⟩, .string ⟨#[]⟩, .int .i64 0, .int .i64 0]))⟩ := by kernel_rfl
@[go_sem] theorem fk114 : fieldsOk Try.prog 114 = true := by kernel_rfl
@[go_sem] theorem fo114_0 : fieldOf Try.prog 114 0 = some ⟨112, 0, 1, false⟩ := by kernel_rfl
@[go_sem] theorem fo114_1 : fieldOf Try.prog 114 1 = some ⟨71, 1, 1, false⟩ := by kernel_rfl
@[go_sem] theorem fo114_2 : fieldOf Try.prog 114 2 = some ⟨9, 2, 1, false⟩ := by kernel_rfl
@[go_sem] theorem fo114_3 : fieldOf Try.prog 114 3 = some ⟨9, 3, 1, false⟩ := by kernel_rfl
@[go_sem] theorem fo114_4 : fieldOf Try.prog 114 4 = some ⟨9, 4, 1, false⟩ := by kernel_rfl
@[go_sem] theorem fo114_5 : fieldOf Try.prog 114 5 = some ⟨90, 5, 1, false⟩ := by kernel_rfl
@[go_sem] theorem fo114_6 : fieldOf Try.prog 114 6 = some ⟨100, 6, 1, false⟩ := by kernel_rfl
@[go_sem] theorem fo114_7 : fieldOf Try.prog 114 7 = some ⟨9, 7, 1, false⟩ := by kernel_rfl
@[go_sem] theorem fo114_8 : fieldOf Try.prog 114 8 = some ⟨9, 8, 1, false⟩ := by kernel_rfl
@[go_sem] theorem fo114_9 : fieldOf Try.prog 114 9 = some ⟨9, 9, 1, false⟩ := by kernel_rfl
@[go_sem] theorem fo114_10 : fieldOf Try.prog 114 10 = some ⟨3, 10, 1, false⟩ := by kernel_rfl
@[go_sem] theorem fo114_11 : fieldOf Try.prog 114 11 = some ⟨3, 11, 1, false⟩ := by kernel_rfl
@[go_sem] theorem ti115 : tinfo Try.prog 115 = some ⟨.iface [("Filter", 117)], 1, 16, (some (.nilIface))⟩ := by kernel_rfl
@[go_sem] theorem ti116 : tinfo Try.prog 116 = some ⟨.iface [("Filter", 117)], 1, 16, (some (.nilIface))⟩ := by kernel_rfl
@[go_sem] theorem ti117 : tinfo Try.prog 117 = some ⟨.func, 1, 8, (some (.nilFunc))⟩ := by kernel_rfl
@[go_sem] theorem ti118 : tinfo Try.prog 118 = some ⟨.func, 1, 8, (some (.nilFunc))⟩ := by kernel_rfl
@[go_sem] theorem ti119 : tinfo Try.prog 119 = some ⟨.func, 1, 8, (some (.nilFunc))⟩ := by kernel_rfl
@[go_sem] theorem ti120 : tinfo Try.prog 120 = some ⟨.func, 1, 8, (some (.nilFunc))⟩ := by kernel_rfl
@[go_sem] theorem ti121 : tinfo Try.prog 121 = some ⟨.func, 1, 8, (some (.nilFunc))⟩ := by kernel_rfl
@[go_sem] theorem ti122 : tinfo Try.prog 122 = some ⟨.func, 1, 8, (some (.nilFunc))⟩ := by kernel_rfl
@[go_sem] theorem ti123 : tinfo Try.prog 123 = some ⟨.func, 1, 8, (some (.nilFunc))⟩ := by kernel_rfl
@[go_sem] theorem ti124 : tinfo Try.prog 124 = some ⟨.func, 1, 8, (some (.nilFunc))⟩ := by kernel_rfl
@[go_sem] theorem ti125 : tinfo Try.prog 125 = some ⟨.func, 1, 8, (some (.nilFunc))⟩ := by kernel_rfl
@[go_sem] theorem ti126 : tinfo Try.prog 126 = some ⟨.func, 1, 8, (some (.nilFunc))⟩ := by kernel_rfl
@[go_sem] theorem ti127 : tinfo Try.prog 127 = some ⟨.func, 1, 8, (some (.nilFunc))⟩ := by kernel_rfl
@[go_sem] theorem ti128 : tinfo Try.prog 128 = some ⟨.pointer 130, 1, 8, (some (.pointer none))⟩ := by kernel_rfl
@[go_sem] theorem ti129 : tinfo Try.prog 129 = some ⟨.struct [(112, 0), (62, 1)], 2, 16, (some (.agg #[.int .u32 0, .pointer none]))⟩ := by kernel_rfl
@[go_sem] theorem fk129 : fieldsOk Try.prog 129 = true := by kernel_rfl
@[go_sem] theorem fo129_0 : fieldOf Try.prog 129 0 = some ⟨112, 0, 1, false⟩ := by kernel_rfl
@[go_sem] theorem fo129_1 : fieldOf Try.prog 129 1 = some ⟨62, 1, 1, false⟩ := by kernel_rfl
@[go_sem] theorem ti130 : tinfo Try.prog 130 = some ⟨.struct [(112, 0), (62, 1)], 2, 16, (some (.agg #[.int .u32 0, .pointer none]))⟩ := by kernel_rfl
@[go_sem] theorem fk130 : fieldsOk Try.prog 130 = true := by kernel_rfl
@[go_sem] theorem fo130_0 : fieldOf Try.prog 130 0 = some ⟨112, 0, 1, false⟩ := by kernel_rfl
@[go_sem] theorem fo130_1 : fieldOf Try.prog 130 1 = some ⟨62, 1, 1, false⟩ := by kernel_rfl
@[go_sem] theorem ti131 : tinfo Try.prog 131 = some ⟨.func, 1, 8, (some (.nilFunc))⟩ := by kernel_rfl
@[go_sem] theorem ti132 : tinfo Try.prog 132 = some ⟨.func, 1, 8, (some (.nilFunc))⟩ := by kernel_rfl
@[go_sem] theorem ti133 : tinfo Try.prog 133 = some ⟨.func, 1, 8, (some (.nilFunc))⟩ := by kernel_rfl
@[go_sem] theorem ti134 : tinfo Try.prog 134 = some ⟨.map 9 4, 1, 8, (some (.map none))⟩ := by kernel_rfl
@[go_sem] theorem ti135 : tinfo Try.prog 135 = some ⟨.slice 20, 1, 24, (some (.slice none 0 0))⟩ := by kernel_rfl
@[go_sem] theorem ti136 : tinfo Try.prog 136 = some ⟨.func, 1, 8, (some (.nilFunc))⟩ := by kernel_rfl
@[go_sem] theorem ti137 : tinfo Try.prog 137 = some ⟨.pointer 139, 1, 8, (some (.pointer none))⟩ := by kernel_rfl
@[go_sem] theorem ti138 : tinfo Try.prog 138 = some ⟨.struct [(9, 0)], 1, 16, (some (.agg #[.string ⟨#[]⟩]))⟩ := by kernel_rfl
@[go_sem] theorem fk138 : fieldsOk Try.prog 138 = true := by kernel_rfl
@[go_sem] theorem fo138_0 : fieldOf Try.prog 138 0 = some ⟨9, 0, 1, false⟩ := by kernel_rfl
@[go_sem] theorem ti139 : tinfo Try.prog 139 = some ⟨.struct [(9, 0)], 1, 16, (some (.agg #[.string ⟨#[]⟩]))⟩ := by kernel_rfl
@[go_sem] theorem fk139 : fieldsOk Try.prog 139 = true := by kernel_rfl
@[go_sem] theorem fo139_0 : fieldOf Try.prog 139 0 = some ⟨9, 0, 1, false⟩ := by kernel_rfl
@[go_sem] theorem ti140 : tinfo Try.prog 140 = some ⟨.func, 1, 8, (some (.nilFunc))⟩ := by kernel_rfl
@[go_sem] theorem ti141 : tinfo Try.prog 141 = some ⟨.struct [(17, 0), (17, 1), (17, 2), (9, 3)], 4, 40, (some (.agg #[.pointer none, .pointer none, .pointer none, .string ⟨#[]⟩]))⟩ := by kernel_rfl
@[go_sem] theorem fk141 : fieldsOk Try.prog 141 = true := by kernel_rfl
@[go_sem] theorem fo141_0 : fieldOf Try.prog 141 0 = some ⟨17, 0, 1, false⟩ := by kernel_rfl
@[go_sem] theorem fo141_1 : fieldOf Try.prog 141 1 = some ⟨17, 1, 1, false⟩ := by kernel_rfl
@[go_sem] theorem fo141_2 : fieldOf Try.prog 141 2 = some ⟨17, 2, 1, false⟩ := by kernel_rfl
@[go_sem] theorem fo141_3 : fieldOf Try.prog 141 3 = some ⟨9, 3, 1, false⟩ := by kernel_rfl
@[go_sem] theorem ti142 : tinfo Try.prog 142 = some ⟨.struct [(17, 0), (17, 1), (17, 2), (9, 3)], 4, 40, (some (.agg #[.pointer none, .pointer none, .pointer none, .string ⟨#[]⟩]))⟩ := by kernel_rfl
@[go_sem] theorem fk142 : fieldsOk Try.prog 142 = true := by kernel_rfl
@[go_sem] theorem fo142_0 : fieldOf Try.prog 142 0 = some ⟨17, 0, 1, false⟩ := by kernel_rfl
@[go_sem] theorem fo142_1 : fieldOf Try.prog 142 1 = some ⟨17, 1, 1, false⟩ := by kernel_rfl
@[go_sem] theorem fo142_2 : fieldOf Try.prog 142 2 = some ⟨17, 2, 1, false⟩ := by kernel_rfl
@[go_sem] theorem fo142_3 : fieldOf Try.prog 142 3 = some ⟨9, 3, 1, false⟩ := by kernel_rfl
@[go_sem] theorem ti143 : tinfo Try.prog 143 = some ⟨.array 0 16, 0, 0, (some (.agg #[]))⟩ := by kernel_rfl
@[go_sem] theorem ti144 : tinfo Try.prog 144 = some ⟨.struct [(143, 0)], 0, 0, (some (.agg #[]))⟩ := by kernel_rfl
@[go_sem] theorem fk144 : fieldsOk Try.prog 144 = true := by kernel_rfl
@[go_sem] theorem fo144_0 : fieldOf Try.prog 144 0 = some ⟨143, 0, 0, true⟩ := by kernel_rfl
@[go_sem] theorem ti145 : tinfo Try.prog 145 = some ⟨.struct [(143, 0)], 0, 0, (some (.agg #[]))⟩ := by kernel_rfl
@[go_sem] theorem fk145 : fieldsOk Try.prog 145 = true := by kernel_rfl
@[go_sem] theorem fo145_0 : fieldOf Try.prog 145 0 = some ⟨143, 0, 0, true⟩ := by kernel_rfl
@[go_sem] theorem ti146 : tinfo Try.prog 146 = some ⟨.func, 1, 8, (some (.nilFunc))⟩ := by kernel_rfl
@[go_sem] theorem ti147 : tinfo Try.prog 147 = some ⟨.int .u8, 1, 1, (some (.int .u8 0))⟩ := by kernel_rfl
@[go_sem] theorem ti148 : tinfo Try.prog 148 = some ⟨.int .u8, 1, 1, (some (.int .u8 0))⟩ := by kernel_rfl
@[go_sem] theorem ti149 : tinfo Try.prog 149 = some ⟨.func, 1, 8, (some (.nilFunc))⟩ := by kernel_rfl
@[go_sem] theorem ti150 : tinfo Try.prog 150 = some ⟨.pointer 5, 1, 8, (some (.pointer none))⟩ := by kernel_rfl
@[go_sem] theorem ti151 : tinfo Try.prog 151 = some ⟨.int .i32, 1, 4, (some (.int .i32 0))⟩ := by kernel_rfl
@[go_sem] theorem ti152 : tinfo Try.prog 152 = some ⟨.int .i32, 1, 4, (some (.int .i32 0))⟩ := by kernel_rfl
@[go_sem] theorem ti153 : tinfo Try.prog 153 = some ⟨.struct [(12, 0), (12, 1), (70, 2), (147, 3), (5, 4), (5, 5), (148, 6), (149, 7), (150, 8), (151, 9), (152, 10)], 11, 48, (some (.agg #[.int .u64 0, .int .u64 0, .int .u32 0, .int .u8 0, .int .u8 0, .int .u8 0, .int .u8 0, .nilFunc, .pointer none, .int .i32 0, .int .i32 0]))⟩ := by kernel_rfl
@[go_sem] theorem fk153 : fieldsOk Try.prog 153 = true := by kernel_rfl
@[go_sem] theorem fo153_0 : fieldOf Try.prog 153 0 = some ⟨12, 0, 1, false⟩ := by kernel_rfl
@[go_sem] theorem fo153_1 : fieldOf Try.prog 153 1 = some ⟨12, 1, 1, false⟩ := by kernel_rfl
@[go_sem] theorem fo153_2 : fieldOf Try.prog 153 2 = some ⟨70, 2, 1, false⟩ := by kernel_rfl
@[go_sem] theorem fo153_3 : fieldOf Try.prog 153 3 = some ⟨147, 3, 1, false⟩ := by kernel_rfl
@[go_sem] theorem fo153_4 : fieldOf Try.prog 153 4 = some ⟨5, 4, 1, false⟩ := by kernel_rfl
@[go_sem] theorem fo153_5 : fieldOf Try.prog 153 5 = some ⟨5, 5, 1, false⟩ := by kernel_rfl
@[go_sem] theorem fo153_6 : fieldOf Try.prog 153 6 = some ⟨148, 6, 1, false⟩ := by kernel_rfl
@[go_sem] theorem fo153_7 : fieldOf Try.prog 153 7 = some ⟨149, 7, 1, false⟩ := by kernel_rfl
@[go_sem] theorem fo153_8 : fieldOf Try.prog 153 8 = some ⟨150, 8, 1, false⟩ := by kernel_rfl
@[go_sem] theorem fo153_9 : fieldOf Try.prog 153 9 = some ⟨151, 9, 1, false⟩ := by kernel_rfl
@[go_sem] theorem fo153_10 : fieldOf Try.prog 153 10 = some ⟨152, 10, 1, false⟩ := by kernel_rfl
@[go_sem] theorem ti154 : tinfo Try.prog 154 = some ⟨.struct [(12, 0), (12, 1), (70, 2), (147, 3), (5, 4), (5, 5), (148, 6), (149, 7), (150, 8), (151, 9), (152, 10)], 11, 48, (some (.agg #[.int .u64 0, .int .u64 0, .int .u32 0, .int .u8 0, .int .u8 0, .int .u8 0, .int .u8 0, .nilFunc, .pointer none, .int .i32 0, .int .i32 0]))⟩ := by kernel_rfl
@[go_sem] theorem fk154 : fieldsOk Try.prog 154 = true := by kernel_rfl
@[go_sem] theorem fo154_0 : fieldOf Try.prog 154 0 = some ⟨12, 0, 1, false⟩ := by kernel_rfl
@[go_sem] theorem fo154_1 : fieldOf Try.prog 154 1 = some ⟨12, 1, 1, false⟩ := by kernel_rfl
@[go_sem] theorem fo154_2 : fieldOf Try.prog 154 2 = some ⟨70, 2, 1, false⟩ := by kernel_rfl
@[go_sem] theorem fo154_3 : fieldOf Try.prog 154 3 = some ⟨147, 3, 1, false⟩ := by kernel_rfl
@[go_sem] theorem fo154_4 : fieldOf Try.prog 154 4 = some ⟨5, 4, 1, false⟩ := by kernel_rfl
@[go_sem] theorem fo154_5 : fieldOf Try.prog 154 5 = some ⟨5, 5, 1, false⟩ := by kernel_rfl
@[go_sem] theorem fo154_6 : fieldOf Try.prog 154 6 = some ⟨148, 6, 1, false⟩ := by kernel_rfl
@[go_sem] theorem fo154_7 : fieldOf Try.prog 154 7 = some ⟨149, 7, 1, false⟩ := by kernel_rfl
@[go_sem] theorem fo154_8 : fieldOf Try.prog 154 8 = some ⟨150, 8, 1, false⟩ := by kernel_rfl
@[go_sem] theorem fo154_9 : fieldOf Try.prog 154 9 = some ⟨151, 9, 1, false⟩ := by kernel_rfl
@[go_sem] theorem fo154_10 : fieldOf Try.prog 154 10 = some ⟨152, 10, 1, false⟩ := by kernel_rfl
@[go_sem] theorem ti155 : tinfo Try.prog 155 = some ⟨.func, 1, 8, (some (.nilFunc))⟩ := by kernel_rfl
@[go_sem] theorem ti156 : tinfo Try.prog 156 = some ⟨.func, 1, 8, (some (.nilFunc))⟩ := by kernel_rfl
@[go_sem] theorem ti157 : tinfo Try.prog 157 = some ⟨.func, 1, 8, (some (.nilFunc))⟩ := by kernel_rfl
@[go_sem] theorem ti158 : tinfo Try.prog 158 = some ⟨.func, 1, 8, (some (.nilFunc))⟩ := by kernel_rfl
@[go_sem] theorem ti159 : tinfo Try.prog 159 = some ⟨.func, 1, 8, (some (.nilFunc))⟩ := by kernel_rfl
@[go_sem] theorem ti160 : tinfo Try.prog 160 = some ⟨.slice 62, 1, 24, (some (.slice none 0 0))⟩ := by kernel_rfl
@[go_sem] theorem ti162 : tinfo Try.prog 162 = some ⟨.func, 1, 8, (some (.nilFunc))⟩ := by kernel_rfl
@[go_sem] theorem ti163 : tinfo Try.prog 163 = some ⟨.func, 1, 8, (some (.nilFunc))⟩ := by kernel_rfl
@[go_sem] theorem ti164 : tinfo Try.prog 164 = some ⟨.func, 1, 8, (some (.nilFunc))⟩ := by kernel_rfl
@[go_sem] theorem ti165 : tinfo Try.prog 165 = some ⟨.func, 1, 8, (some (.nilFunc))⟩ := by kernel_rfl
@[go_sem] theorem ti166 : tinfo Try.prog 166 = some ⟨.func, 1, 8, (some (.nilFunc))⟩ := by kernel_rfl
@[go_sem] theorem ti167 : tinfo Try.prog 167 = some ⟨.other, 1, 8, (some (.pointer none))⟩ := by kernel_rfl
@[go_sem] theorem gf2 : goodFn Try.prog 2 = true := by kernel_rfl
@[go_sem] theorem gf3 : goodFn Try.prog 3 = true := by kernel_rfl
@[go_sem] theorem gf4 : goodFn Try.prog 4 = true := by kernel_rfl
@[go_sem] theorem gf5 : goodFn Try.prog 5 = true := by kernel_rfl
@[go_sem] theorem gf6 : goodFn Try.prog 6 = true := by kernel_rfl
@[go_sem] theorem gf7 : goodFn Try.prog 7 = true := by kernel_rfl
@[go_sem] theorem gf8 : goodFn Try.prog 8 = true := by kernel_rfl
@[go_sem] theorem gf9 : goodFn Try.prog 9 = true := by kernel_rfl
@[go_sem] theorem gf10 : goodFn Try.prog 10 = true := by kernel_rfl
@[go_sem] theorem gf11 : goodFn Try.prog 11 = true := by kernel_rfl
@[go_sem] theorem gf12 : goodFn Try.prog 12 = true := by kernel_rfl
@[go_sem] theorem gf13 : goodFn Try.prog 13 = true := by kernel_rfl
@[go_sem] theorem gf14 : goodFn Try.prog 14 = true := by kernel_rfl
@[go_sem] theorem gf15 : goodFn Try.prog 15 = true := by kernel_rfl
@[go_sem] theorem gf16 : goodFn Try.prog 16 = true := by kernel_rfl
@[go_sem] theorem gf17 : goodFn Try.prog 17 = true := by kernel_rfl
@[go_sem] theorem gf18 : goodFn Try.prog 18 = true := by kernel_rfl
@[go_sem] theorem gf19 : goodFn Try.prog 19 = true := by kernel_rfl
@[go_sem] theorem gf20 : goodFn Try.prog 20 = true := by kernel_rfl
@[go_sem] theorem gf21 : goodFn Try.prog 21 = true := by kernel_rfl
@[go_sem] theorem gf22 : goodFn Try.prog 22 = true := by kernel_rfl
@[go_sem] theorem gf23 : goodFn Try.prog 23 = true := by kernel_rfl
@[go_sem] theorem gf24 : goodFn Try.prog 24 = true := by kernel_rfl
@[go_sem] theorem gf25 : goodFn Try.prog 25 = true := by kernel_rfl
@[go_sem] theorem gf26 : goodFn Try.prog 26 = true := by kernel_rfl
@[go_sem] theorem gf27 : goodFn Try.prog 27 = true := by kernel_rfl
@[go_sem] theorem gf28 : goodFn Try.prog 28 = true := by kernel_rfl
@[go_sem] theorem gf29 : goodFn Try.prog 29 = true := by kernel_rfl
@[go_sem] theorem gf30 : goodFn Try.prog 30 = true := by kernel_rfl
@[go_sem] theorem gf31 : goodFn Try.prog 31 = true := by kernel_rfl
@[go_sem] theorem gf32 : goodFn Try.prog 32 = true := by kernel_rfl
@[go_sem] theorem gf33 : goodFn Try.prog 33 = true := by kernel_rfl
@[go_sem] theorem gf34 : goodFn Try.prog 34 = true := by kernel_rfl
@[go_sem] theorem gf35 : goodFn Try.prog 35 = true := by kernel_rfl
@[go_sem] theorem gf36 : goodFn Try.prog 36 = true := by kernel_rfl
@[go_sem] theorem gf37 : goodFn Try.prog 37 = true := by kernel_rfl
@[go_sem] theorem gf38 : goodFn Try.prog 38 = true := by kernel_rfl
@[go_sem] theorem gf39 : goodFn Try.prog 39 = true := by kernel_rfl
@[go_sem] theorem gf40 : goodFn Try.prog 40 = true := by kernel_rfl
@[go_sem] theorem gf41 : goodFn Try.prog 41 = true := by kernel_rfl
@[go_sem] theorem gf42 : goodFn Try.prog 42 = true := by kernel_rfl
@[go_sem] theorem gf43 : goodFn Try.prog 43 = true := by kernel_rfl
@[go_sem] theorem gf44 : goodFn Try.prog 44 = true := by kernel_rfl
@[go_sem] theorem gf45 : goodFn Try.prog 45 = true := by kernel_rfl
@[go_sem] theorem gf46 : goodFn Try.prog 46 = true := by kernel_rfl
@[go_sem] theorem gf47 : goodFn Try.prog 47 = true := by kernel_rfl
@[go_sem] theorem gf48 : goodFn Try.prog 48 = true := by kernel_rfl
@[go_sem] theorem gf49 : goodFn Try.prog 49 = true := by kernel_rfl
@[go_sem] theorem gf50 : goodFn Try.prog 50 = true := by kernel_rfl
@[go_sem] theorem gf51 : goodFn Try.prog 51 = true := by kernel_rfl
@[go_sem] theorem gf52 : goodFn Try.prog 52 = true := by kernel_rfl
@[go_sem] theorem gf53 : goodFn Try.prog 53 = true := by kernel_rfl
@[go_sem] theorem gf54 : goodFn Try.prog 54 = true := by kernel_rfl
@[go_sem] theorem gf55 : goodFn Try.prog 55 = true := by kernel_rfl
@[go_sem] theorem gf56 : goodFn Try.prog 56 = true := by kernel_rfl
@[go_sem] theorem gf57 : goodFn Try.prog 57 = true := by kernel_rfl
@[go_sem] theorem gf58 : goodFn Try.prog 58 = true := by kernel_rfl
@[go_sem] theorem gf59 : goodFn Try.prog 59 = true := by kernel_rfl
@[go_sem] theorem gf60 : goodFn Try.prog 60 = true := by kernel_rfl
@[go_sem] theorem gf61 : goodFn Try.prog 61 = true := by kernel_rfl
@[go_sem] theorem gf62 : goodFn Try.prog 62 = true := by kernel_rfl
@[go_sem] theorem gf63 : goodFn Try.prog 63 = true := by kernel_rfl
@[go_sem] theorem gf64 : goodFn Try.prog 64 = true := by kernel_rfl
@[go_sem] theorem gf65 : goodFn Try.prog 65 = true := by kernel_rfl
@[go_sem] theorem gf66 : goodFn Try.prog 66 = true := by kernel_rfl
@[go_sem] theorem gf67 : goodFn Try.prog 67 = true := by kernel_rfl
@[go_sem] theorem gf68 : goodFn Try.prog 68 = true := by kernel_rfl
@[go_sem] theorem gf69 : goodFn Try.prog 69 = true := by kernel_rfl
@[go_sem] theorem gf70 : goodFn Try.prog 70 = true := by kernel_rfl
@[go_sem] theorem gf71 : goodFn Try.prog 71 = true := by kernel_rfl
@[go_sem] theorem gf72 : goodFn Try.prog 72 = true := by kernel_rfl
@[go_sem] theorem gf73 : goodFn Try.prog 73 = true := by kernel_rfl
@[go_sem] theorem gf74 : goodFn Try.prog 74 = true := by kernel_rfl
@[go_sem] theorem gf75 : goodFn Try.prog 75 = true := by kernel_rfl
@[go_sem] theorem gf76 : goodFn Try.prog 76 = true := by kernel_rfl
@[go_sem] theorem gf77 : goodFn Try.prog 77 = true := by kernel_rfl
@[go_sem] theorem gf78 : goodFn Try.prog 78 = true := by kernel_rfl
@[go_sem] theorem gf79 : goodFn Try.prog 79 = true := by kernel_rfl
@[go_sem] theorem gf80 : goodFn Try.prog 80 = true := by kernel_rfl
@[go_sem] theorem gf81 : goodFn Try.prog 81 = true := by kernel_rfl
@[go_sem] theorem gf82 : goodFn Try.prog 82 = true := by kernel_rfl
@[go_sem] theorem gf83 : goodFn Try.prog 83 = true := by kernel_rfl
@[go_sem] theorem gf84 : goodFn Try.prog 84 = true := by kernel_rfl
@[go_sem] theorem gf85 : goodFn Try.prog 85 = true := by kernel_rfl
@[go_sem] theorem gf86 : goodFn Try.prog 86 = true := by kernel_rfl
@[go_sem] theorem gf87 : goodFn Try.prog 87 = true := by kernel_rfl
@[go_sem] theorem gf88 : goodFn Try.prog 88 = true := by kernel_rfl
@[go_sem] theorem gf89 : goodFn Try.prog 89 = true := by kernel_rfl
@[go_sem] theorem gf90 : goodFn Try.prog 90 = true := by kernel_rfl
@[go_sem] theorem gf91 : goodFn Try.prog 91 = true := by kernel_rfl
@[go_sem] theorem gf92 : goodFn Try.prog 92 = true := by kernel_rfl
@[go_sem] theorem gf93 : goodFn Try.prog 93 = true := by kernel_rfl
@[go_sem] theorem gf94 : goodFn Try.prog 94 = true := by kernel_rfl
@[go_sem] theorem gf112 : goodFn Try.prog 112 = true := by kernel_rfl
@[go_sem] theorem gf113 : goodFn Try.prog 113 = true := by kernel_rfl
@[go_sem] theorem gf114 : goodFn Try.prog 114 = true := by kernel_rfl
@[go_sem] theorem gf115 : goodFn Try.prog 115 = true := by kernel_rfl
@[go_sem] theorem gf116 : goodFn Try.prog 116 = true := by kernel_rfl
@[go_sem] theorem gf117 : goodFn Try.prog 117 = true := by kernel_rfl
@[go_sem] theorem gf118 : goodFn Try.prog 118 = true := by kernel_rfl
@[go_sem] theorem gf119 : goodFn Try.prog 119 = true := by kernel_rfl
@[go_sem] theorem gf120 : goodFn Try.prog 120 = true := by kernel_rfl
@[go_sem] theorem gf121 : goodFn Try.prog 121 = true := by kernel_rfl
@[go_sem] theorem gf122 : goodFn Try.prog 122 = true := by kernel_rfl
@[go_sem] theorem gf123 : goodFn Try.prog 123 = true := by kernel_rfl
@[go_sem] theorem gf124 : goodFn Try.prog 124 = true := by kernel_rfl
@[go_sem] theorem gf125 : goodFn Try.prog 125 = true := by kernel_rfl
@[go_sem] theorem gf126 : goodFn Try.prog 126 = true := by kernel_rfl
@[go_sem] theorem gf127 : goodFn Try.prog 127 = true := by kernel_rfl
@[go_sem] theorem gf128 : goodFn Try.prog 128 = true := by kernel_rfl
@[go_sem] theorem gf129 : goodFn Try.prog 129 = true := by kernel_rfl
@[go_sem] theorem gf130 : goodFn Try.prog 130 = true := by kernel_rfl
@[go_sem] theorem gf131 : goodFn Try.prog 131 = true := by kernel_rfl
@[go_sem] theorem gf132 : goodFn Try.prog 132 = true := by kernel_rfl
@[go_sem] theorem gf133 : goodFn Try.prog 133 = true := by kernel_rfl
@[go_sem] theorem gf134 : goodFn Try.prog 134 = true := by kernel_rfl
@[go_sem] theorem gf135 : goodFn Try.prog 135 = true := by kernel_rfl
@[go_sem] theorem gf136 : goodFn Try.prog 136 = true := by kernel_rfl
@[go_sem] theorem gf137 : goodFn Try.prog 137 = true := by kernel_rfl
@[go_sem] theorem gf139 : goodFn Try.prog 139 = true := by kernel_rfl
@[go_sem] theorem gf140 : goodFn Try.prog 140 = true := by kernel_rfl
@[go_sem] theorem gf141 : goodFn Try.prog 141 = true := by kernel_rfl
@[go_sem] theorem gf142 : goodFn Try.prog 142 = true := by kernel_rfl
@[go_sem] theorem gf143 : goodFn Try.prog 143 = true := by kernel_rfl
@[go_sem] theorem gf144 : goodFn Try.prog 144 = true := by kernel_rfl
@[go_sem] theorem gf145 : goodFn Try.prog 145 = true := by kernel_rfl
@[go_sem] theorem gf146 : goodFn Try.prog 146 = true := by kernel_rfl
@[go_sem] theorem gf147 : goodFn Try.prog 147 = true := by kernel_rfl
theorem mixed : Try.prog.follows .mixedOrders = true := by kernel_rfl
end Go.Proofs.YtpinamipjddobaaV
