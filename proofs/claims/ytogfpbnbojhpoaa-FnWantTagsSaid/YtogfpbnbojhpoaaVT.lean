/- What is known of the types of this program, by its own tables. -/
import Derived.Test.YtogfpbnbojhpoaaProg
import Derived.Test.YtogfpbnbojhpoaaV4
namespace Go.Proofs.YtogfpbnbojhpoaaV
set_option maxRecDepth 100000
@[go_sem] theorem ti1 : tinfo Try.prog 1 = some ⟨.func, 1, 8, (some (.nilFunc))⟩ := by kernel_rfl
@[go_sem] theorem ti2 : tinfo Try.prog 2 = some ⟨.int .i64, 1, 8, (some (.int .i64 0))⟩ := by kernel_rfl
@[go_sem] theorem ti3 : tinfo Try.prog 3 = some ⟨.int .i64, 1, 8, (some (.int .i64 0))⟩ := by kernel_rfl
@[go_sem] theorem ti4 : tinfo Try.prog 4 = some ⟨.bool, 1, 1, (some (.bool false))⟩ := by kernel_rfl
@[go_sem] theorem ti5 : tinfo Try.prog 5 = some ⟨.int .u8, 1, 1, (some (.int .u8 0))⟩ := by kernel_rfl
@[go_sem] theorem ti6 : tinfo Try.prog 6 = some ⟨.int .u8, 1, 1, (some (.int .u8 0))⟩ := by kernel_rfl
@[go_sem] theorem ti7 : tinfo Try.prog 7 = some ⟨.struct [(2, 0), (3, 1), (4, 2), (6, 3)], 4, 24, (some (.agg #[.int .i64 0, .int .i64 0, .bool false, .int .u8 0]))⟩ := by kernel_rfl
@[go_sem] theorem fk7 : fieldsOk Try.prog 7 = true := by kernel_rfl
@[go_sem] theorem fo7_0 : fieldOf Try.prog 7 0 = some ⟨2, 0, 1, false⟩ := by kernel_rfl
@[go_sem] theorem fo7_1 : fieldOf Try.prog 7 1 = some ⟨3, 1, 1, false⟩ := by kernel_rfl
@[go_sem] theorem fo7_2 : fieldOf Try.prog 7 2 = some ⟨4, 2, 1, false⟩ := by kernel_rfl
@[go_sem] theorem fo7_3 : fieldOf Try.prog 7 3 = some ⟨6, 3, 1, false⟩ := by kernel_rfl
@[go_sem] theorem ti8 : tinfo Try.prog 8 = some ⟨.struct [(2, 0), (3, 1), (4, 2), (6, 3)], 4, 24, (some (.agg #[.int .i64 0, .int .i64 0, .bool false, .int .u8 0]))⟩ := by kernel_rfl
@[go_sem] theorem fk8 : fieldsOk Try.prog 8 = true := by kernel_rfl
@[go_sem] theorem fo8_0 : fieldOf Try.prog 8 0 = some ⟨2, 0, 1, false⟩ := by kernel_rfl
@[go_sem] theorem fo8_1 : fieldOf Try.prog 8 1 = some ⟨3, 1, 1, false⟩ := by kernel_rfl
@[go_sem] theorem fo8_2 : fieldOf Try.prog 8 2 = some ⟨4, 2, 1, false⟩ := by kernel_rfl
@[go_sem] theorem fo8_3 : fieldOf Try.prog 8 3 = some ⟨6, 3, 1, false⟩ := by kernel_rfl
@[go_sem] theorem ti9 : tinfo Try.prog 9 = some ⟨.string, 1, 16, (some (.string ⟨#[]⟩))⟩ := by kernel_rfl
@[go_sem] theorem ti10 : tinfo Try.prog 10 = some ⟨.string, 1, 16, (some (.string ⟨#[]⟩))⟩ := by kernel_rfl
@[go_sem] theorem ti11 : tinfo Try.prog 11 = some ⟨.string, 1, 16, (some (.string ⟨#[]⟩))⟩ := by kernel_rfl
@[go_sem] theorem ti12 : tinfo Try.prog 12 = some ⟨.int .u64, 1, 8, (some (.int .u64 0))⟩ := by kernel_rfl
@[go_sem] theorem ti13 : tinfo Try.prog 13 = some ⟨.struct [(9, 0), (12, 1)], 2, 24, (some (.agg #[.string ⟨#[]⟩, .int .u64 0]))⟩ := by kernel_rfl
@[go_sem] theorem fk13 : fieldsOk Try.prog 13 = true := by kernel_rfl
@[go_sem] theorem fo13_0 : fieldOf Try.prog 13 0 = some ⟨9, 0, 1, false⟩ := by kernel_rfl
@[go_sem] theorem fo13_1 : fieldOf Try.prog 13 1 = some ⟨12, 1, 1, false⟩ := by kernel_rfl
@[go_sem] theorem ti14 : tinfo Try.prog 14 = some ⟨.struct [(9, 0), (12, 1)], 2, 24, (some (.agg #[.string ⟨#[]⟩, .int .u64 0]))⟩ := by kernel_rfl
@[go_sem] theorem fk14 : fieldsOk Try.prog 14 = true := by kernel_rfl
@[go_sem] theorem fo14_0 : fieldOf Try.prog 14 0 = some ⟨9, 0, 1, false⟩ := by kernel_rfl
@[go_sem] theorem fo14_1 : fieldOf Try.prog 14 1 = some ⟨12, 1, 1, false⟩ := by kernel_rfl
@[go_sem] theorem ti15 : tinfo Try.prog 15 = some ⟨.pointer 161, 1, 8, (some (.pointer none))⟩ := by kernel_rfl
@[go_sem] theorem ti16 : tinfo Try.prog 16 = some ⟨.pointer 164, 1, 8, (some (.pointer none))⟩ := by kernel_rfl
@[go_sem] theorem ti17 : tinfo Try.prog 17 = some ⟨.pointer 173, 1, 8, (some (.pointer none))⟩ := by kernel_rfl
@[go_sem] theorem ti18 : tinfo Try.prog 18 = some ⟨.struct [(17, 0)], 1, 8, (some (.agg #[.pointer none]))⟩ := by kernel_rfl
@[go_sem] theorem fk18 : fieldsOk Try.prog 18 = true := by kernel_rfl
@[go_sem] theorem fo18_0 : fieldOf Try.prog 18 0 = some ⟨17, 0, 1, false⟩ := by kernel_rfl
@[go_sem] theorem ti19 : tinfo Try.prog 19 = some ⟨.struct [(17, 0)], 1, 8, (some (.agg #[.pointer none]))⟩ := by kernel_rfl
@[go_sem] theorem fk19 : fieldsOk Try.prog 19 = true := by kernel_rfl
@[go_sem] theorem fo19_0 : fieldOf Try.prog 19 0 = some ⟨17, 0, 1, false⟩ := by kernel_rfl
@[go_sem] theorem ti20 : tinfo Try.prog 20 = some ⟨.iface [], 1, 16, (some (.nilIface))⟩ := by kernel_rfl
@[go_sem] theorem ti21 : tinfo Try.prog 21 = some ⟨.int .i32, 1, 4, (some (.int .i32 0))⟩ := by kernel_rfl
@[go_sem] theorem ti22 : tinfo Try.prog 22 = some ⟨.slice 34, 1, 24, (some (.slice none 0 0))⟩ := by kernel_rfl
@[go_sem] theorem ti23 : tinfo Try.prog 23 = some ⟨.float .f64, 1, 8, (some (.float .f64 0))⟩ := by kernel_rfl
@[go_sem] theorem ti24 : tinfo Try.prog 24 = some ⟨.slice 9, 1, 24, (some (.slice none 0 0))⟩ := by kernel_rfl
@[go_sem] theorem ti25 : tinfo Try.prog 25 = some ⟨.slice 27, 1, 24, (some (.slice none 0 0))⟩ := by kernel_rfl
@[go_sem] theorem ti26 : tinfo Try.prog 26 = some ⟨.struct [(3, 0), (4, 1), (2, 2), (23, 3), (9, 4), (24, 5), (25, 6)], 7, 96, (some (.agg #[.int .i64 0, .bool false, .int .i64 0, .float .f64 0, .string ⟨#[]⟩, .slice none 0 0, .slice none 0 0]))⟩ := by kernel_rfl
@[go_sem] theorem fk26 : fieldsOk Try.prog 26 = true := by kernel_rfl
@[go_sem] theorem fo26_0 : fieldOf Try.prog 26 0 = some ⟨3, 0, 1, false⟩ := by kernel_rfl
@[go_sem] theorem fo26_1 : fieldOf Try.prog 26 1 = some ⟨4, 1, 1, false⟩ := by kernel_rfl
@[go_sem] theorem fo26_2 : fieldOf Try.prog 26 2 = some ⟨2, 2, 1, false⟩ := by kernel_rfl
@[go_sem] theorem fo26_3 : fieldOf Try.prog 26 3 = some ⟨23, 3, 1, false⟩ := by kernel_rfl
@[go_sem] theorem fo26_4 : fieldOf Try.prog 26 4 = some ⟨9, 4, 1, false⟩ := by kernel_rfl
@[go_sem] theorem fo26_5 : fieldOf Try.prog 26 5 = some ⟨24, 5, 1, false⟩ := by kernel_rfl
@[go_sem] theorem fo26_6 : fieldOf Try.prog 26 6 = some ⟨25, 6, 1, false⟩ := by kernel_rfl
@[go_sem] theorem ti27 : tinfo Try.prog 27 = some ⟨.struct [(3, 0), (4, 1), (2, 2), (23, 3), (9, 4), (24, 5), (25, 6)], 7, 96, (some (.agg #[.int .i64 0, .bool false, .int .i64 0, .float .f64 0, .string ⟨#[]⟩, .slice none 0 0, .slice none 0 0]))⟩ := by kernel_rfl
@[go_sem] theorem fk27 : fieldsOk Try.prog 27 = true := by kernel_rfl
@[go_sem] theorem fo27_0 : fieldOf Try.prog 27 0 = some ⟨3, 0, 1, false⟩ := by kernel_rfl
@[go_sem] theorem fo27_1 : fieldOf Try.prog 27 1 = some ⟨4, 1, 1, false⟩ := by kernel_rfl
@[go_sem] theorem fo27_2 : fieldOf Try.prog 27 2 = some ⟨2, 2, 1, false⟩ := by kernel_rfl
@[go_sem] theorem fo27_3 : fieldOf Try.prog 27 3 = some ⟨23, 3, 1, false⟩ := by kernel_rfl
@[go_sem] theorem fo27_4 : fieldOf Try.prog 27 4 = some ⟨9, 4, 1, false⟩ := by kernel_rfl
@[go_sem] theorem fo27_5 : fieldOf Try.prog 27 5 = some ⟨24, 5, 1, false⟩ := by kernel_rfl
@[go_sem] theorem fo27_6 : fieldOf Try.prog 27 6 = some ⟨25, 6, 1, false⟩ := by kernel_rfl
@[go_sem] theorem ti28 : tinfo Try.prog 28 = some ⟨.func, 1, 8, (some (.nilFunc))⟩ := by kernel_rfl
@[go_sem] theorem ti29 : tinfo Try.prog 29 = some ⟨.func, 1, 8, (some (.nilFunc))⟩ := by kernel_rfl
@[go_sem] theorem ti31 : tinfo Try.prog 31 = some ⟨.func, 1, 8, (some (.nilFunc))⟩ := by kernel_rfl
@[go_sem] theorem ti32 : tinfo Try.prog 32 = some ⟨.slice 61, 1, 24, (some (.slice none 0 0))⟩ := by kernel_rfl
@[go_sem] theorem ti33 : tinfo Try.prog 33 = some ⟨.struct [(9, 0), (9, 1), (9, 2), (9, 3), (24, 4), (4, 5), (32, 6)], 7, 120, (some (.agg #[.string ⟨#[]⟩, .string ⟨#[]⟩, .string ⟨#[]⟩, .string ⟨#[]⟩, .slice none 0 0, .bool false, .slice none 0 0]))⟩ := by kernel_rfl
@[go_sem] theorem fk33 : fieldsOk Try.prog 33 = true := by kernel_rfl
@[go_sem] theorem fo33_0 : fieldOf Try.prog 33 0 = some ⟨9, 0, 1, false⟩ := by kernel_rfl
@[go_sem] theorem fo33_1 : fieldOf Try.prog 33 1 = some ⟨9, 1, 1, false⟩ := by kernel_rfl
@[go_sem] theorem fo33_2 : fieldOf Try.prog 33 2 = some ⟨9, 2, 1, false⟩ := by kernel_rfl
@[go_sem] theorem fo33_3 : fieldOf Try.prog 33 3 = some ⟨9, 3, 1, false⟩ := by kernel_rfl
@[go_sem] theorem fo33_4 : fieldOf Try.prog 33 4 = some ⟨24, 4, 1, false⟩ := by kernel_rfl
@[go_sem] theorem fo33_5 : fieldOf Try.prog 33 5 = some ⟨4, 5, 1, false⟩ := by kernel_rfl
@[go_sem] theorem fo33_6 : fieldOf Try.prog 33 6 = some ⟨32, 6, 1, false⟩ := by kernel_rfl
@[go_sem] theorem ti34 : tinfo Try.prog 34 = some ⟨.struct [(9, 0), (9, 1), (9, 2), (9, 3), (24, 4), (4, 5), (32, 6)], 7, 120, (some (.agg #[.string ⟨#[]⟩, .string ⟨#[]⟩, .string ⟨#[]⟩, .string ⟨#[]⟩, .slice none 0 0, .bool false, .slice none 0 0]))⟩ := by kernel_rfl
@[go_sem] theorem fk34 : fieldsOk Try.prog 34 = true := by kernel_rfl
@[go_sem] theorem fo34_0 : fieldOf Try.prog 34 0 = some ⟨9, 0, 1, false⟩ := by kernel_rfl
@[go_sem] theorem fo34_1 : fieldOf Try.prog 34 1 = some ⟨9, 1, 1, false⟩ := by kernel_rfl
@[go_sem] theorem fo34_2 : fieldOf Try.prog 34 2 = some ⟨9, 2, 1, false⟩ := by kernel_rfl
@[go_sem] theorem fo34_3 : fieldOf Try.prog 34 3 = some ⟨9, 3, 1, false⟩ := by kernel_rfl
@[go_sem] theorem fo34_4 : fieldOf Try.prog 34 4 = some ⟨24, 4, 1, false⟩ := by kernel_rfl
@[go_sem] theorem fo34_5 : fieldOf Try.prog 34 5 = some ⟨4, 5, 1, false⟩ := by kernel_rfl
@[go_sem] theorem fo34_6 : fieldOf Try.prog 34 6 = some ⟨32, 6, 1, false⟩ := by kernel_rfl
@[go_sem] theorem ti35 : tinfo Try.prog 35 = some ⟨.func, 1, 8, (some (.nilFunc))⟩ := by kernel_rfl
@[go_sem] theorem ti36 : tinfo Try.prog 36 = some ⟨.func, 1, 8, (some (.nilFunc))⟩ := by kernel_rfl
@[go_sem] theorem ti37 : tinfo Try.prog 37 = some ⟨.func, 1, 8, (some (.nilFunc))⟩ := by kernel_rfl
@[go_sem] theorem ti39 : tinfo Try.prog 39 = some ⟨.func, 1, 8, (some (.nilFunc))⟩ := by kernel_rfl
@[go_sem] theorem ti40 : tinfo Try.prog 40 = some ⟨.func, 1, 8, (some (.nilFunc))⟩ := by kernel_rfl
@[go_sem] theorem ti41 : tinfo Try.prog 41 = some ⟨.func, 1, 8, (some (.nilFunc))⟩ := by kernel_rfl
@[go_sem] theorem ti42 : tinfo Try.prog 42 = some ⟨.func, 1, 8, (some (.nilFunc))⟩ := by kernel_rfl
@[go_sem] theorem ti43 : tinfo Try.prog 43 = some ⟨.func, 1, 8, (some (.nilFunc))⟩ := by kernel_rfl
@[go_sem] theorem ti44 : tinfo Try.prog 44 = some ⟨.func, 1, 8, (some (.nilFunc))⟩ := by kernel_rfl
@[go_sem] theorem ti46 : tinfo Try.prog 46 = some ⟨.func, 1, 8, (some (.nilFunc))⟩ := by kernel_rfl
@[go_sem] theorem ti47 : tinfo Try.prog 47 = some ⟨.func, 1, 8, (some (.nilFunc))⟩ := by kernel_rfl
@[go_sem] theorem ti48 : tinfo Try.prog 48 = some ⟨.func, 1, 8, (some (.nilFunc))⟩ := by kernel_rfl
@[go_sem] theorem ti49 : tinfo Try.prog 49 = some ⟨.func, 1, 8, (some (.nilFunc))⟩ := by kernel_rfl
@[go_sem] theorem ti50 : tinfo Try.prog 50 = some ⟨.func, 1, 8, (some (.nilFunc))⟩ := by kernel_rfl
@[go_sem] theorem ti51 : tinfo Try.prog 51 = some ⟨.slice 53, 1, 24, (some (.slice none 0 0))⟩ := by kernel_rfl
@[go_sem] theorem ti52 : tinfo Try.prog 52 = some ⟨.struct [(9, 0), (9, 1), (27, 2), (51, 9), (22, 10)], 11, 176, (some (.agg #[.string ⟨#[]⟩, .string ⟨#[]⟩, .int .i64 0, .bool false, .int .i64 0, .float .f64 0, .string ⟨#[]⟩, .slice none 0 0, .slice none 0 0, .slice none 0 0, .slice none 0 0]))⟩ := by kernel_rfl
@[go_sem] theorem fk52 : fieldsOk Try.prog 52 = true := by kernel_rfl
@[go_sem] theorem fo52_0 : fieldOf Try.prog 52 0 = some ⟨9, 0, 1, false⟩ := by kernel_rfl
@[go_sem] theorem fo52_1 : fieldOf Try.prog 52 1 = some ⟨9, 1, 1, false⟩ := by kernel_rfl
@[go_sem] theorem fo52_2 : fieldOf Try.prog 52 2 = some ⟨27, 2, 7, true⟩ := by kernel_rfl
@[go_sem] theorem fo52_3 : fieldOf Try.prog 52 3 = some ⟨51, 9, 1, false⟩ := by kernel_rfl
@[go_sem] theorem fo52_4 : fieldOf Try.prog 52 4 = some ⟨22, 10, 1, false⟩ := by kernel_rfl
@[go_sem] theorem ti53 : tinfo Try.prog 53 = some ⟨.struct [(9, 0), (9, 1), (27, 2), (51, 9), (22, 10)], 11, 176, (some (.agg #[.string ⟨#[]⟩, .string ⟨#[]⟩, .int .i64 0, .bool false, .int .i64 0, .float .f64 0, .string ⟨#[]⟩, .slice none 0 0, .slice none 0 0, .slice none 0 0, .slice none 0 0]))⟩ := by kernel_rfl
@[go_sem] theorem fk53 : fieldsOk Try.prog 53 = true := by kernel_rfl
@[go_sem] theorem fo53_0 : fieldOf Try.prog 53 0 = some ⟨9, 0, 1, false⟩ := by kernel_rfl
@[go_sem] theorem fo53_1 : fieldOf Try.prog 53 1 = some ⟨9, 1, 1, false⟩ := by kernel_rfl
@[go_sem] theorem fo53_2 : fieldOf Try.prog 53 2 = some ⟨27, 2, 7, true⟩ := by kernel_rfl
@[go_sem] theorem fo53_3 : fieldOf Try.prog 53 3 = some ⟨51, 9, 1, false⟩ := by kernel_rfl
@[go_sem] theorem fo53_4 : fieldOf Try.prog 53 4 = some ⟨22, 10, 1, false⟩ := by kernel_rfl
@[go_sem] theorem ti54 : tinfo Try.prog 54 = some ⟨.func, 1, 8, (some (.nilFunc))⟩ := by kernel_rfl
@[go_sem] theorem ti55 : tinfo Try.prog 55 = some ⟨.func, 1, 8, (some (.nilFunc))⟩ := by kernel_rfl
@[go_sem] theorem ti56 : tinfo Try.prog 56 = some ⟨.func, 1, 8, (some (.nilFunc))⟩ := by kernel_rfl
@[go_sem] theorem ti57 : tinfo Try.prog 57 = some ⟨.func, 1, 8, (some (.nilFunc))⟩ := by kernel_rfl
@[go_sem] theorem ti58 : tinfo Try.prog 58 = some ⟨.func, 1, 8, (some (.nilFunc))⟩ := by kernel_rfl
@[go_sem] theorem ti59 : tinfo Try.prog 59 = some ⟨.func, 1, 8, (some (.nilFunc))⟩ := by kernel_rfl
@[go_sem] theorem ti60 : tinfo Try.prog 60 = some ⟨.struct [(9, 0), (9, 1), (9, 2), (4, 3)], 4, 56, (some (.agg #[.string ⟨#[]⟩, .string ⟨#[]⟩, .string ⟨#[]⟩, .bool false]))⟩ := by kernel_rfl
@[go_sem] theorem fk60 : fieldsOk Try.prog 60 = true := by kernel_rfl
@[go_sem] theorem fo60_0 : fieldOf Try.prog 60 0 = some ⟨9, 0, 1, false⟩ := by kernel_rfl
@[go_sem] theorem fo60_1 : fieldOf Try.prog 60 1 = some ⟨9, 1, 1, false⟩ := by kernel_rfl
@[go_sem] theorem fo60_2 : fieldOf Try.prog 60 2 = some ⟨9, 2, 1, false⟩ := by kernel_rfl
@[go_sem] theorem fo60_3 : fieldOf Try.prog 60 3 = some ⟨4, 3, 1, false⟩ := by kernel_rfl
@[go_sem] theorem ti61 : tinfo Try.prog 61 = some ⟨.struct [(9, 0), (9, 1), (9, 2), (4, 3)], 4, 56, (some (.agg #[.string ⟨#[]⟩, .string ⟨#[]⟩, .string ⟨#[]⟩, .bool false]))⟩ := by kernel_rfl
@[go_sem] theorem fk61 : fieldsOk Try.prog 61 = true := by kernel_rfl
@[go_sem] theorem fo61_0 : fieldOf Try.prog 61 0 = some ⟨9, 0, 1, false⟩ := by kernel_rfl
@[go_sem] theorem fo61_1 : fieldOf Try.prog 61 1 = some ⟨9, 1, 1, false⟩ := by kernel_rfl
@[go_sem] theorem fo61_2 : fieldOf Try.prog 61 2 = some ⟨9, 2, 1, false⟩ := by kernel_rfl
@[go_sem] theorem fo61_3 : fieldOf Try.prog 61 3 = some ⟨4, 3, 1, false⟩ := by kernel_rfl
@[go_sem] theorem ti62 : tinfo Try.prog 62 = some ⟨.func, 1, 8, (some (.nilFunc))⟩ := by kernel_rfl
@[go_sem] theorem ti63 : tinfo Try.prog 63 = some ⟨.map 9 20, 1, 8, (some (.map none))⟩ := by kernel_rfl
@[go_sem] theorem ti65 : tinfo Try.prog 65 = some ⟨.func, 1, 8, (some (.nilFunc))⟩ := by kernel_rfl
@[go_sem] theorem ti66 : tinfo Try.prog 66 = some ⟨.slice 92, 1, 24, (some (.slice none 0 0))⟩ := by kernel_rfl
@[go_sem] theorem ti68 : tinfo Try.prog 68 = some ⟨.func, 1, 8, (some (.nilFunc))⟩ := by kernel_rfl
@[go_sem] theorem ti69 : tinfo Try.prog 69 = some ⟨.func, 1, 8, (some (.nilFunc))⟩ := by kernel_rfl
@[go_sem] theorem ti70 : tinfo Try.prog 70 = some ⟨.func, 1, 8, (some (.nilFunc))⟩ := by kernel_rfl
@[go_sem] theorem ti71 : tinfo Try.prog 71 = some ⟨.func, 1, 8, (some (.nilFunc))⟩ := by kernel_rfl
@[go_sem] theorem ti72 : tinfo Try.prog 72 = some ⟨.func, 1, 8, (some (.nilFunc))⟩ := by kernel_rfl
@[go_sem] theorem ti73 : tinfo Try.prog 73 = some ⟨.func, 1, 8, (some (.nilFunc))⟩ := by kernel_rfl
@[go_sem] theorem ti74 : tinfo Try.prog 74 = some ⟨.func, 1, 8, (some (.nilFunc))⟩ := by kernel_rfl
@[go_sem] theorem ti75 : tinfo Try.prog 75 = some ⟨.func, 1, 8, (some (.nilFunc))⟩ := by kernel_rfl
@[go_sem] theorem ti76 : tinfo Try.prog 76 = some ⟨.map 9 20, 1, 8, (some (.map none))⟩ := by kernel_rfl
@[go_sem] theorem ti77 : tinfo Try.prog 77 = some ⟨.iface [("Error", 147)], 1, 16, (some (.nilIface))⟩ := by kernel_rfl
@[go_sem] theorem ti78 : tinfo Try.prog 78 = some ⟨.iface [("Error", 147)], 1, 16, (some (.nilIface))⟩ := by kernel_rfl
@[go_sem] theorem ti80 : tinfo Try.prog 80 = some ⟨.func, 1, 8, (some (.nilFunc))⟩ := by kernel_rfl
@[go_sem] theorem ti81 : tinfo Try.prog 81 = some ⟨.func, 1, 8, (some (.nilFunc))⟩ := by kernel_rfl
@[go_sem] theorem ti82 : tinfo Try.prog 82 = some ⟨.pointer 109, 1, 8, (some (.pointer none))⟩ := by kernel_rfl
@[go_sem] theorem ti84 : tinfo Try.prog 84 = some ⟨.func, 1, 8, (some (.nilFunc))⟩ := by kernel_rfl
@[go_sem] theorem ti85 : tinfo Try.prog 85 = some ⟨.func, 1, 8, (some (.nilFunc))⟩ := by kernel_rfl
@[go_sem] theorem ti86 : tinfo Try.prog 86 = some ⟨.func, 1, 8, (some (.nilFunc))⟩ := by kernel_rfl
@[go_sem] theorem ti87 : tinfo Try.prog 87 = some ⟨.func, 1, 8, (some (.nilFunc))⟩ := by kernel_rfl
@[go_sem] theorem ti88 : tinfo Try.prog 88 = some ⟨.func, 1, 8, (some (.nilFunc))⟩ := by kernel_rfl
@[go_sem] theorem ti89 : tinfo Try.prog 89 = some ⟨.pointer 3, 1, 8, (some (.pointer none))⟩ := by kernel_rfl
@[go_sem] theorem ti91 : tinfo Try.prog 91 = some ⟨.func, 1, 8, (some (.nilFunc))⟩ := by kernel_rfl
@[go_sem] theorem ti92 : tinfo Try.prog 92 = some ⟨.pointer 95, 1, 8, (some (.pointer none))⟩ := by kernel_rfl
@[go_sem] theorem ti93 : tinfo Try.prog 93 = some ⟨.slice 20, 1, 24, (some (.slice none 0 0))⟩ := by kernel_rfl
@[go_sem] theorem ti94 : tinfo Try.prog 94 = some ⟨.struct [(9, 0), (9, 1), (9, 2), (9, 3), (24, 4), (4, 5), (93, 6), (9, 7)], 8, 136, (some (.agg #[.string ⟨#[]⟩, .string ⟨#[]⟩, .string ⟨#[]⟩, .string ⟨#[]⟩, .slice none 0 0, .bool false, .slice none 0 0, .string ⟨#[]⟩]))⟩ := by kernel_rfl
@[go_sem] theorem fk94 : fieldsOk Try.prog 94 = true := by kernel_rfl
@[go_sem] theorem fo94_0 : fieldOf Try.prog 94 0 = some ⟨9, 0, 1, false⟩ := by kernel_rfl
@[go_sem] theorem fo94_1 : fieldOf Try.prog 94 1 = some ⟨9, 1, 1, false⟩ := by kernel_rfl
@[go_sem] theorem fo94_2 : fieldOf Try.prog 94 2 = some ⟨9, 2, 1, false⟩ := by kernel_rfl
@[go_sem] theorem fo94_3 : fieldOf Try.prog 94 3 = some ⟨9, 3, 1, false⟩ := by kernel_rfl
@[go_sem] theorem fo94_4 : fieldOf Try.prog 94 4 = some ⟨24, 4, 1, false⟩ := by kernel_rfl
@[go_sem] theorem fo94_5 : fieldOf Try.prog 94 5 = some ⟨4, 5, 1, false⟩ := by kernel_rfl
@[go_sem] theorem fo94_6 : fieldOf Try.prog 94 6 = some ⟨93, 6, 1, false⟩ := by kernel_rfl
@[go_sem] theorem fo94_7 : fieldOf Try.prog 94 7 = some ⟨9, 7, 1, false⟩ := by kernel_rfl
@[go_sem] theorem ti95 : tinfo Try.prog 95 = some ⟨.struct [(9, 0), (9, 1), (9, 2), (9, 3), (24, 4), (4, 5), (93, 6), (9, 7)], 8, 136, (some (.agg #[.string ⟨#[]⟩, .string ⟨#[]⟩, .string ⟨#[]⟩, .string ⟨#[]⟩, .slice none 0 0, .bool false, .slice none 0 0, .string ⟨#[]⟩]))⟩ := by kernel_rfl
@[go_sem] theorem fk95 : fieldsOk Try.prog 95 = true := by kernel_rfl
@[go_sem] theorem fo95_0 : fieldOf Try.prog 95 0 = some ⟨9, 0, 1, false⟩ := by kernel_rfl
@[go_sem] theorem fo95_1 : fieldOf Try.prog 95 1 = some ⟨9, 1, 1, false⟩ := by kernel_rfl
@[go_sem] theorem fo95_2 : fieldOf Try.prog 95 2 = some ⟨9, 2, 1, false⟩ := by kernel_rfl
@[go_sem] theorem fo95_3 : fieldOf Try.prog 95 3 = some ⟨9, 3, 1, false⟩ := by kernel_rfl
@[go_sem] theorem fo95_4 : fieldOf Try.prog 95 4 = some ⟨24, 4, 1, false⟩ := by kernel_rfl
@[go_sem] theorem fo95_5 : fieldOf Try.prog 95 5 = some ⟨4, 5, 1, false⟩ := by kernel_rfl
@[go_sem] theorem fo95_6 : fieldOf Try.prog 95 6 = some ⟨93, 6, 1, false⟩ := by kernel_rfl
@[go_sem] theorem fo95_7 : fieldOf Try.prog 95 7 = some ⟨9, 7, 1, false⟩ := by kernel_rfl
@[go_sem] theorem ti96 : tinfo Try.prog 96 = some ⟨.map 9 9, 1, 8, (some (.map none))⟩ := by kernel_rfl
@[go_sem] theorem ti98 : tinfo Try.prog 98 = some ⟨.func, 1, 8, (some (.nilFunc))⟩ := by kernel_rfl
@[go_sem] theorem ti99 : tinfo Try.prog 99 = some ⟨.func, 1, 8, (some (.nilFunc))⟩ := by kernel_rfl
@[go_sem] theorem ti100 : tinfo Try.prog 100 = some ⟨.func, 1, 8, (some (.nilFunc))⟩ := by kernel_rfl
@[go_sem] theorem ti101 : tinfo Try.prog 101 = some ⟨.func, 1, 8, (some (.nilFunc))⟩ := by kernel_rfl
@[go_sem] theorem ti102 : tinfo Try.prog 102 = some ⟨.func, 1, 8, (some (.nilFunc))⟩ := by kernel_rfl
@[go_sem] theorem ti103 : tinfo Try.prog 103 = some ⟨.func, 1, 8, (some (.nilFunc))⟩ := by kernel_rfl
@[go_sem] theorem ti104 : tinfo Try.prog 104 = some ⟨.pointer 106, 1, 8, (some (.pointer none))⟩ := by kernel_rfl
@[go_sem] theorem ti105 : tinfo Try.prog 105 = some ⟨.struct [(9, 0), (9, 1), (66, 2)], 3, 56, (some (.agg #[.string ⟨#[]⟩, .string ⟨#[]⟩, .slice none 0 0]))⟩ := by kernel_rfl
@[go_sem] theorem fk105 : fieldsOk Try.prog 105 = true := by kernel_rfl
@[go_sem] theorem fo105_0 : fieldOf Try.prog 105 0 = some ⟨9, 0, 1, false⟩ := by kernel_rfl
@[go_sem] theorem fo105_1 : fieldOf Try.prog 105 1 = some ⟨9, 1, 1, false⟩ := by kernel_rfl
@[go_sem] theorem fo105_2 : fieldOf Try.prog 105 2 = some ⟨66, 2, 1, false⟩ := by kernel_rfl
@[go_sem] theorem ti106 : tinfo Try.prog 106 = some ⟨.struct [(9, 0), (9, 1), (66, 2)], 3, 56, (some (.agg #[.string ⟨#[]⟩, .string ⟨#[]⟩, .slice none 0 0]))⟩ := by kernel_rfl
@[go_sem] theorem fk106 : fieldsOk Try.prog 106 = true := by kernel_rfl
@[go_sem] theorem fo106_0 : fieldOf Try.prog 106 0 = some ⟨9, 0, 1, false⟩ := by kernel_rfl
@[go_sem] theorem fo106_1 : fieldOf Try.prog 106 1 = some ⟨9, 1, 1, false⟩ := by kernel_rfl
@[go_sem] theorem fo106_2 : fieldOf Try.prog 106 2 = some ⟨66, 2, 1, false⟩ := by kernel_rfl
@[go_sem] theorem ti107 : tinfo Try.prog 107 = some ⟨.slice 82, 1, 24, (some (.slice none 0 0))⟩ := by kernel_rfl
@[go_sem] theorem ti108 : tinfo Try.prog 108 = some ⟨.struct [(104, 0), (63, 1), (82, 2), (107, 3)], 4, 48, (some (.agg #[.pointer none, .map none, .pointer none, .slice none 0 0]))⟩ := by kernel_rfl
@[go_sem] theorem fk108 : fieldsOk Try.prog 108 = true := by kernel_rfl
@[go_sem] theorem fo108_0 : fieldOf Try.prog 108 0 = some ⟨104, 0, 1, false⟩ := by kernel_rfl
@[go_sem] theorem fo108_1 : fieldOf Try.prog 108 1 = some ⟨63, 1, 1, false⟩ := by kernel_rfl
@[go_sem] theorem fo108_2 : fieldOf Try.prog 108 2 = some ⟨82, 2, 1, false⟩ := by kernel_rfl
@[go_sem] theorem fo108_3 : fieldOf Try.prog 108 3 = some ⟨107, 3, 1, false⟩ := by kernel_rfl
@[go_sem] theorem ti109 : tinfo Try.prog 109 = some ⟨.struct [(104, 0), (63, 1), (82, 2), (107, 3)], 4, 48, (some (.agg #[.pointer none, .map none, .pointer none, .slice none 0 0]))⟩ := by kernel_rfl
@[go_sem] theorem fk109 : fieldsOk Try.prog 109 = true := by kernel_rfl
@[go_sem] theorem fo109_0 : fieldOf Try.prog 109 0 = some ⟨104, 0, 1, false⟩ := by kernel_rfl
@[go_sem] theorem fo109_1 : fieldOf Try.prog 109 1 = some ⟨63, 1, 1, false⟩ := by kernel_rfl
@[go_sem] theorem fo109_2 : fieldOf Try.prog 109 2 = some ⟨82, 2, 1, false⟩ := by kernel_rfl
@[go_sem] theorem fo109_3 : fieldOf Try.prog 109 3 = some ⟨107, 3, 1, false⟩ := by kernel_rfl
@[go_sem] theorem ti110 : tinfo Try.prog 110 = some ⟨.func, 1, 8, (some (.nilFunc))⟩ := by kernel_rfl
@[go_sem] theorem ti111 : tinfo Try.prog 111 = some ⟨.func, 1, 8, (some (.nilFunc))⟩ := by kernel_rfl
@[go_sem] theorem ti113 : tinfo Try.prog 113 = some ⟨.func, 1, 8, (some (.nilFunc))⟩ := by kernel_rfl
@[go_sem] theorem ti114 : tinfo Try.prog 114 = some ⟨.func, 1, 8, (some (.nilFunc))⟩ := by kernel_rfl
@[go_sem] theorem ti116 : tinfo Try.prog 116 = some ⟨.func, 1, 8, (some (.nilFunc))⟩ := by kernel_rfl
@[go_sem] theorem ti117 : tinfo Try.prog 117 = some ⟨.func, 1, 8, (some (.nilFunc))⟩ := by kernel_rfl
@[go_sem] theorem ti118 : tinfo Try.prog 118 = some ⟨.int .u64, 1, 8, (some (.int .u64 0))⟩ := by kernel_rfl
@[go_sem] theorem ti119 : tinfo Try.prog 119 = some ⟨.func, 1, 8, (some (.nilFunc))⟩ := by kernel_rfl
@[go_sem] theorem ti120 : tinfo Try.prog 120 = some ⟨.map 9 4, 1, 8, (some (.map none))⟩ := by kernel_rfl
@[go_sem] theorem ti121 : tinfo Try.prog 121 = some ⟨.func, 1, 8, (some (.nilFunc))⟩ := by kernel_rfl
@[go_sem] theorem ti122 : tinfo Try.prog 122 = some ⟨.func, 1, 8, (some (.nilFunc))⟩ := by kernel_rfl
@[go_sem] theorem ti123 : tinfo Try.prog 123 = some ⟨.func, 1, 8, (some (.nilFunc))⟩ := by kernel_rfl
@[go_sem] theorem ti124 : tinfo Try.prog 124 = some ⟨.struct [(9, 0)], 1, 16, (some (.agg #[.string ⟨#[]⟩]))⟩ := by kernel_rfl
@[go_sem] theorem fk124 : fieldsOk Try.prog 124 = true := by kernel_rfl
@[go_sem] theorem fo124_0 : fieldOf Try.prog 124 0 = some ⟨9, 0, 1, false⟩ := by kernel_rfl
@[go_sem] theorem ti125 : tinfo Try.prog 125 = some ⟨.struct [(9, 0)], 1, 16, (some (.agg #[.string ⟨#[]⟩]))⟩ := by kernel_rfl
@[go_sem] theorem fk125 : fieldsOk Try.prog 125 = true := by kernel_rfl
@[go_sem] theorem fo125_0 : fieldOf Try.prog 125 0 = some ⟨9, 0, 1, false⟩ := by kernel_rfl
@[go_sem] theorem ti127 : tinfo Try.prog 127 = some ⟨.func, 1, 8, (some (.nilFunc))⟩ := by kernel_rfl
@[go_sem] theorem ti128 : tinfo Try.prog 128 = some ⟨.func, 1, 8, (some (.nilFunc))⟩ := by kernel_rfl
@[go_sem] theorem ti129 : tinfo Try.prog 129 = some ⟨.func, 1, 8, (some (.nilFunc))⟩ := by kernel_rfl
@[go_sem] theorem ti130 : tinfo Try.prog 130 = some ⟨.func, 1, 8, (some (.nilFunc))⟩ := by kernel_rfl
@[go_sem] theorem ti131 : tinfo Try.prog 131 = some ⟨.int .i64, 1, 8, (some (.int .i64 0))⟩ := by kernel_rfl
@[go_sem] theorem ti133 : tinfo Try.prog 133 = some ⟨.func, 1, 8, (some (.nilFunc))⟩ := by kernel_rfl
@[go_sem] theorem ti134 : tinfo Try.prog 134 = some ⟨.func, 1, 8, (some (.nilFunc))⟩ := by kernel_rfl
@[go_sem] theorem ti135 : tinfo Try.prog 135 = some ⟨.func, 1, 8, (some (.nilFunc))⟩ := by kernel_rfl
@[go_sem] theorem ti136 : tinfo Try.prog 136 = some ⟨.func, 1, 8, (some (.nilFunc))⟩ := by kernel_rfl
@[go_sem] theorem ti138 : tinfo Try.prog 138 = some ⟨.func, 1, 8, (some (.nilFunc))⟩ := by kernel_rfl
@[go_sem] theorem ti139 : tinfo Try.prog 139 = some ⟨.func, 1, 8, (some (.nilFunc))⟩ := by kernel_rfl
@[go_sem] theorem ti140 : tinfo Try.prog 140 = some ⟨.int .u32, 1, 4, (some (.int .u32 0))⟩ := by kernel_rfl
@[go_sem] theorem ti141 : tinfo Try.prog 141 = some ⟨.func, 1, 8, (some (.nilFunc))⟩ := by kernel_rfl
@[go_sem] theorem ti142 : tinfo Try.prog 142 = some ⟨.int .u64, 1, 8, (some (.int .u64 0))⟩ := by kernel_rfl
@[go_sem] theorem ti143 : tinfo Try.prog 143 = some ⟨.func, 1, 8, (some (.nilFunc))⟩ := by kernel_rfl
@[go_sem] theorem ti144 : tinfo Try.prog 144 = some ⟨.func, 1, 8, (some (.nilFunc))⟩ := by kernel_rfl
@[go_sem] theorem ti145 : tinfo Try.prog 145 = some ⟨.func, 1, 8, (some (.nilFunc))⟩ := by kernel_rfl
@[go_sem] theorem ti146 : tinfo Try.prog 146 = some ⟨.func, 1, 8, (some (.nilFunc))⟩ := by kernel_rfl
@[go_sem] theorem ti147 : tinfo Try.prog 147 = some ⟨.func, 1, 8, (some (.nilFunc))⟩ := by kernel_rfl
@[go_sem] theorem ti148 : tinfo Try.prog 148 = some ⟨.func, 1, 8, (some (.nilFunc))⟩ := by kernel_rfl
@[go_sem] theorem ti149 : tinfo Try.prog 149 = some ⟨.int .u64, 1, 8, (some (.int .u64 0))⟩ := by kernel_rfl
@[go_sem] theorem ti150 : tinfo Try.prog 150 = some ⟨.func, 1, 8, (some (.nilFunc))⟩ := by kernel_rfl
@[go_sem] theorem ti151 : tinfo Try.prog 151 = some ⟨.func, 1, 8, (some (.nilFunc))⟩ := by kernel_rfl
@[go_sem] theorem ti152 : tinfo Try.prog 152 = some ⟨.func, 1, 8, (some (.nilFunc))⟩ := by kernel_rfl
@[go_sem] theorem ti153 : tinfo Try.prog 153 = some ⟨.func, 1, 8, (some (.nilFunc))⟩ := by kernel_rfl
@[go_sem] theorem ti154 : tinfo Try.prog 154 = some ⟨.pointer 156, 1, 8, (some (.pointer none))⟩ := by kernel_rfl
@[go_sem] theorem ti155 : tinfo Try.prog 155 = some ⟨.struct [(9, 0)], 1, 16, (some (.agg #[.string ⟨#[]⟩]))⟩ := by kernel_rfl
@[go_sem] theorem fk155 : fieldsOk Try.prog 155 = true := by kernel_rfl
@[go_sem] theorem fo155_0 : fieldOf Try.prog 155 0 = some ⟨9, 0, 1, false⟩ := by kernel_rfl
@[go_sem] theorem ti156 : tinfo Try.prog 156 = some ⟨.struct [(9, 0)], 1, 16, (some (.agg #[.string ⟨#[]⟩]))⟩ := by kernel_rfl
@[go_sem] theorem fk156 : fieldsOk Try.prog 156 = true := by kernel_rfl
@[go_sem] theorem fo156_0 : fieldOf Try.prog 156 0 = some ⟨9, 0, 1, false⟩ := by kernel_rfl
@[go_sem] theorem ti157 : tinfo Try.prog 157 = some ⟨.pointer 149, 1, 8, (some (.pointer none))⟩ := by kernel_rfl
@[go_sem] theorem ti159 : tinfo Try.prog 159 = some ⟨.func, 1, 8, (some (.nilFunc))⟩ := by kernel_rfl
@[go_sem] theorem ti160 : tinfo Try.prog 160 = some ⟨.struct [(17, 0), (17, 1), (17, 2), (9, 3)], 4, 40, (some (.agg #[.pointer none, .pointer none, .pointer none, .string ⟨#[]⟩]))⟩ := by kernel_rfl
@[go_sem] theorem fk160 : fieldsOk Try.prog 160 = true := by kernel_rfl
@[go_sem] theorem fo160_0 : fieldOf Try.prog 160 0 = some ⟨17, 0, 1, false⟩ := by kernel_rfl
@[go_sem] theorem fo160_1 : fieldOf Try.prog 160 1 = some ⟨17, 1, 1, false⟩ := by kernel_rfl
@[go_sem] theorem fo160_2 : fieldOf Try.prog 160 2 = some ⟨17, 2, 1, false⟩ := by kernel_rfl
@[go_sem] theorem fo160_3 : fieldOf Try.prog 160 3 = some ⟨9, 3, 1, false⟩ := by kernel_rfl
@[go_sem] theorem ti161 : tinfo Try.prog 161 = some ⟨.struct [(17, 0), (17, 1), (17, 2), (9, 3)], 4, 40, (some (.agg #[.pointer none, .pointer none, .pointer none, .string ⟨#[]⟩]))⟩ := by kernel_rfl
@[go_sem] theorem fk161 : fieldsOk Try.prog 161 = true := by kernel_rfl
@[go_sem] theorem fo161_0 : fieldOf Try.prog 161 0 = some ⟨17, 0, 1, false⟩ := by kernel_rfl
@[go_sem] theorem fo161_1 : fieldOf Try.prog 161 1 = some ⟨17, 1, 1, false⟩ := by kernel_rfl
@[go_sem] theorem fo161_2 : fieldOf Try.prog 161 2 = some ⟨17, 2, 1, false⟩ := by kernel_rfl
@[go_sem] theorem fo161_3 : fieldOf Try.prog 161 3 = some ⟨9, 3, 1, false⟩ := by kernel_rfl
@[go_sem] theorem ti162 : tinfo Try.prog 162 = some ⟨.array 0 16, 0, 0, (some (.agg #[]))⟩ := by kernel_rfl
@[go_sem] theorem ti163 : tinfo Try.prog 163 = some ⟨.struct [(162, 0)], 0, 0, (some (.agg #[]))⟩ := by kernel_rfl
@[go_sem] theorem fk163 : fieldsOk Try.prog 163 = true := by kernel_rfl
@[go_sem] theorem fo163_0 : fieldOf Try.prog 163 0 = some ⟨162, 0, 0, true⟩ := by kernel_rfl
@[go_sem] theorem ti164 : tinfo Try.prog 164 = some ⟨.struct [(162, 0)], 0, 0, (some (.agg #[]))⟩ := by kernel_rfl
@[go_sem] theorem fk164 : fieldsOk Try.prog 164 = true := by kernel_rfl
@[go_sem] theorem fo164_0 : fieldOf Try.prog 164 0 = some ⟨162, 0, 0, true⟩ := by kernel_rfl
@[go_sem] theorem ti165 : tinfo Try.prog 165 = some ⟨.func, 1, 8, (some (.nilFunc))⟩ := by kernel_rfl
@[go_sem] theorem ti166 : tinfo Try.prog 166 = some ⟨.int .u8, 1, 1, (some (.int .u8 0))⟩ := by kernel_rfl
@[go_sem] theorem ti167 : tinfo Try.prog 167 = some ⟨.int .u8, 1, 1, (some (.int .u8 0))⟩ := by kernel_rfl
@[go_sem] theorem ti168 : tinfo Try.prog 168 = some ⟨.func, 1, 8, (some (.nilFunc))⟩ := by kernel_rfl
@[go_sem] theorem ti169 : tinfo Try.prog 169 = some ⟨.pointer 5, 1, 8, (some (.pointer none))⟩ := by kernel_rfl
@[go_sem] theorem ti170 : tinfo Try.prog 170 = some ⟨.int .i32, 1, 4, (some (.int .i32 0))⟩ := by kernel_rfl
@[go_sem] theorem ti171 : tinfo Try.prog 171 = some ⟨.int .i32, 1, 4, (some (.int .i32 0))⟩ := by kernel_rfl
@[go_sem] theorem ti172 : tinfo Try.prog 172 = some ⟨.struct [(12, 0), (12, 1), (140, 2), (166, 3), (5, 4), (5, 5), (167, 6), (168, 7), (169, 8), (170, 9), (171, 10)], 11, 48, (some (.agg #[.int .u64 0, .int .u64 0, .int .u32 0, .int .u8 0, .int .u8 0, .int .u8 0, .int .u8 0, .nilFunc, .pointer none, .int .i32 0, .int .i32 0]))⟩ := by kernel_rfl
@[go_sem] theorem fk172 : fieldsOk Try.prog 172 = true := by kernel_rfl
@[go_sem] theorem fo172_0 : fieldOf Try.prog 172 0 = some ⟨12, 0, 1, false⟩ := by kernel_rfl
@[go_sem] theorem fo172_1 : fieldOf Try.prog 172 1 = some ⟨12, 1, 1, false⟩ := by kernel_rfl
@[go_sem] theorem fo172_2 : fieldOf Try.prog 172 2 = some ⟨140, 2, 1, false⟩ := by kernel_rfl
@[go_sem] theorem fo172_3 : fieldOf Try.prog 172 3 = some ⟨166, 3, 1, false⟩ := by kernel_rfl
@[go_sem] theorem fo172_4 : fieldOf Try.prog 172 4 = some ⟨5, 4, 1, false⟩ := by kernel_rfl
@[go_sem] theorem fo172_5 : fieldOf Try.prog 172 5 = some ⟨5, 5, 1, false⟩ := by kernel_rfl
@[go_sem] theorem fo172_6 : fieldOf Try.prog 172 6 = some ⟨167, 6, 1, false⟩ := by kernel_rfl
@[go_sem] theorem fo172_7 : fieldOf Try.prog 172 7 = some ⟨168, 7, 1, false⟩ := by kernel_rfl
@[go_sem] theorem fo172_8 : fieldOf Try.prog 172 8 = some ⟨169, 8, 1, false⟩ := by kernel_rfl
@[go_sem] theorem fo172_9 : fieldOf Try.prog 172 9 = some ⟨170, 9, 1, false⟩ := by kernel_rfl
@[go_sem] theorem fo172_10 : fieldOf Try.prog 172 10 = some ⟨171, 10, 1, false⟩ := by kernel_rfl
@[go_sem] theorem ti173 : tinfo Try.prog 173 = some ⟨.struct [(12, 0), (12, 1), (140, 2), (166, 3), (5, 4), (5, 5), (167, 6), (168, 7), (169, 8), (170, 9), (171, 10)], 11, 48, (some (.agg #[.int .u64 0, .int .u64 0, .int .u32 0, .int .u8 0, .int .u8 0, .int .u8 0, .int .u8 0, .nilFunc, .pointer none, .int .i32 0, .int .i32 0]))⟩ := by kernel_rfl
@[go_sem] theorem fk173 : fieldsOk Try.prog 173 = true := by kernel_rfl
@[go_sem] theorem fo173_0 : fieldOf Try.prog 173 0 = some ⟨12, 0, 1, false⟩ := by kernel_rfl
@[go_sem] theorem fo173_1 : fieldOf Try.prog 173 1 = some ⟨12, 1, 1, false⟩ := by kernel_rfl
@[go_sem] theorem fo173_2 : fieldOf Try.prog 173 2 = some ⟨140, 2, 1, false⟩ := by kernel_rfl
@[go_sem] theorem fo173_3 : fieldOf Try.prog 173 3 = some ⟨166, 3, 1, false⟩ := by kernel_rfl
@[go_sem] theorem fo173_4 : fieldOf Try.prog 173 4 = some ⟨5, 4, 1, false⟩ := by kernel_rfl
@[go_sem] theorem fo173_5 : fieldOf Try.prog 173 5 = some ⟨5, 5, 1, false⟩ := by kernel_rfl
@[go_sem] theorem fo173_6 : fieldOf Try.prog 173 6 = some ⟨167, 6, 1, false⟩ := by kernel_rfl
@[go_sem] theorem fo173_7 : fieldOf Try.prog 173 7 = some ⟨168, 7, 1, false⟩ := by kernel_rfl
@[go_sem] theorem fo173_8 : fieldOf Try.prog 173 8 = some ⟨169, 8, 1, false⟩ := by kernel_rfl
@[go_sem] theorem fo173_9 : fieldOf Try.prog 173 9 = some ⟨170, 9, 1, false⟩ := by kernel_rfl
@[go_sem] theorem fo173_10 : fieldOf Try.prog 173 10 = some ⟨171, 10, 1, false⟩ := by kernel_rfl
@[go_sem] theorem ti174 : tinfo Try.prog 174 = some ⟨.func, 1, 8, (some (.nilFunc))⟩ := by kernel_rfl
@[go_sem] theorem ti175 : tinfo Try.prog 175 = some ⟨.other, 1, 8, (some (.pointer none))⟩ := by kernel_rfl
@[go_sem] theorem gf2 : goodFn Try.prog 2 = true := by kernel_rfl
@[go_sem] theorem gf3 : goodFn Try.prog 3 = true := by kernel_rfl
@[go_sem] theorem gf4 : goodFn Try.prog 4 = true := by kernel_rfl
@[go_sem] theorem gf5 : goodFn Try.prog 5 = true := by kernel_rfl
@[go_sem] theorem gf6 : goodFn Try.prog 6 = true := by kernel_rfl
@[go_sem] theorem gf7 : goodFn Try.prog 7 = true := by kernel_rfl
@[go_sem] theorem gf8 : goodFn Try.prog 8 = true := by kernel_rfl
@[go_sem] theorem gf9 : goodFn Try.prog 9 = true := by kernel_rfl
@[go_sem] theorem gf10 : goodFn Try.prog 10 = true := by kernel_rfl
@[go_sem] theorem gf11 : goodFn Try.prog 11 = true := by kernel_rfl
@[go_sem] theorem gf12 : goodFn Try.prog 12 = true := by kernel_rfl
@[go_sem] theorem gf13 : goodFn Try.prog 13 = true := by kernel_rfl
@[go_sem] theorem gf14 : goodFn Try.prog 14 = true := by kernel_rfl
@[go_sem] theorem gf15 : goodFn Try.prog 15 = true := by kernel_rfl
@[go_sem] theorem gf16 : goodFn Try.prog 16 = true := by kernel_rfl
@[go_sem] theorem gf17 : goodFn Try.prog 17 = true := by kernel_rfl
@[go_sem] theorem gf18 : goodFn Try.prog 18 = true := by kernel_rfl
@[go_sem] theorem gf19 : goodFn Try.prog 19 = true := by kernel_rfl
@[go_sem] theorem gf20 : goodFn Try.prog 20 = true := by kernel_rfl
@[go_sem] theorem gf21 : goodFn Try.prog 21 = true := by kernel_rfl
@[go_sem] theorem gf22 : goodFn Try.prog 22 = true := by kernel_rfl
@[go_sem] theorem gf23 : goodFn Try.prog 23 = true := by kernel_rfl
@[go_sem] theorem gf24 : goodFn Try.prog 24 = true := by kernel_rfl
@[go_sem] theorem gf25 : goodFn Try.prog 25 = true := by kernel_rfl
@[go_sem] theorem gf26 : goodFn Try.prog 26 = true := by kernel_rfl
@[go_sem] theorem gf27 : goodFn Try.prog 27 = true := by kernel_rfl
@[go_sem] theorem gf28 : goodFn Try.prog 28 = true := by kernel_rfl
@[go_sem] theorem gf29 : goodFn Try.prog 29 = true := by kernel_rfl
@[go_sem] theorem gf30 : goodFn Try.prog 30 = true := by kernel_rfl
@[go_sem] theorem gf31 : goodFn Try.prog 31 = true := by kernel_rfl
@[go_sem] theorem gf32 : goodFn Try.prog 32 = true := by kernel_rfl
@[go_sem] theorem gf33 : goodFn Try.prog 33 = true := by kernel_rfl
@[go_sem] theorem gf34 : goodFn Try.prog 34 = true := by kernel_rfl
@[go_sem] theorem gf35 : goodFn Try.prog 35 = true := by kernel_rfl
@[go_sem] theorem gf36 : goodFn Try.prog 36 = true := by kernel_rfl
@[go_sem] theorem gf37 : goodFn Try.prog 37 = true := by kernel_rfl
@[go_sem] theorem gf38 : goodFn Try.prog 38 = true := by kernel_rfl
@[go_sem] theorem gf39 : goodFn Try.prog 39 = true := by kernel_rfl
@[go_sem] theorem gf40 : goodFn Try.prog 40 = true := by kernel_rfl
@[go_sem] theorem gf41 : goodFn Try.prog 41 = true := by kernel_rfl
@[go_sem] theorem gf42 : goodFn Try.prog 42 = true := by kernel_rfl
@[go_sem] theorem gf43 : goodFn Try.prog 43 = true := by kernel_rfl
@[go_sem] theorem gf44 : goodFn Try.prog 44 = true := by kernel_rfl
@[go_sem] theorem gf45 : goodFn Try.prog 45 = true := by kernel_rfl
@[go_sem] theorem gf46 : goodFn Try.prog 46 = true := by kernel_rfl
@[go_sem] theorem gf47 : goodFn Try.prog 47 = true := by kernel_rfl
@[go_sem] theorem gf48 : goodFn Try.prog 48 = true := by kernel_rfl
@[go_sem] theorem gf49 : goodFn Try.prog 49 = true := by kernel_rfl
@[go_sem] theorem gf50 : goodFn Try.prog 50 = true := by kernel_rfl
@[go_sem] theorem gf51 : goodFn Try.prog 51 = true := by kernel_rfl
@[go_sem] theorem gf52 : goodFn Try.prog 52 = true := by kernel_rfl
@[go_sem] theorem gf53 : goodFn Try.prog 53 = true := by kernel_rfl
@[go_sem] theorem gf54 : goodFn Try.prog 54 = true := by kernel_rfl
@[go_sem] theorem gf55 : goodFn Try.prog 55 = true := by kernel_rfl
@[go_sem] theorem gf56 : goodFn Try.prog 56 = true := by kernel_rfl
@[go_sem] theorem gf57 : goodFn Try.prog 57 = true := by kernel_rfl
@[go_sem] theorem gf58 : goodFn Try.prog 58 = true := by kernel_rfl
@[go_sem] theorem gf59 : goodFn Try.prog 59 = true := by kernel_rfl
@[go_sem] theorem gf60 : goodFn Try.prog 60 = true := by kernel_rfl
@[go_sem] theorem gf61 : goodFn Try.prog 61 = true := by kernel_rfl
@[go_sem] theorem gf62 : goodFn Try.prog 62 = true := by kernel_rfl
@[go_sem] theorem gf63 : goodFn Try.prog 63 = true := by kernel_rfl
@[go_sem] theorem gf64 : goodFn Try.prog 64 = true := by kernel_rfl
@[go_sem] theorem gf65 : goodFn Try.prog 65 = true := by kernel_rfl
@[go_sem] theorem gf66 : goodFn Try.prog 66 = true := by kernel_rfl
@[go_sem] theorem gf67 : goodFn Try.prog 67 = true := by kernel_rfl
@[go_sem] theorem gf68 : goodFn Try.prog 68 = true := by kernel_rfl
@[go_sem] theorem gf69 : goodFn Try.prog 69 = true := by kernel_rfl
@[go_sem] theorem gf70 : goodFn Try.prog 70 = true := by kernel_rfl
@[go_sem] theorem gf71 : goodFn Try.prog 71 = true := by kernel_rfl
@[go_sem] theorem gf72 : goodFn Try.prog 72 = true := by kernel_rfl
@[go_sem] theorem gf73 : goodFn Try.prog 73 = true := by kernel_rfl
@[go_sem] theorem gf74 : goodFn Try.prog 74 = true := by kernel_rfl
@[go_sem] theorem gf75 : goodFn Try.prog 75 = true := by kernel_rfl
@[go_sem] theorem gf76 : goodFn Try.prog 76 = true := by kernel_rfl
@[go_sem] theorem gf77 : goodFn Try.prog 77 = true := by kernel_rfl
@[go_sem] theorem gf78 : goodFn Try.prog 78 = true := by kernel_rfl
@[go_sem] theorem gf79 : goodFn Try.prog 79 = true := by kernel_rfl
@[go_sem] theorem gf80 : goodFn Try.prog 80 = true := by kernel_rfl
@[go_sem] theorem gf81 : goodFn Try.prog 81 = true := by kernel_rfl
@[go_sem] theorem gf82 : goodFn Try.prog 82 = true := by kernel_rfl
@[go_sem] theorem gf83 : goodFn Try.prog 83 = true := by kernel_rfl
@[go_sem] theorem gf84 : goodFn Try.prog 84 = true := by kernel_rfl
@[go_sem] theorem gf85 : goodFn Try.prog 85 = true := by kernel_rfl
@[go_sem] theorem gf86 : goodFn Try.prog 86 = true := by kernel_rfl
@[go_sem] theorem gf87 : goodFn Try.prog 87 = true := by kernel_rfl
@[go_sem] theorem gf88 : goodFn Try.prog 88 = true := by kernel_rfl
@[go_sem] theorem gf89 : goodFn Try.prog 89 = true := by kernel_rfl
@[go_sem] theorem gf90 : goodFn Try.prog 90 = true := by kernel_rfl
@[go_sem] theorem gf91 : goodFn Try.prog 91 = true := by kernel_rfl
@[go_sem] theorem gf92 : goodFn Try.prog 92 = true := by kernel_rfl
@[go_sem] theorem gf93 : goodFn Try.prog 93 = true := by kernel_rfl
@[go_sem] theorem gf94 : goodFn Try.prog 94 = true := by kernel_rfl
@[go_sem] theorem gf95 : goodFn Try.prog 95 = true := by kernel_rfl
@[go_sem] theorem gf96 : goodFn Try.prog 96 = true := by kernel_rfl
@[go_sem] theorem gf97 : goodFn Try.prog 97 = true := by kernel_rfl
@[go_sem] theorem gf98 : goodFn Try.prog 98 = true := by kernel_rfl
@[go_sem] theorem gf99 : goodFn Try.prog 99 = true := by kernel_rfl
@[go_sem] theorem gf100 : goodFn Try.prog 100 = true := by kernel_rfl
@[go_sem] theorem gf101 : goodFn Try.prog 101 = true := by kernel_rfl
@[go_sem] theorem gf102 : goodFn Try.prog 102 = true := by kernel_rfl
@[go_sem] theorem gf103 : goodFn Try.prog 103 = true := by kernel_rfl
@[go_sem] theorem gf104 : goodFn Try.prog 104 = true := by kernel_rfl
@[go_sem] theorem gf105 : goodFn Try.prog 105 = true := by kernel_rfl
@[go_sem] theorem gf106 : goodFn Try.prog 106 = true := by kernel_rfl
@[go_sem] theorem gf107 : goodFn Try.prog 107 = true := by kernel_rfl
@[go_sem] theorem gf108 : goodFn Try.prog 108 = true := by kernel_rfl
@[go_sem] theorem gf109 : goodFn Try.prog 109 = true := by kernel_rfl
@[go_sem] theorem gf110 : goodFn Try.prog 110 = true := by kernel_rfl
@[go_sem] theorem gf111 : goodFn Try.prog 111 = true := by kernel_rfl
theorem mixed : Try.prog.follows .mixedOrders = true := by kernel_rfl
end Go.Proofs.YtogfpbnbojhpoaaV
