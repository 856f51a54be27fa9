/- What is known of the types of this program, by its own tables. -/
import Derived.Test.YthjbgpmcfcijgaaDoorProg
import Derived.Test.YthjbgpmcfcijgaaDoorV4
namespace Go.Proofs.YthjbgpmcfcijgaaDoorV
set_option maxRecDepth 100000
@[go_sem] theorem ti1 : tinfo Tryd.prog 1 = some ⟨.func, 1, 8, (some (.nilFunc))⟩ := by kernel_rfl
@[go_sem] theorem ti2 : tinfo Tryd.prog 2 = some ⟨.int .i64, 1, 8, (some (.int .i64 0))⟩ := by kernel_rfl
@[go_sem] theorem ti3 : tinfo Tryd.prog 3 = some ⟨.int .i64, 1, 8, (some (.int .i64 0))⟩ := by kernel_rfl
@[go_sem] theorem ti4 : tinfo Tryd.prog 4 = some ⟨.bool, 1, 1, (some (.bool false))⟩ := by kernel_rfl
@[go_sem] theorem ti5 : tinfo Tryd.prog 5 = some ⟨.int .u8, 1, 1, (some (.int .u8 0))⟩ := by kernel_rfl
@[go_sem] theorem ti6 : tinfo Tryd.prog 6 = some ⟨.int .u8, 1, 1, (some (.int .u8 0))⟩ := by kernel_rfl
@[go_sem] theorem ti7 : tinfo Tryd.prog 7 = some ⟨.struct [(2, 0), (3, 1), (4, 2), (6, 3)], 4, 24, (some (.agg #[.int .i64 0, .int .i64 0, .bool false, .int .u8 0]))⟩ := by kernel_rfl
@[go_sem] theorem fk7 : fieldsOk Tryd.prog 7 = true := by kernel_rfl
@[go_sem] theorem fo7_0 : fieldOf Tryd.prog 7 0 = some ⟨2, 0, 1, false⟩ := by kernel_rfl
@[go_sem] theorem fo7_1 : fieldOf Tryd.prog 7 1 = some ⟨3, 1, 1, false⟩ := by kernel_rfl
@[go_sem] theorem fo7_2 : fieldOf Tryd.prog 7 2 = some ⟨4, 2, 1, false⟩ := by kernel_rfl
@[go_sem] theorem fo7_3 : fieldOf Tryd.prog 7 3 = some ⟨6, 3, 1, false⟩ := by kernel_rfl
@[go_sem] theorem ti8 : tinfo Tryd.prog 8 = some ⟨.struct [(2, 0), (3, 1), (4, 2), (6, 3)], 4, 24, (some (.agg #[.int .i64 0, .int .i64 0, .bool false, .int .u8 0]))⟩ := by kernel_rfl
@[go_sem] theorem fk8 : fieldsOk Tryd.prog 8 = true := by kernel_rfl
@[go_sem] theorem fo8_0 : fieldOf Tryd.prog 8 0 = some ⟨2, 0, 1, false⟩ := by kernel_rfl
@[go_sem] theorem fo8_1 : fieldOf Tryd.prog 8 1 = some ⟨3, 1, 1, false⟩ := by kernel_rfl
@[go_sem] theorem fo8_2 : fieldOf Tryd.prog 8 2 = some ⟨4, 2, 1, false⟩ := by kernel_rfl
@[go_sem] theorem fo8_3 : fieldOf Tryd.prog 8 3 = some ⟨6, 3, 1, false⟩ := by kernel_rfl
@[go_sem] theorem ti9 : tinfo Tryd.prog 9 = some ⟨.string, 1, 16, (some (.string ⟨#[]⟩))⟩ := by kernel_rfl
@[go_sem] theorem ti10 : tinfo Tryd.prog 10 = some ⟨.string, 1, 16, (some (.string ⟨#[]⟩))⟩ := by kernel_rfl
@[go_sem] theorem ti11 : tinfo Tryd.prog 11 = some ⟨.string, 1, 16, (some (.string ⟨#[]⟩))⟩ := by kernel_rfl
@[go_sem] theorem ti12 : tinfo Tryd.prog 12 = some ⟨.int .u64, 1, 8, (some (.int .u64 0))⟩ := by kernel_rfl
@[go_sem] theorem ti13 : tinfo Tryd.prog 13 = some ⟨.struct [(9, 0), (12, 1)], 2, 24, (some (.agg #[.string ⟨#[]⟩, .int .u64 0]))⟩ := by kernel_rfl
@[go_sem] theorem fk13 : fieldsOk Tryd.prog 13 = true := by kernel_rfl
@[go_sem] theorem fo13_0 : fieldOf Tryd.prog 13 0 = some ⟨9, 0, 1, false⟩ := by kernel_rfl
@[go_sem] theorem fo13_1 : fieldOf Tryd.prog 13 1 = some ⟨12, 1, 1, false⟩ := by kernel_rfl
@[go_sem] theorem ti14 : tinfo Tryd.prog 14 = some ⟨.struct [(9, 0), (12, 1)], 2, 24, (some (.agg #[.string ⟨#[]⟩, .int .u64 0]))⟩ := by kernel_rfl
@[go_sem] theorem fk14 : fieldsOk Tryd.prog 14 = true := by kernel_rfl
@[go_sem] theorem fo14_0 : fieldOf Tryd.prog 14 0 = some ⟨9, 0, 1, false⟩ := by kernel_rfl
@[go_sem] theorem fo14_1 : fieldOf Tryd.prog 14 1 = some ⟨12, 1, 1, false⟩ := by kernel_rfl
@[go_sem] theorem ti15 : tinfo Tryd.prog 15 = some ⟨.pointer 141, 1, 8, (some (.pointer none))⟩ := by kernel_rfl
@[go_sem] theorem ti16 : tinfo Tryd.prog 16 = some ⟨.pointer 144, 1, 8, (some (.pointer none))⟩ := by kernel_rfl
@[go_sem] theorem ti17 : tinfo Tryd.prog 17 = some ⟨.pointer 153, 1, 8, (some (.pointer none))⟩ := by kernel_rfl
@[go_sem] theorem ti18 : tinfo Tryd.prog 18 = some ⟨.struct [(17, 0)], 1, 8, (some (.agg #[.pointer none]))⟩ := by kernel_rfl
@[go_sem] theorem fk18 : fieldsOk Tryd.prog 18 = true := by kernel_rfl
@[go_sem] theorem fo18_0 : fieldOf Tryd.prog 18 0 = some ⟨17, 0, 1, false⟩ := by kernel_rfl
@[go_sem] theorem ti19 : tinfo Tryd.prog 19 = some ⟨.struct [(17, 0)], 1, 8, (some (.agg #[.pointer none]))⟩ := by kernel_rfl
@[go_sem] theorem fk19 : fieldsOk Tryd.prog 19 = true := by kernel_rfl
@[go_sem] theorem fo19_0 : fieldOf Tryd.prog 19 0 = some ⟨17, 0, 1, false⟩ := by kernel_rfl
@[go_sem] theorem ti20 : tinfo Tryd.prog 20 = some ⟨.iface [], 1, 16, (some (.nilIface))⟩ := by kernel_rfl
@[go_sem] theorem ti21 : tinfo Tryd.prog 21 = some ⟨.int .i32, 1, 4, (some (.int .i32 0))⟩ := by kernel_rfl
@[go_sem] theorem ti22 : tinfo Tryd.prog 22 = some ⟨.func, 1, 8, (some (.nilFunc))⟩ := by kernel_rfl
@[go_sem] theorem ti23 : tinfo Tryd.prog 23 = some ⟨.func, 1, 8, (some (.nilFunc))⟩ := by kernel_rfl
@[go_sem] theorem ti25 : tinfo Tryd.prog 25 = some ⟨.func, 1, 8, (some (.nilFunc))⟩ := by kernel_rfl
@[go_sem] theorem ti26 : tinfo Tryd.prog 26 = some ⟨.slice 51, 1, 24, (some (.slice none 0 0))⟩ := by kernel_rfl
@[go_sem] theorem ti28 : tinfo Tryd.prog 28 = some ⟨.func, 1, 8, (some (.nilFunc))⟩ := by kernel_rfl
@[go_sem] theorem ti29 : tinfo Tryd.prog 29 = some ⟨.func, 1, 8, (some (.nilFunc))⟩ := by kernel_rfl
@[go_sem] theorem ti30 : tinfo Tryd.prog 30 = some ⟨.func, 1, 8, (some (.nilFunc))⟩ := by kernel_rfl
@[go_sem] theorem ti31 : tinfo Tryd.prog 31 = some ⟨.slice 33, 1, 24, (some (.slice none 0 0))⟩ := by kernel_rfl
@[go_sem] theorem ti32 : tinfo Tryd.prog 32 = some ⟨.struct [(3, 0), (3, 1), (9, 2), (9, 3), (9, 4), (9, 5), (9, 6), (9, 7), (3, 8), (3, 9), (3, 10), (31, 11)], 12, 160, (some (.agg #[.int .i64 0, .int .i64 0, .string ⟨#[]⟩, .string ⟨#[]⟩, .string ⟨#[]⟩, .string ⟨#[]⟩, .string ⟨#[]⟩, .string ⟨#[]⟩, .int .i64 0, .int .i64 0, .int .i64 0, .slice none 0 0]))⟩ := by kernel_rfl
@[go_sem] theorem fk32 : fieldsOk Tryd.prog 32 = true := by kernel_rfl
@[go_sem] theorem fo32_0 : fieldOf Tryd.prog 32 0 = some ⟨3, 0, 1, false⟩ := by kernel_rfl
@[go_sem] theorem fo32_1 : fieldOf Tryd.prog 32 1 = some ⟨3, 1, 1, false⟩ := by kernel_rfl
@[go_sem] theorem fo32_2 : fieldOf Tryd.prog 32 2 = some ⟨9, 2, 1, false⟩ := by kernel_rfl
@[go_sem] theorem fo32_3 : fieldOf Tryd.prog 32 3 = some ⟨9, 3, 1, false⟩ := by kernel_rfl
@[go_sem] theorem fo32_4 : fieldOf Tryd.prog 32 4 = some ⟨9, 4, 1, false⟩ := by kernel_rfl
@[go_sem] theorem fo32_5 : fieldOf Tryd.prog 32 5 = some ⟨9, 5, 1, false⟩ := by kernel_rfl
@[go_sem] theorem fo32_6 : fieldOf Tryd.prog 32 6 = some ⟨9, 6, 1, false⟩ := by kernel_rfl
@[go_sem] theorem fo32_7 : fieldOf Tryd.prog 32 7 = some ⟨9, 7, 1, false⟩ := by kernel_rfl
@[go_sem] theorem fo32_8 : fieldOf Tryd.prog 32 8 = some ⟨3, 8, 1, false⟩ := by kernel_rfl
@[go_sem] theorem fo32_9 : fieldOf Tryd.prog 32 9 = some ⟨3, 9, 1, false⟩ := by kernel_rfl
@[go_sem] theorem fo32_10 : fieldOf Tryd.prog 32 10 = some ⟨3, 10, 1, false⟩ := by kernel_rfl
@[go_sem] theorem fo32_11 : fieldOf Tryd.prog 32 11 = some ⟨31, 11, 1, false⟩ := by kernel_rfl
@[go_sem] theorem ti33 : tinfo Tryd.prog 33 = some ⟨.struct [(3, 0), (3, 1), (9, 2), (9, 3), (9, 4), (9, 5), (9, 6), (9, 7), (3, 8), (3, 9), (3, 10), (31, 11)], 12, 160, (some (.agg #[.int .i64 0, .int .i64 0, .string ⟨#[]⟩, .string ⟨#[]⟩, .string ⟨#[]⟩, .string ⟨#[]⟩, .string ⟨#[]⟩, .string ⟨#[]⟩, .int .i64 0, .int .i64 0, .int .i64 0, .slice none 0 0]))⟩ := by kernel_rfl
@[go_sem] theorem fk33 : fieldsOk Tryd.prog 33 = true := by kernel_rfl
@[go_sem] theorem fo33_0 : fieldOf Tryd.prog 33 0 = some ⟨3, 0, 1, false⟩ := by kernel_rfl
@[go_sem] theorem fo33_1 : fieldOf Tryd.prog 33 1 = some ⟨3, 1, 1, false⟩ := by kernel_rfl
@[go_sem] theorem fo33_2 : fieldOf Tryd.prog 33 2 = some ⟨9, 2, 1, false⟩ := by kernel_rfl
@[go_sem] theorem fo33_3 : fieldOf Tryd.prog 33 3 = some ⟨9, 3, 1, false⟩ := by kernel_rfl
@[go_sem] theorem fo33_4 : fieldOf Tryd.prog 33 4 = some ⟨9, 4, 1, false⟩ := by kernel_rfl
@[go_sem] theorem fo33_5 : fieldOf Tryd.prog 33 5 = some ⟨9, 5, 1, false⟩ := by kernel_rfl
@[go_sem] theorem fo33_6 : fieldOf Tryd.prog 33 6 = some ⟨9, 6, 1, false⟩ := by kernel_rfl
@[go_sem] theorem fo33_7 : fieldOf Tryd.prog 33 7 = some ⟨9, 7, 1, false⟩ := by kernel_rfl
@[go_sem] theorem fo33_8 : fieldOf Tryd.prog 33 8 = some ⟨3, 8, 1, false⟩ := by kernel_rfl
@[go_sem] theorem fo33_9 : fieldOf Tryd.prog 33 9 = some ⟨3, 9, 1, false⟩ := by kernel_rfl
@[go_sem] theorem fo33_10 : fieldOf Tryd.prog 33 10 = some ⟨3, 10, 1, false⟩ := by kernel_rfl
@[go_sem] theorem fo33_11 : fieldOf Tryd.prog 33 11 = some ⟨31, 11, 1, false⟩ := by kernel_rfl
@[go_sem] theorem ti34 : tinfo Tryd.prog 34 = some ⟨.func, 1, 8, (some (.nilFunc))⟩ := by kernel_rfl
@[go_sem] theorem ti35 : tinfo Tryd.prog 35 = some ⟨.func, 1, 8, (some (.nilFunc))⟩ := by kernel_rfl
@[go_sem] theorem ti36 : tinfo Tryd.prog 36 = some ⟨.func, 1, 8, (some (.nilFunc))⟩ := by kernel_rfl
@[go_sem] theorem ti38 : tinfo Tryd.prog 38 = some ⟨.func, 1, 8, (some (.nilFunc))⟩ := by kernel_rfl
@[go_sem] theorem ti39 : tinfo Tryd.prog 39 = some ⟨.func, 1, 8, (some (.nilFunc))⟩ := by kernel_rfl
@[go_sem] theorem ti40 : tinfo Tryd.prog 40 = some ⟨.func, 1, 8, (some (.nilFunc))⟩ := by kernel_rfl
@[go_sem] theorem ti41 : tinfo Tryd.prog 41 = some ⟨.slice 9, 1, 24, (some (.slice none 0 0))⟩ := by kernel_rfl
@[go_sem] theorem ti42 : tinfo Tryd.prog 42 = some ⟨.func, 1, 8, (some (.nilFunc))⟩ := by kernel_rfl
@[go_sem] theorem ti43 : tinfo Tryd.prog 43 = some ⟨.func, 1, 8, (some (.nilFunc))⟩ := by kernel_rfl
@[go_sem] theorem ti44 : tinfo Tryd.prog 44 = some ⟨.iface [("Error", 61)], 1, 16, (some (.nilIface))⟩ := by kernel_rfl
@[go_sem] theorem ti45 : tinfo Tryd.prog 45 = some ⟨.iface [("Error", 61)], 1, 16, (some (.nilIface))⟩ := by kernel_rfl
@[go_sem] theorem ti47 : tinfo Tryd.prog 47 = some ⟨.func, 1, 8, (some (.nilFunc))⟩ := by kernel_rfl
@[go_sem] theorem ti48 : tinfo Tryd.prog 48 = some ⟨.slice 21, 1, 24, (some (.slice none 0 0))⟩ := by kernel_rfl
@[go_sem] theorem ti49 : tinfo Tryd.prog 49 = some ⟨.slice 71, 1, 24, (some (.slice none 0 0))⟩ := by kernel_rfl
@[go_sem] theorem ti50 : tinfo Tryd.prog 50 = some ⟨.struct [(5, 0), (4, 1), (49, 2), (21, 3)], 4, 40, (some (.agg #[.int .u8 0, .bool false, .slice none 0 0, .int .i32 0]))⟩ := by kernel_rfl
@[go_sem] theorem fk50 : fieldsOk Tryd.prog 50 = true := by kernel_rfl
@[go_sem] theorem fo50_0 : fieldOf Tryd.prog 50 0 = some ⟨5, 0, 1, false⟩ := by kernel_rfl
@[go_sem] theorem fo50_1 : fieldOf Tryd.prog 50 1 = some ⟨4, 1, 1, false⟩ := by kernel_rfl
@[go_sem] theorem fo50_2 : fieldOf Tryd.prog 50 2 = some ⟨49, 2, 1, false⟩ := by kernel_rfl
@[go_sem] theorem fo50_3 : fieldOf Tryd.prog 50 3 = some ⟨21, 3, 1, false⟩ := by kernel_rfl
@[go_sem] theorem ti51 : tinfo Tryd.prog 51 = some ⟨.struct [(5, 0), (4, 1), (49, 2), (21, 3)], 4, 40, (some (.agg #[.int .u8 0, .bool false, .slice none 0 0, .int .i32 0]))⟩ := by kernel_rfl
@[go_sem] theorem fk51 : fieldsOk Tryd.prog 51 = true := by kernel_rfl
@[go_sem] theorem fo51_0 : fieldOf Tryd.prog 51 0 = some ⟨5, 0, 1, false⟩ := by kernel_rfl
@[go_sem] theorem fo51_1 : fieldOf Tryd.prog 51 1 = some ⟨4, 1, 1, false⟩ := by kernel_rfl
@[go_sem] theorem fo51_2 : fieldOf Tryd.prog 51 2 = some ⟨49, 2, 1, false⟩ := by kernel_rfl
@[go_sem] theorem fo51_3 : fieldOf Tryd.prog 51 3 = some ⟨21, 3, 1, false⟩ := by kernel_rfl
@[go_sem] theorem ti53 : tinfo Tryd.prog 53 = some ⟨.func, 1, 8, (some (.nilFunc))⟩ := by kernel_rfl
@[go_sem] theorem ti54 : tinfo Tryd.prog 54 = some ⟨.slice 4, 1, 24, (some (.slice none 0 0))⟩ := by kernel_rfl
@[go_sem] theorem ti55 : tinfo Tryd.prog 55 = some ⟨.func, 1, 8, (some (.nilFunc))⟩ := by kernel_rfl
@[go_sem] theorem ti56 : tinfo Tryd.prog 56 = some ⟨.func, 1, 8, (some (.nilFunc))⟩ := by kernel_rfl
@[go_sem] theorem ti57 : tinfo Tryd.prog 57 = some ⟨.pointer 3, 1, 8, (some (.pointer none))⟩ := by kernel_rfl
@[go_sem] theorem ti58 : tinfo Tryd.prog 58 = some ⟨.pointer 97, 1, 8, (some (.pointer none))⟩ := by kernel_rfl
@[go_sem] theorem ti60 : tinfo Tryd.prog 60 = some ⟨.func, 1, 8, (some (.nilFunc))⟩ := by kernel_rfl
@[go_sem] theorem ti61 : tinfo Tryd.prog 61 = some ⟨.func, 1, 8, (some (.nilFunc))⟩ := by kernel_rfl
@[go_sem] theorem ti62 : tinfo Tryd.prog 62 = some ⟨.slice 85, 1, 24, (some (.slice none 0 0))⟩ := by kernel_rfl
@[go_sem] theorem ti63 : tinfo Tryd.prog 63 = some ⟨.pointer 87, 1, 8, (some (.pointer none))⟩ := by kernel_rfl
@[go_sem] theorem ti65 : tinfo Tryd.prog 65 = some ⟨.func, 1, 8, (some (.nilFunc))⟩ := by kernel_rfl
@[go_sem] theorem ti66 : tinfo Tryd.prog 66 = some ⟨.slice 58, 1, 24, (some (.slice none 0 0))⟩ := by kernel_rfl
@[go_sem] theorem ti67 : tinfo Tryd.prog 67 = some ⟨.func, 1, 8, (some (.nilFunc))⟩ := by kernel_rfl
@[go_sem] theorem ti69 : tinfo Tryd.prog 69 = some ⟨.func, 1, 8, (some (.nilFunc))⟩ := by kernel_rfl
@[go_sem] theorem ti70 : tinfo Tryd.prog 70 = some ⟨.struct [(21, 0), (21, 1)], 2, 8, (some (.agg #[.int .i32 0, .int .i32 0]))⟩ := by kernel_rfl
@[go_sem] theorem fk70 : fieldsOk Tryd.prog 70 = true := by kernel_rfl
@[go_sem] theorem fo70_0 : fieldOf Tryd.prog 70 0 = some ⟨21, 0, 1, false⟩ := by kernel_rfl
@[go_sem] theorem fo70_1 : fieldOf Tryd.prog 70 1 = some ⟨21, 1, 1, false⟩ := by kernel_rfl
@[go_sem] theorem ti71 : tinfo Tryd.prog 71 = some ⟨.struct [(21, 0), (21, 1)], 2, 8, (some (.agg #[.int .i32 0, .int .i32 0]))⟩ := by kernel_rfl
@[go_sem] theorem fk71 : fieldsOk Tryd.prog 71 = true := by kernel_rfl
@[go_sem] theorem fo71_0 : fieldOf Tryd.prog 71 0 = some ⟨21, 0, 1, false⟩ := by kernel_rfl
@[go_sem] theorem fo71_1 : fieldOf Tryd.prog 71 1 = some ⟨21, 1, 1, false⟩ := by kernel_rfl
@[go_sem] theorem ti72 : tinfo Tryd.prog 72 = some ⟨.slice 3, 1, 24, (some (.slice none 0 0))⟩ := by kernel_rfl
@[go_sem] theorem ti73 : tinfo Tryd.prog 73 = some ⟨.func, 1, 8, (some (.nilFunc))⟩ := by kernel_rfl
@[go_sem] theorem ti74 : tinfo Tryd.prog 74 = some ⟨.pointer 72, 1, 8, (some (.pointer none))⟩ := by kernel_rfl
@[go_sem] theorem ti75 : tinfo Tryd.prog 75 = some ⟨.func, 1, 8, (some (.nilFunc))⟩ := by kernel_rfl
@[go_sem] theorem ti76 : tinfo Tryd.prog 76 = some ⟨.pointer 107, 1, 8, (some (.pointer none))⟩ := by kernel_rfl
@[go_sem] theorem ti77 : tinfo Tryd.prog 77 = some ⟨.func, 1, 8, (some (.nilFunc))⟩ := by kernel_rfl
@[go_sem] theorem ti78 : tinfo Tryd.prog 78 = some ⟨.func, 1, 8, (some (.nilFunc))⟩ := by kernel_rfl
@[go_sem] theorem ti79 : tinfo Tryd.prog 79 = some ⟨.slice 76, 1, 24, (some (.slice none 0 0))⟩ := by kernel_rfl
@[go_sem] theorem ti80 : tinfo Tryd.prog 80 = some ⟨.func, 1, 8, (some (.nilFunc))⟩ := by kernel_rfl
@[go_sem] theorem ti81 : tinfo Tryd.prog 81 = some ⟨.pointer 111, 1, 8, (some (.pointer none))⟩ := by kernel_rfl
@[go_sem] theorem ti83 : tinfo Tryd.prog 83 = some ⟨.func, 1, 8, (some (.nilFunc))⟩ := by kernel_rfl
@[go_sem] theorem ti84 : tinfo Tryd.prog 84 = some ⟨.struct [(41, 0), (62, 1), (62, 2), (41, 3), (62, 4), (4, 5), (4, 6), (4, 7), (9, 8), (9, 9), (41, 10)], 11, 184, (some (.agg #[.slice none 0 0, .slice none 0 0, .slice none 0 0, .slice none 0 0, .slice none 0 0, .bool false, .bool false, .bool false, .string ⟨#[]⟩, .string ⟨#[]⟩, .slice none 0 0]))⟩ := by kernel_rfl
@[go_sem] theorem fk84 : fieldsOk Tryd.prog 84 = true := by kernel_rfl
@[go_sem] theorem fo84_0 : fieldOf Tryd.prog 84 0 = some ⟨41, 0, 1, false⟩ := by kernel_rfl
@[go_sem] theorem fo84_1 : fieldOf Tryd.prog 84 1 = some ⟨62, 1, 1, false⟩ := by kernel_rfl
@[go_sem] theorem fo84_2 : fieldOf Tryd.prog 84 2 = some ⟨62, 2, 1, false⟩ := by kernel_rfl
@[go_sem] theorem fo84_3 : fieldOf Tryd.prog 84 3 = some ⟨41, 3, 1, false⟩ := by kernel_rfl
@[go_sem] theorem fo84_4 : fieldOf Tryd.prog 84 4 = some ⟨62, 4, 1, false⟩ := by kernel_rfl
@[go_sem] theorem fo84_5 : fieldOf Tryd.prog 84 5 = some ⟨4, 5, 1, false⟩ := by kernel_rfl
@[go_sem] theorem fo84_6 : fieldOf Tryd.prog 84 6 = some ⟨4, 6, 1, false⟩ := by kernel_rfl
@[go_sem] theorem fo84_7 : fieldOf Tryd.prog 84 7 = some ⟨4, 7, 1, false⟩ := by kernel_rfl
@[go_sem] theorem fo84_8 : fieldOf Tryd.prog 84 8 = some ⟨9, 8, 1, false⟩ := by kernel_rfl
@[go_sem] theorem fo84_9 : fieldOf Tryd.prog 84 9 = some ⟨9, 9, 1, false⟩ := by kernel_rfl
@[go_sem] theorem fo84_10 : fieldOf Tryd.prog 84 10 = some ⟨41, 10, 1, false⟩ := by kernel_rfl
@[go_sem] theorem ti85 : tinfo Tryd.prog 85 = some ⟨.struct [(41, 0), (62, 1), (62, 2), (41, 3), (62, 4), (4, 5), (4, 6), (4, 7), (9, 8), (9, 9), (41, 10)], 11, 184, (some (.agg #[.slice none 0 0, .slice none 0 0, .slice none 0 0, .slice none 0 0, .slice none 0 0, .bool false, .bool false, .bool false, .string ⟨#[]⟩, .string ⟨#[]⟩, .slice none 0 0]))⟩ := by kernel_rfl
@[go_sem] theorem fk85 : fieldsOk Tryd.prog 85 = true := by kernel_rfl
@[go_sem] theorem fo85_0 : fieldOf Tryd.prog 85 0 = some ⟨41, 0, 1, false⟩ := by kernel_rfl
@[go_sem] theorem fo85_1 : fieldOf Tryd.prog 85 1 = some ⟨62, 1, 1, false⟩ := by kernel_rfl
@[go_sem] theorem fo85_2 : fieldOf Tryd.prog 85 2 = some ⟨62, 2, 1, false⟩ := by kernel_rfl
@[go_sem] theorem fo85_3 : fieldOf Tryd.prog 85 3 = some ⟨41, 3, 1, false⟩ := by kernel_rfl
@[go_sem] theorem fo85_4 : fieldOf Tryd.prog 85 4 = some ⟨62, 4, 1, false⟩ := by kernel_rfl
@[go_sem] theorem fo85_5 : fieldOf Tryd.prog 85 5 = some ⟨4, 5, 1, false⟩ := by kernel_rfl
@[go_sem] theorem fo85_6 : fieldOf Tryd.prog 85 6 = some ⟨4, 6, 1, false⟩ := by kernel_rfl
@[go_sem] theorem fo85_7 : fieldOf Tryd.prog 85 7 = some ⟨4, 7, 1, false⟩ := by kernel_rfl
@[go_sem] theorem fo85_8 : fieldOf Tryd.prog 85 8 = some ⟨9, 8, 1, false⟩ := by kernel_rfl
@[go_sem] theorem fo85_9 : fieldOf Tryd.prog 85 9 = some ⟨9, 9, 1, false⟩ := by kernel_rfl
@[go_sem] theorem fo85_10 : fieldOf Tryd.prog 85 10 = some ⟨41, 10, 1, false⟩ := by kernel_rfl
@[go_sem] theorem ti86 : tinfo Tryd.prog 86 = some ⟨.struct [(81, 0)], 1, 8, (some (.agg #[.pointer none]))⟩ := by kernel_rfl
@[go_sem] theorem fk86 : fieldsOk Tryd.prog 86 = true := by kernel_rfl
@[go_sem] theorem fo86_0 : fieldOf Tryd.prog 86 0 = some ⟨81, 0, 1, false⟩ := by kernel_rfl
@[go_sem] theorem ti87 : tinfo Tryd.prog 87 = some ⟨.struct [(81, 0)], 1, 8, (some (.agg #[.pointer none]))⟩ := by kernel_rfl
@[go_sem] theorem fk87 : fieldsOk Tryd.prog 87 = true := by kernel_rfl
@[go_sem] theorem fo87_0 : fieldOf Tryd.prog 87 0 = some ⟨81, 0, 1, false⟩ := by kernel_rfl
@[go_sem] theorem ti88 : tinfo Tryd.prog 88 = some ⟨.func, 1, 8, (some (.nilFunc))⟩ := by kernel_rfl
@[go_sem] theorem ti89 : tinfo Tryd.prog 89 = some ⟨.func, 1, 8, (some (.nilFunc))⟩ := by kernel_rfl
@[go_sem] theorem ti90 : tinfo Tryd.prog 90 = some ⟨.func, 1, 8, (some (.nilFunc))⟩ := by kernel_rfl
@[go_sem] theorem ti92 : tinfo Tryd.prog 92 = some ⟨.func, 1, 8, (some (.nilFunc))⟩ := by kernel_rfl
@[go_sem] theorem ti93 : tinfo Tryd.prog 93 = some ⟨.func, 1, 8, (some (.nilFunc))⟩ := by kernel_rfl
@[go_sem] theorem ti95 : tinfo Tryd.prog 95 = some ⟨.func, 1, 8, (some (.nilFunc))⟩ := by kernel_rfl
@[go_sem] theorem ti96 : tinfo Tryd.prog 96 = some ⟨.struct [(41, 0), (76, 1), (4, 2), (41, 3)], 4, 64, (some (.agg #[.slice none 0 0, .pointer none, .bool false, .slice none 0 0]))⟩ := by kernel_rfl
@[go_sem] theorem fk96 : fieldsOk Tryd.prog 96 = true := by kernel_rfl
@[go_sem] theorem fo96_0 : fieldOf Tryd.prog 96 0 = some ⟨41, 0, 1, false⟩ := by kernel_rfl
@[go_sem] theorem fo96_1 : fieldOf Tryd.prog 96 1 = some ⟨76, 1, 1, false⟩ := by kernel_rfl
@[go_sem] theorem fo96_2 : fieldOf Tryd.prog 96 2 = some ⟨4, 2, 1, false⟩ := by kernel_rfl
@[go_sem] theorem fo96_3 : fieldOf Tryd.prog 96 3 = some ⟨41, 3, 1, false⟩ := by kernel_rfl
@[go_sem] theorem ti97 : tinfo Tryd.prog 97 = some ⟨.struct [(41, 0), (76, 1), (4, 2), (41, 3)], 4, 64, (some (.agg #[.slice none 0 0, .pointer none, .bool false, .slice none 0 0]))⟩ := by kernel_rfl
@[go_sem] theorem fk97 : fieldsOk Tryd.prog 97 = true := by kernel_rfl
@[go_sem] theorem fo97_0 : fieldOf Tryd.prog 97 0 = some ⟨41, 0, 1, false⟩ := by kernel_rfl
@[go_sem] theorem fo97_1 : fieldOf Tryd.prog 97 1 = some ⟨76, 1, 1, false⟩ := by kernel_rfl
@[go_sem] theorem fo97_2 : fieldOf Tryd.prog 97 2 = some ⟨4, 2, 1, false⟩ := by kernel_rfl
@[go_sem] theorem fo97_3 : fieldOf Tryd.prog 97 3 = some ⟨41, 3, 1, false⟩ := by kernel_rfl
@[go_sem] theorem ti98 : tinfo Tryd.prog 98 = some ⟨.func, 1, 8, (some (.nilFunc))⟩ := by kernel_rfl
@[go_sem] theorem ti99 : tinfo Tryd.prog 99 = some ⟨.func, 1, 8, (some (.nilFunc))⟩ := by kernel_rfl
@[go_sem] theorem ti100 : tinfo Tryd.prog 100 = some ⟨.pointer 124, 1, 8, (some (.pointer none))⟩ := by kernel_rfl
@[go_sem] theorem ti101 : tinfo Tryd.prog 101 = some ⟨.func, 1, 8, (some (.nilFunc))⟩ := by kernel_rfl
@[go_sem] theorem ti102 : tinfo Tryd.prog 102 = some ⟨.func, 1, 8, (some (.nilFunc))⟩ := by kernel_rfl
@[go_sem] theorem ti103 : tinfo Tryd.prog 103 = some ⟨.int .u32, 1, 4, (some (.int .u32 0))⟩ := by kernel_rfl
@[go_sem] theorem ti104 : tinfo Tryd.prog 104 = some ⟨.int .u32, 1, 4, (some (.int .u32 0))⟩ := by kernel_rfl
@[go_sem] theorem ti105 : tinfo Tryd.prog 105 = some ⟨.int .u32, 1, 4, (some (.int .u32 0))⟩ := by kernel_rfl
@[go_sem] theorem ti106 : tinfo Tryd.prog 106 = some ⟨.struct [(104, 0), (105, 1), (9, 2), (9, 3), (9, 4), (76, 5), (79, 6), (9, 7), (9, 8), (9, 9), (3, 10), (3, 11)], 12, 152, (some (.agg #[.int .u32 0, .int .u32 0, .string ⟨#[]⟩, .string ⟨#[]⟩, .string ⟨#[]⟩, .pointer none, .slice none 0 0, .string ⟨#[]⟩, .string ⟨#[]⟩, .string ⟨#[]⟩, .int .i64 0, .int .i64 0]))⟩ := by kernel_rfl
@[go_sem] theorem fk106 : fieldsOk Tryd.prog 106 = true := by kernel_rfl
@[go_sem] theorem fo106_0 : fieldOf Tryd.prog 106 0 = some ⟨104, 0, 1, false⟩ := by kernel_rfl
@[go_sem] theorem fo106_1 : fieldOf Tryd.prog 106 1 = some ⟨105, 1, 1, false⟩ := by kernel_rfl
@[go_sem] theorem fo106_2 : fieldOf Tryd.prog 106 2 = some ⟨9, 2, 1, false⟩ := by kernel_rfl
@[go_sem] theorem fo106_3 : fieldOf Tryd.prog 106 3 = some ⟨9, 3, 1, false⟩ := by kernel_rfl
@[go_sem] theorem fo106_4 : fieldOf Tryd.prog 106 4 = some ⟨9, 4, 1, false⟩ := by kernel_rfl
@[go_sem] theorem fo106_5 : fieldOf Tryd.prog 106 5 = some ⟨76, 5, 1, false⟩ := by kernel_rfl
@[go_sem] theorem fo106_6 : fieldOf Tryd.prog 106 6 = some ⟨79, 6, 1, false⟩ := by kernel_rfl
@[go_sem] theorem fo106_7 : fieldOf Tryd.prog 106 7 = some ⟨9, 7, 1, false⟩ := by kernel_rfl
@[go_sem] theorem fo106_8 : fieldOf Tryd.prog 106 8 = some ⟨9, 8, 1, false⟩ := by kernel_rfl
@[go_sem] theorem fo106_9 : fieldOf Tryd.prog 106 9 = some ⟨9, 9, 1, false⟩ := by kernel_rfl
@[go_sem] theorem fo106_10 : fieldOf Tryd.prog 106 10 = some ⟨3, 10, 1, false⟩ := by kernel_rfl
@[go_sem] theorem fo106_11 : fieldOf Tryd.prog 106 11 = some ⟨3, 11, 1, false⟩ := by kernel_rfl
@[go_sem] theorem ti107 : tinfo Tryd.prog 107 = some ⟨.struct [(104, 0), (105, 1), (9, 2), (9, 3), (9, 4), (76, 5), (79, 6), (9, 7), (9, 8), (9, 9), (3, 10), (3, 11)], 12, 152, (some (.agg #[.int .u32 0, .int .u32 0, .string ⟨#[]⟩, .string ⟨#[]⟩, .string ⟨#[]⟩, .pointer none, .slice none 0 0, .string ⟨#[]⟩, .string ⟨#[]⟩, .string ⟨#[]⟩, .int .i64 0, .int .i64 0]))⟩ := by kernel_rfl
@[go_sem] theorem fk107 : fieldsOk Tryd.prog 107 = true := by kernel_rfl
@[go_sem] theorem fo107_0 : fieldOf Tryd.prog 107 0 = some ⟨104, 0, 1, false⟩ := by kernel_rfl
@[go_sem] theorem fo107_1 : fieldOf Tryd.prog 107 1 = some ⟨105, 1, 1, false⟩ := by kernel_rfl
@[go_sem] theorem fo107_2 : fieldOf Tryd.prog 107 2 = some ⟨9, 2, 1, false⟩ := by kernel_rfl
@[go_sem] theorem fo107_3 : fieldOf Tryd.prog 107 3 = some ⟨9, 3, 1, false⟩ := by kernel_rfl
@[go_sem] theorem fo107_4 : fieldOf Tryd.prog 107 4 = some ⟨9, 4, 1, false⟩ := by kernel_rfl
@[go_sem] theorem fo107_5 : fieldOf Tryd.prog 107 5 = some ⟨76, 5, 1, false⟩ := by kernel_rfl
@[go_sem] theorem fo107_6 : fieldOf Tryd.prog 107 6 = some ⟨79, 6, 1, false⟩ := by kernel_rfl
@[go_sem] theorem fo107_7 : fieldOf Tryd.prog 107 7 = some ⟨9, 7, 1, false⟩ := by kernel_rfl
@[go_sem] theorem fo107_8 : fieldOf Tryd.prog 107 8 = some ⟨9, 8, 1, false⟩ := by kernel_rfl
@[go_sem] theorem fo107_9 : fieldOf Tryd.prog 107 9 = some ⟨9, 9, 1, false⟩ := by kernel_rfl
@[go_sem] theorem fo107_10 : fieldOf Tryd.prog 107 10 = some ⟨3, 10, 1, false⟩ := by kernel_rfl
@[go_sem] theorem fo107_11 : fieldOf Tryd.prog 107 11 = some ⟨3, 11, 1, false⟩ := by kernel_rfl
@[go_sem] theorem ti108 : tinfo Tryd.prog 108 = some ⟨.map 9 111, 1, 8, (some (.map none))⟩ := by kernel_rfl
@[go_sem] theorem ti109 : tinfo Tryd.prog 109 = some ⟨.map 9 20, 1, 8, (some (.map none))⟩ := by kernel_rfl
@[go_sem] theorem ti110 : tinfo Tryd.prog 110 = some ⟨.struct [(41, 0), (81, 1), (108, 2), (81, 3), (109, 4)], 5, 56, (some (.agg #[.slice none 0 0, .pointer none, .map none, .pointer none, .map none]))⟩ := by kernel_rfl
@[go_sem] theorem fk110 : fieldsOk Tryd.prog 110 = true := by kernel_rfl
@[go_sem] theorem fo110_0 : fieldOf Tryd.prog 110 0 = some ⟨41, 0, 1, false⟩ := by kernel_rfl
@[go_sem] theorem fo110_1 : fieldOf Tryd.prog 110 1 = some ⟨81, 1, 1, false⟩ := by kernel_rfl
@[go_sem] theorem fo110_2 : fieldOf Tryd.prog 110 2 = some ⟨108, 2, 1, false⟩ := by kernel_rfl
@[go_sem] theorem fo110_3 : fieldOf Tryd.prog 110 3 = some ⟨81, 3, 1, false⟩ := by kernel_rfl
@[go_sem] theorem fo110_4 : fieldOf Tryd.prog 110 4 = some ⟨109, 4, 1, false⟩ := by kernel_rfl
@[go_sem] theorem ti111 : tinfo Tryd.prog 111 = some ⟨.struct [(41, 0), (81, 1), (108, 2), (81, 3), (109, 4)], 5, 56, (some (.agg #[.slice none 0 0, .pointer none, .map none, .pointer none, .map none]))⟩ := by kernel_rfl
@[go_sem] theorem fk111 : fieldsOk Tryd.prog 111 = true := by kernel_rfl
@[go_sem] theorem fo111_0 : fieldOf Tryd.prog 111 0 = some ⟨41, 0, 1, false⟩ := by kernel_rfl
@[go_sem] theorem fo111_1 : fieldOf Tryd.prog 111 1 = some ⟨81, 1, 1, false⟩ := by kernel_rfl
@[go_sem] theorem fo111_2 : fieldOf Tryd.prog 111 2 = some ⟨108, 2, 1, false⟩ := by kernel_rfl
@[go_sem] theorem fo111_3 : fieldOf Tryd.prog 111 3 = some ⟨81, 3, 1, false⟩ := by kernel_rfl
@[go_sem] theorem fo111_4 : fieldOf Tryd.prog 111 4 = some ⟨109, 4, 1, false⟩ := by kernel_rfl
@[go_sem] theorem ti112 : tinfo Tryd.prog 112 = some ⟨.slice 20, 1, 24, (some (.slice none 0 0))⟩ := by kernel_rfl
@[go_sem] theorem ti114 : tinfo Tryd.prog 114 = some ⟨.func, 1, 8, (some (.nilFunc))⟩ := by kernel_rfl
@[go_sem] theorem ti115 : tinfo Tryd.prog 115 = some ⟨.func, 1, 8, (some (.nilFunc))⟩ := by kernel_rfl
@[go_sem] theorem ti116 : tinfo Tryd.prog 116 = some ⟨.func, 1, 8, (some (.nilFunc))⟩ := by kernel_rfl
@[go_sem] theorem ti118 : tinfo Tryd.prog 118 = some ⟨.func, 1, 8, (some (.nilFunc))⟩ := by kernel_rfl
@[go_sem] theorem ti120 : tinfo Tryd.prog 120 = some ⟨.func, 1, 8, (some (.nilFunc))⟩ := by kernel_rfl
@[go_sem] theorem ti121 : tinfo Tryd.prog 121 = some ⟨.func, 1, 8, (some (.nilFunc))⟩ := by kernel_rfl
@[go_sem] theorem ti122 : tinfo Tryd.prog 122 = some ⟨.func, 1, 8, (some (.nilFunc))⟩ := by kernel_rfl
@[go_sem] theorem ti123 : tinfo Tryd.prog 123 = some ⟨.struct [(58, 0), (58, 1)], 2, 16, (some (.agg #[.pointer none, .pointer none]))⟩ := by kernel_rfl
@[go_sem] theorem fk123 : fieldsOk Tryd.prog 123 = true := by kernel_rfl
@[go_sem] theorem fo123_0 : fieldOf Tryd.prog 123 0 = some ⟨58, 0, 1, false⟩ := by kernel_rfl
@[go_sem] theorem fo123_1 : fieldOf Tryd.prog 123 1 = some ⟨58, 1, 1, false⟩ := by kernel_rfl
@[go_sem] theorem ti124 : tinfo Tryd.prog 124 = some ⟨.struct [(58, 0), (58, 1)], 2, 16, (some (.agg #[.pointer none, .pointer none]))⟩ := by kernel_rfl
@[go_sem] theorem fk124 : fieldsOk Tryd.prog 124 = true := by kernel_rfl
@[go_sem] theorem fo124_0 : fieldOf Tryd.prog 124 0 = some ⟨58, 0, 1, false⟩ := by kernel_rfl
@[go_sem] theorem fo124_1 : fieldOf Tryd.prog 124 1 = some ⟨58, 1, 1, false⟩ := by kernel_rfl
@[go_sem] theorem ti125 : tinfo Tryd.prog 125 = some ⟨.func, 1, 8, (some (.nilFunc))⟩ := by kernel_rfl
@[go_sem] theorem ti127 : tinfo Tryd.prog 127 = some ⟨.func, 1, 8, (some (.nilFunc))⟩ := by kernel_rfl
@[go_sem] theorem ti128 : tinfo Tryd.prog 128 = some ⟨.func, 1, 8, (some (.nilFunc))⟩ := by kernel_rfl
@[go_sem] theorem ti129 : tinfo Tryd.prog 129 = some ⟨.func, 1, 8, (some (.nilFunc))⟩ := by kernel_rfl
@[go_sem] theorem ti130 : tinfo Tryd.prog 130 = some ⟨.func, 1, 8, (some (.nilFunc))⟩ := by kernel_rfl
@[go_sem] theorem ti131 : tinfo Tryd.prog 131 = some ⟨.map 9 4, 1, 8, (some (.map none))⟩ := by kernel_rfl
@[go_sem] theorem ti133 : tinfo Tryd.prog 133 = some ⟨.int .u64, 1, 8, (some (.int .u64 0))⟩ := by kernel_rfl
@[go_sem] theorem ti134 : tinfo Tryd.prog 134 = some ⟨.struct [(5, 0), (5, 1)], 2, 2, (some (.agg #[.int .u8 0, .int .u8 0]))⟩ := by kernel_rfl
@[go_sem] theorem fk134 : fieldsOk Tryd.prog 134 = true := by kernel_rfl
@[go_sem] theorem fo134_0 : fieldOf Tryd.prog 134 0 = some ⟨5, 0, 1, false⟩ := by kernel_rfl
@[go_sem] theorem fo134_1 : fieldOf Tryd.prog 134 1 = some ⟨5, 1, 1, false⟩ := by kernel_rfl
@[go_sem] theorem ti135 : tinfo Tryd.prog 135 = some ⟨.struct [(5, 0), (5, 1)], 2, 2, (some (.agg #[.int .u8 0, .int .u8 0]))⟩ := by kernel_rfl
@[go_sem] theorem fk135 : fieldsOk Tryd.prog 135 = true := by kernel_rfl
@[go_sem] theorem fo135_0 : fieldOf Tryd.prog 135 0 = some ⟨5, 0, 1, false⟩ := by kernel_rfl
@[go_sem] theorem fo135_1 : fieldOf Tryd.prog 135 1 = some ⟨5, 1, 1, false⟩ := by kernel_rfl
@[go_sem] theorem ti136 : tinfo Tryd.prog 136 = some ⟨.array 16 135, 32, 32, (some (.agg #[.int .u8 0, .int .u8 0, .int .u8 0, .int .u8 0, .int .u8 0, .int .u8 0, .int .u8 0, .int .u8 0, .int .u8 0, .int .u8 0, .int .u8 0, .int .u8 0, .int .u8 0, .int .u8 0, .int .u8 0, .int .u8 0, .int .u8 0, .int .u8 0, .int .u8 0, .int .u8 0, .int .u8 0, .int .u8 0, .int .u8 0, .int .u8 0, .int .u8 0, .int .u8 0, .int .u8 0, .int .u8 0, .int .u8 0, .int .u8 0, .int .u8 0, .int .u8 0]))⟩ := by kernel_rfl
@[go_sem] theorem ti137 : tinfo Tryd.prog 137 = some ⟨.pointer 139, 1, 8, (some (.pointer none))⟩ := by kernel_rfl
@[go_sem] theorem ti138 : tinfo Tryd.prog 138 = some ⟨.struct [(9, 0)], 1, 16, (some (.agg #[.string ⟨#[]⟩]))⟩ := by kernel_rfl
@[go_sem] theorem fk138 : fieldsOk Tryd.prog 138 = true := by kernel_rfl
@[go_sem] theorem fo138_0 : fieldOf Tryd.prog 138 0 = some ⟨9, 0, 1, false⟩ := by kernel_rfl
@[go_sem] theorem ti139 : tinfo Tryd.prog 139 = some ⟨.struct [(9, 0)], 1, 16, (some (.agg #[.string ⟨#[]⟩]))⟩ := by kernel_rfl
@[go_sem] theorem fk139 : fieldsOk Tryd.prog 139 = true := by kernel_rfl
@[go_sem] theorem fo139_0 : fieldOf Tryd.prog 139 0 = some ⟨9, 0, 1, false⟩ := by kernel_rfl
@[go_sem] theorem ti140 : tinfo Tryd.prog 140 = some ⟨.struct [(17, 0), (17, 1), (17, 2), (9, 3)], 4, 40, (some (.agg #[.pointer none, .pointer none, .pointer none, .string ⟨#[]⟩]))⟩ := by kernel_rfl
@[go_sem] theorem fk140 : fieldsOk Tryd.prog 140 = true := by kernel_rfl
@[go_sem] theorem fo140_0 : fieldOf Tryd.prog 140 0 = some ⟨17, 0, 1, false⟩ := by kernel_rfl
@[go_sem] theorem fo140_1 : fieldOf Tryd.prog 140 1 = some ⟨17, 1, 1, false⟩ := by kernel_rfl
@[go_sem] theorem fo140_2 : fieldOf Tryd.prog 140 2 = some ⟨17, 2, 1, false⟩ := by kernel_rfl
@[go_sem] theorem fo140_3 : fieldOf Tryd.prog 140 3 = some ⟨9, 3, 1, false⟩ := by kernel_rfl
@[go_sem] theorem ti141 : tinfo Tryd.prog 141 = some ⟨.struct [(17, 0), (17, 1), (17, 2), (9, 3)], 4, 40, (some (.agg #[.pointer none, .pointer none, .pointer none, .string ⟨#[]⟩]))⟩ := by kernel_rfl
@[go_sem] theorem fk141 : fieldsOk Tryd.prog 141 = true := by kernel_rfl
@[go_sem] theorem fo141_0 : fieldOf Tryd.prog 141 0 = some ⟨17, 0, 1, false⟩ := by kernel_rfl
@[go_sem] theorem fo141_1 : fieldOf Tryd.prog 141 1 = some ⟨17, 1, 1, false⟩ := by kernel_rfl
@[go_sem] theorem fo141_2 : fieldOf Tryd.prog 141 2 = some ⟨17, 2, 1, false⟩ := by kernel_rfl
@[go_sem] theorem fo141_3 : fieldOf Tryd.prog 141 3 = some ⟨9, 3, 1, false⟩ := by kernel_rfl
@[go_sem] theorem ti142 : tinfo Tryd.prog 142 = some ⟨.array 0 16, 0, 0, (some (.agg #[]))⟩ := by kernel_rfl
@[go_sem] theorem ti143 : tinfo Tryd.prog 143 = some ⟨.struct [(142, 0)], 0, 0, (some (.agg #[]))⟩ := by kernel_rfl
@[go_sem] theorem fk143 : fieldsOk Tryd.prog 143 = true := by kernel_rfl
@[go_sem] theorem fo143_0 : fieldOf Tryd.prog 143 0 = some ⟨142, 0, 0, true⟩ := by kernel_rfl
@[go_sem] theorem ti144 : tinfo Tryd.prog 144 = some ⟨.struct [(142, 0)], 0, 0, (some (.agg #[]))⟩ := by kernel_rfl
@[go_sem] theorem fk144 : fieldsOk Tryd.prog 144 = true := by kernel_rfl
@[go_sem] theorem fo144_0 : fieldOf Tryd.prog 144 0 = some ⟨142, 0, 0, true⟩ := by kernel_rfl
@[go_sem] theorem ti145 : tinfo Tryd.prog 145 = some ⟨.func, 1, 8, (some (.nilFunc))⟩ := by kernel_rfl
@[go_sem] theorem ti146 : tinfo Tryd.prog 146 = some ⟨.int .u8, 1, 1, (some (.int .u8 0))⟩ := by kernel_rfl
@[go_sem] theorem ti147 : tinfo Tryd.prog 147 = some ⟨.int .u8, 1, 1, (some (.int .u8 0))⟩ := by kernel_rfl
@[go_sem] theorem ti148 : tinfo Tryd.prog 148 = some ⟨.func, 1, 8, (some (.nilFunc))⟩ := by kernel_rfl
@[go_sem] theorem ti149 : tinfo Tryd.prog 149 = some ⟨.pointer 5, 1, 8, (some (.pointer none))⟩ := by kernel_rfl
@[go_sem] theorem ti150 : tinfo Tryd.prog 150 = some ⟨.int .i32, 1, 4, (some (.int .i32 0))⟩ := by kernel_rfl
@[go_sem] theorem ti151 : tinfo Tryd.prog 151 = some ⟨.int .i32, 1, 4, (some (.int .i32 0))⟩ := by kernel_rfl
@[go_sem] theorem ti152 : tinfo Tryd.prog 152 = some ⟨.struct [(12, 0), (12, 1), (103, 2), (146, 3), (5, 4), (5, 5), (147, 6), (148, 7), (149, 8), (150, 9), (151, 10)], 11, 48, (some (.agg #[.int .u64 0, .int .u64 0, .int .u32 0, .int .u8 0, .int .u8 0, .int .u8 0, .int .u8 0, .nilFunc, .pointer none, .int .i32 0, .int .i32 0]))⟩ := by kernel_rfl
@[go_sem] theorem fk152 : fieldsOk Tryd.prog 152 = true := by kernel_rfl
@[go_sem] theorem fo152_0 : fieldOf Tryd.prog 152 0 = some ⟨12, 0, 1, false⟩ := by kernel_rfl
@[go_sem] theorem fo152_1 : fieldOf Tryd.prog 152 1 = some ⟨12, 1, 1, false⟩ := by kernel_rfl
@[go_sem] theorem fo152_2 : fieldOf Tryd.prog 152 2 = some ⟨103, 2, 1, false⟩ := by kernel_rfl
@[go_sem] theorem fo152_3 : fieldOf Tryd.prog 152 3 = some ⟨146, 3, 1, false⟩ := by kernel_rfl
@[go_sem] theorem fo152_4 : fieldOf Tryd.prog 152 4 = some ⟨5, 4, 1, false⟩ := by kernel_rfl
@[go_sem] theorem fo152_5 : fieldOf Tryd.prog 152 5 = some ⟨5, 5, 1, false⟩ := by kernel_rfl
@[go_sem] theorem fo152_6 : fieldOf Tryd.prog 152 6 = some ⟨147, 6, 1, false⟩ := by kernel_rfl
@[go_sem] theorem fo152_7 : fieldOf Tryd.prog 152 7 = some ⟨148, 7, 1, false⟩ := by kernel_rfl
@[go_sem] theorem fo152_8 : fieldOf Tryd.prog 152 8 = some ⟨149, 8, 1, false⟩ := by kernel_rfl
@[go_sem] theorem fo152_9 : fieldOf Tryd.prog 152 9 = some ⟨150, 9, 1, false⟩ := by kernel_rfl
@[go_sem] theorem fo152_10 : fieldOf Tryd.prog 152 10 = some ⟨151, 10, 1, false⟩ := by kernel_rfl
@[go_sem] theorem ti153 : tinfo Tryd.prog 153 = some ⟨.struct [(12, 0), (12, 1), (103, 2), (146, 3), (5, 4), (5, 5), (147, 6), (148, 7), (149, 8), (150, 9), (151, 10)], 11, 48, (some (.agg #[.int .u64 0, .int .u64 0, .int .u32 0, .int .u8 0, .int .u8 0, .int .u8 0, .int .u8 0, .nilFunc, .pointer none, .int .i32 0, .int .i32 0]))⟩ := by kernel_rfl
@[go_sem] theorem fk153 : fieldsOk Tryd.prog 153 = true := by kernel_rfl
@[go_sem] theorem fo153_0 : fieldOf Tryd.prog 153 0 = some ⟨12, 0, 1, false⟩ := by kernel_rfl
@[go_sem] theorem fo153_1 : fieldOf Tryd.prog 153 1 = some ⟨12, 1, 1, false⟩ := by kernel_rfl
@[go_sem] theorem fo153_2 : fieldOf Tryd.prog 153 2 = some ⟨103, 2, 1, false⟩ := by kernel_rfl
@[go_sem] theorem fo153_3 : fieldOf Tryd.prog 153 3 = some ⟨146, 3, 1, false⟩ := by kernel_rfl
@[go_sem] theorem fo153_4 : fieldOf Tryd.prog 153 4 = some ⟨5, 4, 1, false⟩ := by kernel_rfl
@[go_sem] theorem fo153_5 : fieldOf Tryd.prog 153 5 = some ⟨5, 5, 1, false⟩ := by kernel_rfl
@[go_sem] theorem fo153_6 : fieldOf Tryd.prog 153 6 = some ⟨147, 6, 1, false⟩ := by kernel_rfl
@[go_sem] theorem fo153_7 : fieldOf Tryd.prog 153 7 = some ⟨148, 7, 1, false⟩ := by kernel_rfl
@[go_sem] theorem fo153_8 : fieldOf Tryd.prog 153 8 = some ⟨149, 8, 1, false⟩ := by kernel_rfl
@[go_sem] theorem fo153_9 : fieldOf Tryd.prog 153 9 = some ⟨150, 9, 1, false⟩ := by kernel_rfl
@[go_sem] theorem fo153_10 : fieldOf Tryd.prog 153 10 = some ⟨151, 10, 1, false⟩ := by kernel_rfl
@[go_sem] theorem ti154 : tinfo Tryd.prog 154 = some ⟨.func, 1, 8, (some (.nilFunc))⟩ := by kernel_rfl
@[go_sem] theorem ti155 : tinfo Tryd.prog 155 = some ⟨.other, 1, 8, (some (.pointer none))⟩ := by kernel_rfl
@[go_sem] theorem gf2 : goodFn Tryd.prog 2 = true := by kernel_rfl
@[go_sem] theorem gf3 : goodFn Tryd.prog 3 = true := by kernel_rfl
@[go_sem] theorem gf4 : goodFn Tryd.prog 4 = true := by kernel_rfl
@[go_sem] theorem gf5 : goodFn Tryd.prog 5 = true := by kernel_rfl
@[go_sem] theorem gf6 : goodFn Tryd.prog 6 = true := by kernel_rfl
@[go_sem] theorem gf7 : goodFn Tryd.prog 7 = true := by kernel_rfl
@[go_sem] theorem gf8 : goodFn Tryd.prog 8 = true := by kernel_rfl
@[go_sem] theorem gf9 : goodFn Tryd.prog 9 = true := by kernel_rfl
@[go_sem] theorem gf10 : goodFn Tryd.prog 10 = true := by kernel_rfl
@[go_sem] theorem gf11 : goodFn Tryd.prog 11 = true := by kernel_rfl
@[go_sem] theorem gf12 : goodFn Tryd.prog 12 = true := by kernel_rfl
@[go_sem] theorem gf13 : goodFn Tryd.prog 13 = true := by kernel_rfl
@[go_sem] theorem gf14 : goodFn Tryd.prog 14 = true := by kernel_rfl
@[go_sem] theorem gf15 : goodFn Tryd.prog 15 = true := by kernel_rfl
@[go_sem] theorem gf16 : goodFn Tryd.prog 16 = true := by kernel_rfl
@[go_sem] theorem gf17 : goodFn Tryd.prog 17 = true := by kernel_rfl
@[go_sem] theorem gf18 : goodFn Tryd.prog 18 = true := by kernel_rfl
@[go_sem] theorem gf19 : goodFn Tryd.prog 19 = true := by kernel_rfl
@[go_sem] theorem gf20 : goodFn Tryd.prog 20 = true := by kernel_rfl
@[go_sem] theorem gf21 : goodFn Tryd.prog 21 = true := by kernel_rfl
@[go_sem] theorem gf22 : goodFn Tryd.prog 22 = true := by kernel_rfl
@[go_sem] theorem gf23 : goodFn Tryd.prog 23 = true := by kernel_rfl
@[go_sem] theorem gf24 : goodFn Tryd.prog 24 = true := by kernel_rfl
@[go_sem] theorem gf25 : goodFn Tryd.prog 25 = true := by kernel_rfl
@[go_sem] theorem gf26 : goodFn Tryd.prog 26 = true := by kernel_rfl
@[go_sem] theorem gf27 : goodFn Tryd.prog 27 = true := by kernel_rfl
@[go_sem] theorem gf28 : goodFn Tryd.prog 28 = true := by kernel_rfl
@[go_sem] theorem gf29 : goodFn Tryd.prog 29 = true := by kernel_rfl
@[go_sem] theorem gf30 : goodFn Tryd.prog 30 = true := by kernel_rfl
@[go_sem] theorem gf31 : goodFn Tryd.prog 31 = true := by kernel_rfl
@[go_sem] theorem gf32 : goodFn Tryd.prog 32 = true := by kernel_rfl
@[go_sem] theorem gf33 : goodFn Tryd.prog 33 = true := by kernel_rfl
@[go_sem] theorem gf34 : goodFn Tryd.prog 34 = true := by kernel_rfl
@[go_sem] theorem gf35 : goodFn Tryd.prog 35 = true := by kernel_rfl
@[go_sem] theorem gf36 : goodFn Tryd.prog 36 = true := by kernel_rfl
@[go_sem] theorem gf37 : goodFn Tryd.prog 37 = true := by kernel_rfl
@[go_sem] theorem gf38 : goodFn Tryd.prog 38 = true := by kernel_rfl
@[go_sem] theorem gf39 : goodFn Tryd.prog 39 = true := by kernel_rfl
@[go_sem] theorem gf40 : goodFn Tryd.prog 40 = true := by kernel_rfl
@[go_sem] theorem gf41 : goodFn Tryd.prog 41 = true := by kernel_rfl
@[go_sem] theorem gf42 : goodFn Tryd.prog 42 = true := by kernel_rfl
@[go_sem] theorem gf43 : goodFn Tryd.prog 43 = true := by kernel_rfl
@[go_sem] theorem gf44 : goodFn Tryd.prog 44 = true := by kernel_rfl
@[go_sem] theorem gf45 : goodFn Tryd.prog 45 = true := by kernel_rfl
@[go_sem] theorem gf46 : goodFn Tryd.prog 46 = true := by kernel_rfl
@[go_sem] theorem gf47 : goodFn Tryd.prog 47 = true := by kernel_rfl
@[go_sem] theorem gf48 : goodFn Tryd.prog 48 = true := by kernel_rfl
@[go_sem] theorem gf49 : goodFn Tryd.prog 49 = true := by kernel_rfl
@[go_sem] theorem gf50 : goodFn Tryd.prog 50 = true := by kernel_rfl
@[go_sem] theorem gf51 : goodFn Tryd.prog 51 = true := by kernel_rfl
@[go_sem] theorem gf52 : goodFn Tryd.prog 52 = true := by kernel_rfl
@[go_sem] theorem gf53 : goodFn Tryd.prog 53 = true := by kernel_rfl
@[go_sem] theorem gf54 : goodFn Tryd.prog 54 = true := by kernel_rfl
@[go_sem] theorem gf55 : goodFn Tryd.prog 55 = true := by kernel_rfl
@[go_sem] theorem gf56 : goodFn Tryd.prog 56 = true := by kernel_rfl
@[go_sem] theorem gf57 : goodFn Tryd.prog 57 = true := by kernel_rfl
@[go_sem] theorem gf58 : goodFn Tryd.prog 58 = true := by kernel_rfl
@[go_sem] theorem gf59 : goodFn Tryd.prog 59 = true := by kernel_rfl
@[go_sem] theorem gf60 : goodFn Tryd.prog 60 = true := by kernel_rfl
@[go_sem] theorem gf61 : goodFn Tryd.prog 61 = true := by kernel_rfl
@[go_sem] theorem gf62 : goodFn Tryd.prog 62 = true := by kernel_rfl
@[go_sem] theorem gf63 : goodFn Tryd.prog 63 = true := by kernel_rfl
@[go_sem] theorem gf64 : goodFn Tryd.prog 64 = true := by kernel_rfl
@[go_sem] theorem gf65 : goodFn Tryd.prog 65 = true := by kernel_rfl
@[go_sem] theorem gf93 : goodFn Tryd.prog 93 = true := by kernel_rfl
theorem mixed : Tryd.prog.follows .mixedOrders = true := by kernel_rfl
end Go.Proofs.YthjbgpmcfcijgaaDoorV
