/- What is known of the types of this program, by its own tables. -/
import Derived.Test.YtcficphbjicneaaDoorProg
import Derived.Test.YtcficphbjicneaaDoorV4
namespace Go.Proofs.YtcficphbjicneaaDoorV
set_option maxRecDepth 100000
@[go_sem] theorem ti1 : tinfo Tryd.prog 1 = some ⟨.func, 1, 8, (some (.nilFunc))⟩ := by kernel_rfl
@[go_sem] theorem ti2 : tinfo Tryd.prog 2 = some ⟨.int .i64, 1, 8, (some (.int .i64 0))⟩ := by kernel_rfl
@[go_sem] theorem ti3 : tinfo Tryd.prog 3 = some ⟨.int .i64, 1, 8, (some (.int .i64 0))⟩ := by kernel_rfl
@[go_sem] theorem ti4 : tinfo Tryd.prog 4 = some ⟨.bool, 1, 1, (some (.bool false))⟩ := by kernel_rfl
@[go_sem] theorem ti5 : tinfo Tryd.prog 5 = some ⟨.int .u8, 1, 1, (some (.int .u8 0))⟩ := by kernel_rfl
@[go_sem] theorem ti6 : tinfo Tryd.prog 6 = some ⟨.int .u8, 1, 1, (some (.int .u8 0))⟩ := by kernel_rfl
@[go_sem] theorem ti7 : tinfo Tryd.prog 7 = some ⟨.struct [(2, 0), (3, 1), (4, 2), (6, 3)], 4, 24, (some (.agg #[.int .i64 0, .int .i64 0, .bool false, .int .u8 0]))⟩ := by kernel_rfl
@[go_sem] theorem fk7 : fieldsOk Tryd.prog 7 = true := by kernel_rfl
@[go_sem] theorem fo7_0 : fieldOf Tryd.prog 7 0 = some ⟨2, 0, 1, false⟩ := by kernel_rfl
@[go_sem] theorem fo7_1 : fieldOf Tryd.prog 7 1 = some ⟨3, 1, 1, false⟩ := by kernel_rfl
@[go_sem] theorem fo7_2 : fieldOf Tryd.prog 7 2 = some ⟨4, 2, 1, false⟩ := by kernel_rfl
@[go_sem] theorem fo7_3 : fieldOf Tryd.prog 7 3 = some ⟨6, 3, 1, false⟩ := by kernel_rfl
@[go_sem] theorem ti8 : tinfo Tryd.prog 8 = some ⟨.struct [(2, 0), (3, 1), (4, 2), (6, 3)], 4, 24, (some (.agg #[.int .i64 0, .int .i64 0, .bool false, .int .u8 0]))⟩ := by kernel_rfl
@[go_sem] theorem fk8 : fieldsOk Tryd.prog 8 = true := by kernel_rfl
@[go_sem] theorem fo8_0 : fieldOf Tryd.prog 8 0 = some ⟨2, 0, 1, false⟩ := by kernel_rfl
@[go_sem] theorem fo8_1 : fieldOf Tryd.prog 8 1 = some ⟨3, 1, 1, false⟩ := by kernel_rfl
@[go_sem] theorem fo8_2 : fieldOf Tryd.prog 8 2 = some ⟨4, 2, 1, false⟩ := by kernel_rfl
@[go_sem] theorem fo8_3 : fieldOf Tryd.prog 8 3 = some ⟨6, 3, 1, false⟩ := by kernel_rfl
@[go_sem] theorem ti9 : tinfo Tryd.prog 9 = some ⟨.string, 1, 16, (some (.string ⟨#[]⟩))⟩ := by kernel_rfl
@[go_sem] theorem ti10 : tinfo Tryd.prog 10 = some ⟨.string, 1, 16, (some (.string ⟨#[]⟩))⟩ := by kernel_rfl
@[go_sem] theorem ti11 : tinfo Tryd.prog 11 = some ⟨.string, 1, 16, (some (.string ⟨#[]⟩))⟩ := by kernel_rfl
@[go_sem] theorem ti12 : tinfo Tryd.prog 12 = some ⟨.int .u64, 1, 8, (some (.int .u64 0))⟩ := by kernel_rfl
@[go_sem] theorem ti13 : tinfo Tryd.prog 13 = some ⟨.struct [(9, 0), (12, 1)], 2, 24, (some (.agg #[.string ⟨#[]⟩, .int .u64 0]))⟩ := by kernel_rfl
@[go_sem] theorem fk13 : fieldsOk Tryd.prog 13 = true := by kernel_rfl
@[go_sem] theorem fo13_0 : fieldOf Tryd.prog 13 0 = some ⟨9, 0, 1, false⟩ := by kernel_rfl
@[go_sem] theorem fo13_1 : fieldOf Tryd.prog 13 1 = some ⟨12, 1, 1, false⟩ := by kernel_rfl
@[go_sem] theorem ti14 : tinfo Tryd.prog 14 = some ⟨.struct [(9, 0), (12, 1)], 2, 24, (some (.agg #[.string ⟨#[]⟩, .int .u64 0]))⟩ := by kernel_rfl
@[go_sem] theorem fk14 : fieldsOk Tryd.prog 14 = true := by kernel_rfl
@[go_sem] theorem fo14_0 : fieldOf Tryd.prog 14 0 = some ⟨9, 0, 1, false⟩ := by kernel_rfl
@[go_sem] theorem fo14_1 : fieldOf Tryd.prog 14 1 = some ⟨12, 1, 1, false⟩ := by kernel_rfl
@[go_sem] theorem ti15 : tinfo Tryd.prog 15 = some ⟨.pointer 97, 1, 8, (some (.pointer none))⟩ := by kernel_rfl
@[go_sem] theorem ti16 : tinfo Tryd.prog 16 = some ⟨.pointer 100, 1, 8, (some (.pointer none))⟩ := by kernel_rfl
@[go_sem] theorem ti17 : tinfo Tryd.prog 17 = some ⟨.pointer 109, 1, 8, (some (.pointer none))⟩ := by kernel_rfl
@[go_sem] theorem ti18 : tinfo Tryd.prog 18 = some ⟨.struct [(17, 0)], 1, 8, (some (.agg #[.pointer none]))⟩ := by kernel_rfl
@[go_sem] theorem fk18 : fieldsOk Tryd.prog 18 = true := by kernel_rfl
@[go_sem] theorem fo18_0 : fieldOf Tryd.prog 18 0 = some ⟨17, 0, 1, false⟩ := by kernel_rfl
@[go_sem] theorem ti19 : tinfo Tryd.prog 19 = some ⟨.struct [(17, 0)], 1, 8, (some (.agg #[.pointer none]))⟩ := by kernel_rfl
@[go_sem] theorem fk19 : fieldsOk Tryd.prog 19 = true := by kernel_rfl
@[go_sem] theorem fo19_0 : fieldOf Tryd.prog 19 0 = some ⟨17, 0, 1, false⟩ := by kernel_rfl
@[go_sem] theorem ti20 : tinfo Tryd.prog 20 = some ⟨.iface [], 1, 16, (some (.nilIface))⟩ := by kernel_rfl
@[go_sem] theorem ti21 : tinfo Tryd.prog 21 = some ⟨.int .i32, 1, 4, (some (.int .i32 0))⟩ := by kernel_rfl
@[go_sem] theorem ti22 : tinfo Tryd.prog 22 = some ⟨.struct [(9, 0), (9, 1), (9, 2), (9, 3), (9, 4)], 5, 80, (some (.agg #[.string ⟨#[]⟩, .string ⟨#[]⟩, .string ⟨#[]⟩, .string ⟨#[]⟩, .string ⟨#[]⟩]))⟩ := by kernel_rfl
@[go_sem] theorem fk22 : fieldsOk Tryd.prog 22 = true := by kernel_rfl
@[go_sem] theorem fo22_0 : fieldOf Tryd.prog 22 0 = some ⟨9, 0, 1, false⟩ := by kernel_rfl
@[go_sem] theorem fo22_1 : fieldOf Tryd.prog 22 1 = some ⟨9, 1, 1, false⟩ := by kernel_rfl
@[go_sem] theorem fo22_2 : fieldOf Tryd.prog 22 2 = some ⟨9, 2, 1, false⟩ := by kernel_rfl
@[go_sem] theorem fo22_3 : fieldOf Tryd.prog 22 3 = some ⟨9, 3, 1, false⟩ := by kernel_rfl
@[go_sem] theorem fo22_4 : fieldOf Tryd.prog 22 4 = some ⟨9, 4, 1, false⟩ := by kernel_rfl
@[go_sem] theorem ti23 : tinfo Tryd.prog 23 = some ⟨.struct [(9, 0), (9, 1), (9, 2), (9, 3), (9, 4)], 5, 80, (some (.agg #[.string ⟨#[]⟩, .string ⟨#[]⟩, .string ⟨#[]⟩, .string ⟨#[]⟩, .string ⟨#[]⟩]))⟩ := by kernel_rfl
@[go_sem] theorem fk23 : fieldsOk Tryd.prog 23 = true := by kernel_rfl
@[go_sem] theorem fo23_0 : fieldOf Tryd.prog 23 0 = some ⟨9, 0, 1, false⟩ := by kernel_rfl
@[go_sem] theorem fo23_1 : fieldOf Tryd.prog 23 1 = some ⟨9, 1, 1, false⟩ := by kernel_rfl
@[go_sem] theorem fo23_2 : fieldOf Tryd.prog 23 2 = some ⟨9, 2, 1, false⟩ := by kernel_rfl
@[go_sem] theorem fo23_3 : fieldOf Tryd.prog 23 3 = some ⟨9, 3, 1, false⟩ := by kernel_rfl
@[go_sem] theorem fo23_4 : fieldOf Tryd.prog 23 4 = some ⟨9, 4, 1, false⟩ := by kernel_rfl
@[go_sem] theorem ti24 : tinfo Tryd.prog 24 = some ⟨.func, 1, 8, (some (.nilFunc))⟩ := by kernel_rfl
@[go_sem] theorem ti25 : tinfo Tryd.prog 25 = some ⟨.func, 1, 8, (some (.nilFunc))⟩ := by kernel_rfl
@[go_sem] theorem ti27 : tinfo Tryd.prog 27 = some ⟨.func, 1, 8, (some (.nilFunc))⟩ := by kernel_rfl
@[go_sem] theorem ti28 : tinfo Tryd.prog 28 = some ⟨.func, 1, 8, (some (.nilFunc))⟩ := by kernel_rfl
@[go_sem] theorem ti29 : tinfo Tryd.prog 29 = some ⟨.func, 1, 8, (some (.nilFunc))⟩ := by kernel_rfl
@[go_sem] theorem ti30 : tinfo Tryd.prog 30 = some ⟨.func, 1, 8, (some (.nilFunc))⟩ := by kernel_rfl
@[go_sem] theorem ti31 : tinfo Tryd.prog 31 = some ⟨.func, 1, 8, (some (.nilFunc))⟩ := by kernel_rfl
@[go_sem] theorem ti33 : tinfo Tryd.prog 33 = some ⟨.func, 1, 8, (some (.nilFunc))⟩ := by kernel_rfl
@[go_sem] theorem ti34 : tinfo Tryd.prog 34 = some ⟨.slice 53, 1, 24, (some (.slice none 0 0))⟩ := by kernel_rfl
@[go_sem] theorem ti36 : tinfo Tryd.prog 36 = some ⟨.func, 1, 8, (some (.nilFunc))⟩ := by kernel_rfl
@[go_sem] theorem ti37 : tinfo Tryd.prog 37 = some ⟨.func, 1, 8, (some (.nilFunc))⟩ := by kernel_rfl
@[go_sem] theorem ti38 : tinfo Tryd.prog 38 = some ⟨.func, 1, 8, (some (.nilFunc))⟩ := by kernel_rfl
@[go_sem] theorem ti39 : tinfo Tryd.prog 39 = some ⟨.func, 1, 8, (some (.nilFunc))⟩ := by kernel_rfl
@[go_sem] theorem ti40 : tinfo Tryd.prog 40 = some ⟨.struct [(9, 0), (9, 1), (9, 2), (4, 3)], 4, 56, (some (.agg #[.string ⟨#[]⟩, .string ⟨#[]⟩, .string ⟨#[]⟩, .bool false]))⟩ := by kernel_rfl
@[go_sem] theorem fk40 : fieldsOk Tryd.prog 40 = true := by kernel_rfl
@[go_sem] theorem fo40_0 : fieldOf Tryd.prog 40 0 = some ⟨9, 0, 1, false⟩ := by kernel_rfl
@[go_sem] theorem fo40_1 : fieldOf Tryd.prog 40 1 = some ⟨9, 1, 1, false⟩ := by kernel_rfl
@[go_sem] theorem fo40_2 : fieldOf Tryd.prog 40 2 = some ⟨9, 2, 1, false⟩ := by kernel_rfl
@[go_sem] theorem fo40_3 : fieldOf Tryd.prog 40 3 = some ⟨4, 3, 1, false⟩ := by kernel_rfl
@[go_sem] theorem ti41 : tinfo Tryd.prog 41 = some ⟨.struct [(9, 0), (9, 1), (9, 2), (4, 3)], 4, 56, (some (.agg #[.string ⟨#[]⟩, .string ⟨#[]⟩, .string ⟨#[]⟩, .bool false]))⟩ := by kernel_rfl
@[go_sem] theorem fk41 : fieldsOk Tryd.prog 41 = true := by kernel_rfl
@[go_sem] theorem fo41_0 : fieldOf Tryd.prog 41 0 = some ⟨9, 0, 1, false⟩ := by kernel_rfl
@[go_sem] theorem fo41_1 : fieldOf Tryd.prog 41 1 = some ⟨9, 1, 1, false⟩ := by kernel_rfl
@[go_sem] theorem fo41_2 : fieldOf Tryd.prog 41 2 = some ⟨9, 2, 1, false⟩ := by kernel_rfl
@[go_sem] theorem fo41_3 : fieldOf Tryd.prog 41 3 = some ⟨4, 3, 1, false⟩ := by kernel_rfl
@[go_sem] theorem ti42 : tinfo Tryd.prog 42 = some ⟨.func, 1, 8, (some (.nilFunc))⟩ := by kernel_rfl
@[go_sem] theorem ti43 : tinfo Tryd.prog 43 = some ⟨.func, 1, 8, (some (.nilFunc))⟩ := by kernel_rfl
@[go_sem] theorem ti44 : tinfo Tryd.prog 44 = some ⟨.func, 1, 8, (some (.nilFunc))⟩ := by kernel_rfl
@[go_sem] theorem ti45 : tinfo Tryd.prog 45 = some ⟨.pointer 41, 1, 8, (some (.pointer none))⟩ := by kernel_rfl
@[go_sem] theorem ti46 : tinfo Tryd.prog 46 = some ⟨.iface [("Error", 60)], 1, 16, (some (.nilIface))⟩ := by kernel_rfl
@[go_sem] theorem ti47 : tinfo Tryd.prog 47 = some ⟨.iface [("Error", 60)], 1, 16, (some (.nilIface))⟩ := by kernel_rfl
@[go_sem] theorem ti49 : tinfo Tryd.prog 49 = some ⟨.func, 1, 8, (some (.nilFunc))⟩ := by kernel_rfl
@[go_sem] theorem ti50 : tinfo Tryd.prog 50 = some ⟨.slice 21, 1, 24, (some (.slice none 0 0))⟩ := by kernel_rfl
@[go_sem] theorem ti51 : tinfo Tryd.prog 51 = some ⟨.slice 64, 1, 24, (some (.slice none 0 0))⟩ := by kernel_rfl
@[go_sem] theorem ti52 : tinfo Tryd.prog 52 = some ⟨.struct [(5, 0), (4, 1), (51, 2), (21, 3)], 4, 40, (some (.agg #[.int .u8 0, .bool false, .slice none 0 0, .int .i32 0]))⟩ := by kernel_rfl
@[go_sem] theorem fk52 : fieldsOk Tryd.prog 52 = true := by kernel_rfl
@[go_sem] theorem fo52_0 : fieldOf Tryd.prog 52 0 = some ⟨5, 0, 1, false⟩ := by kernel_rfl
@[go_sem] theorem fo52_1 : fieldOf Tryd.prog 52 1 = some ⟨4, 1, 1, false⟩ := by kernel_rfl
@[go_sem] theorem fo52_2 : fieldOf Tryd.prog 52 2 = some ⟨51, 2, 1, false⟩ := by kernel_rfl
@[go_sem] theorem fo52_3 : fieldOf Tryd.prog 52 3 = some ⟨21, 3, 1, false⟩ := by kernel_rfl
@[go_sem] theorem ti53 : tinfo Tryd.prog 53 = some ⟨.struct [(5, 0), (4, 1), (51, 2), (21, 3)], 4, 40, (some (.agg #[.int .u8 0, .bool false, .slice none 0 0, .int .i32 0]))⟩ := by kernel_rfl
@[go_sem] theorem fk53 : fieldsOk Tryd.prog 53 = true := by kernel_rfl
@[go_sem] theorem fo53_0 : fieldOf Tryd.prog 53 0 = some ⟨5, 0, 1, false⟩ := by kernel_rfl
@[go_sem] theorem fo53_1 : fieldOf Tryd.prog 53 1 = some ⟨4, 1, 1, false⟩ := by kernel_rfl
@[go_sem] theorem fo53_2 : fieldOf Tryd.prog 53 2 = some ⟨51, 2, 1, false⟩ := by kernel_rfl
@[go_sem] theorem fo53_3 : fieldOf Tryd.prog 53 3 = some ⟨21, 3, 1, false⟩ := by kernel_rfl
@[go_sem] theorem ti55 : tinfo Tryd.prog 55 = some ⟨.func, 1, 8, (some (.nilFunc))⟩ := by kernel_rfl
@[go_sem] theorem ti56 : tinfo Tryd.prog 56 = some ⟨.slice 4, 1, 24, (some (.slice none 0 0))⟩ := by kernel_rfl
@[go_sem] theorem ti57 : tinfo Tryd.prog 57 = some ⟨.func, 1, 8, (some (.nilFunc))⟩ := by kernel_rfl
@[go_sem] theorem ti58 : tinfo Tryd.prog 58 = some ⟨.slice 5, 1, 24, (some (.slice none 0 0))⟩ := by kernel_rfl
@[go_sem] theorem ti59 : tinfo Tryd.prog 59 = some ⟨.func, 1, 8, (some (.nilFunc))⟩ := by kernel_rfl
@[go_sem] theorem ti60 : tinfo Tryd.prog 60 = some ⟨.func, 1, 8, (some (.nilFunc))⟩ := by kernel_rfl
@[go_sem] theorem ti62 : tinfo Tryd.prog 62 = some ⟨.func, 1, 8, (some (.nilFunc))⟩ := by kernel_rfl
@[go_sem] theorem ti63 : tinfo Tryd.prog 63 = some ⟨.struct [(21, 0), (21, 1)], 2, 8, (some (.agg #[.int .i32 0, .int .i32 0]))⟩ := by kernel_rfl
@[go_sem] theorem fk63 : fieldsOk Tryd.prog 63 = true := by kernel_rfl
@[go_sem] theorem fo63_0 : fieldOf Tryd.prog 63 0 = some ⟨21, 0, 1, false⟩ := by kernel_rfl
@[go_sem] theorem fo63_1 : fieldOf Tryd.prog 63 1 = some ⟨21, 1, 1, false⟩ := by kernel_rfl
@[go_sem] theorem ti64 : tinfo Tryd.prog 64 = some ⟨.struct [(21, 0), (21, 1)], 2, 8, (some (.agg #[.int .i32 0, .int .i32 0]))⟩ := by kernel_rfl
@[go_sem] theorem fk64 : fieldsOk Tryd.prog 64 = true := by kernel_rfl
@[go_sem] theorem fo64_0 : fieldOf Tryd.prog 64 0 = some ⟨21, 0, 1, false⟩ := by kernel_rfl
@[go_sem] theorem fo64_1 : fieldOf Tryd.prog 64 1 = some ⟨21, 1, 1, false⟩ := by kernel_rfl
@[go_sem] theorem ti65 : tinfo Tryd.prog 65 = some ⟨.slice 9, 1, 24, (some (.slice none 0 0))⟩ := by kernel_rfl
@[go_sem] theorem ti66 : tinfo Tryd.prog 66 = some ⟨.func, 1, 8, (some (.nilFunc))⟩ := by kernel_rfl
@[go_sem] theorem ti68 : tinfo Tryd.prog 68 = some ⟨.func, 1, 8, (some (.nilFunc))⟩ := by kernel_rfl
@[go_sem] theorem ti69 : tinfo Tryd.prog 69 = some ⟨.func, 1, 8, (some (.nilFunc))⟩ := by kernel_rfl
@[go_sem] theorem ti71 : tinfo Tryd.prog 71 = some ⟨.func, 1, 8, (some (.nilFunc))⟩ := by kernel_rfl
@[go_sem] theorem ti72 : tinfo Tryd.prog 72 = some ⟨.pointer 74, 1, 8, (some (.pointer none))⟩ := by kernel_rfl
@[go_sem] theorem ti73 : tinfo Tryd.prog 73 = some ⟨.struct [(72, 0), (58, 1)], 2, 32, (some (.agg #[.pointer none, .slice none 0 0]))⟩ := by kernel_rfl
@[go_sem] theorem fk73 : fieldsOk Tryd.prog 73 = true := by kernel_rfl
@[go_sem] theorem fo73_0 : fieldOf Tryd.prog 73 0 = some ⟨72, 0, 1, false⟩ := by kernel_rfl
@[go_sem] theorem fo73_1 : fieldOf Tryd.prog 73 1 = some ⟨58, 1, 1, false⟩ := by kernel_rfl
@[go_sem] theorem ti74 : tinfo Tryd.prog 74 = some ⟨.struct [(72, 0), (58, 1)], 2, 32, (some (.agg #[.pointer none, .slice none 0 0]))⟩ := by kernel_rfl
@[go_sem] theorem fk74 : fieldsOk Tryd.prog 74 = true := by kernel_rfl
@[go_sem] theorem fo74_0 : fieldOf Tryd.prog 74 0 = some ⟨72, 0, 1, false⟩ := by kernel_rfl
@[go_sem] theorem fo74_1 : fieldOf Tryd.prog 74 1 = some ⟨58, 1, 1, false⟩ := by kernel_rfl
@[go_sem] theorem ti75 : tinfo Tryd.prog 75 = some ⟨.func, 1, 8, (some (.nilFunc))⟩ := by kernel_rfl
@[go_sem] theorem ti77 : tinfo Tryd.prog 77 = some ⟨.func, 1, 8, (some (.nilFunc))⟩ := by kernel_rfl
@[go_sem] theorem ti79 : tinfo Tryd.prog 79 = some ⟨.func, 1, 8, (some (.nilFunc))⟩ := by kernel_rfl
@[go_sem] theorem ti81 : tinfo Tryd.prog 81 = some ⟨.func, 1, 8, (some (.nilFunc))⟩ := by kernel_rfl
@[go_sem] theorem ti82 : tinfo Tryd.prog 82 = some ⟨.func, 1, 8, (some (.nilFunc))⟩ := by kernel_rfl
@[go_sem] theorem ti83 : tinfo Tryd.prog 83 = some ⟨.pointer 5, 1, 8, (some (.pointer none))⟩ := by kernel_rfl
@[go_sem] theorem ti84 : tinfo Tryd.prog 84 = some ⟨.func, 1, 8, (some (.nilFunc))⟩ := by kernel_rfl
@[go_sem] theorem ti85 : tinfo Tryd.prog 85 = some ⟨.other, 1, 8, (some (.pointer none))⟩ := by kernel_rfl
@[go_sem] theorem ti86 : tinfo Tryd.prog 86 = some ⟨.func, 1, 8, (some (.nilFunc))⟩ := by kernel_rfl
@[go_sem] theorem ti87 : tinfo Tryd.prog 87 = some ⟨.func, 1, 8, (some (.nilFunc))⟩ := by kernel_rfl
@[go_sem] theorem ti89 : tinfo Tryd.prog 89 = some ⟨.int .u64, 1, 8, (some (.int .u64 0))⟩ := by kernel_rfl
@[go_sem] theorem ti90 : tinfo Tryd.prog 90 = some ⟨.struct [(5, 0), (5, 1)], 2, 2, (some (.agg #[.int .u8 0, .int .u8 0]))⟩ := by kernel_rfl
@[go_sem] theorem fk90 : fieldsOk Tryd.prog 90 = true := by kernel_rfl
@[go_sem] theorem fo90_0 : fieldOf Tryd.prog 90 0 = some ⟨5, 0, 1, false⟩ := by kernel_rfl
@[go_sem] theorem fo90_1 : fieldOf Tryd.prog 90 1 = some ⟨5, 1, 1, false⟩ := by kernel_rfl
@[go_sem] theorem ti91 : tinfo Tryd.prog 91 = some ⟨.struct [(5, 0), (5, 1)], 2, 2, (some (.agg #[.int .u8 0, .int .u8 0]))⟩ := by kernel_rfl
@[go_sem] theorem fk91 : fieldsOk Tryd.prog 91 = true := by kernel_rfl
@[go_sem] theorem fo91_0 : fieldOf Tryd.prog 91 0 = some ⟨5, 0, 1, false⟩ := by kernel_rfl
@[go_sem] theorem fo91_1 : fieldOf Tryd.prog 91 1 = some ⟨5, 1, 1, false⟩ := by kernel_rfl
@[go_sem] theorem ti92 : tinfo Tryd.prog 92 = some ⟨.array 16 91, 32, 32, (some (.agg #[.int .u8 0, .int .u8 0, .int .u8 0, .int .u8 0, .int .u8 0, .int .u8 0, .int .u8 0, .int .u8 0, .int .u8 0, .int .u8 0, .int .u8 0, .int .u8 0, .int .u8 0, .int .u8 0, .int .u8 0, .int .u8 0, .int .u8 0, .int .u8 0, .int .u8 0, .int .u8 0, .int .u8 0, .int .u8 0, .int .u8 0, .int .u8 0, .int .u8 0, .int .u8 0, .int .u8 0, .int .u8 0, .int .u8 0, .int .u8 0, .int .u8 0, .int .u8 0]))⟩ := by kernel_rfl
@[go_sem] theorem ti93 : tinfo Tryd.prog 93 = some ⟨.pointer 95, 1, 8, (some (.pointer none))⟩ := by kernel_rfl
@[go_sem] theorem ti94 : tinfo Tryd.prog 94 = some ⟨.struct [(9, 0)], 1, 16, (some (.agg #[.string ⟨#[]⟩]))⟩ := by kernel_rfl
@[go_sem] theorem fk94 : fieldsOk Tryd.prog 94 = true := by kernel_rfl
@[go_sem] theorem fo94_0 : fieldOf Tryd.prog 94 0 = some ⟨9, 0, 1, false⟩ := by kernel_rfl
@[go_sem] theorem ti95 : tinfo Tryd.prog 95 = some ⟨.struct [(9, 0)], 1, 16, (some (.agg #[.string ⟨#[]⟩]))⟩ := by kernel_rfl
@[go_sem] theorem fk95 : fieldsOk Tryd.prog 95 = true := by kernel_rfl
@[go_sem] theorem fo95_0 : fieldOf Tryd.prog 95 0 = some ⟨9, 0, 1, false⟩ := by kernel_rfl
@[go_sem] theorem ti96 : tinfo Tryd.prog 96 = some ⟨.struct [(17, 0), (17, 1), (17, 2), (9, 3)], 4, 40, (some (.agg #[.pointer none, .pointer none, .pointer none, .string ⟨#[]⟩]))⟩ := by kernel_rfl
@[go_sem] theorem fk96 : fieldsOk Tryd.prog 96 = true := by kernel_rfl
@[go_sem] theorem fo96_0 : fieldOf Tryd.prog 96 0 = some ⟨17, 0, 1, false⟩ := by kernel_rfl
@[go_sem] theorem fo96_1 : fieldOf Tryd.prog 96 1 = some ⟨17, 1, 1, false⟩ := by kernel_rfl
@[go_sem] theorem fo96_2 : fieldOf Tryd.prog 96 2 = some ⟨17, 2, 1, false⟩ := by kernel_rfl
@[go_sem] theorem fo96_3 : fieldOf Tryd.prog 96 3 = some ⟨9, 3, 1, false⟩ := by kernel_rfl
@[go_sem] theorem ti97 : tinfo Tryd.prog 97 = some ⟨.struct [(17, 0), (17, 1), (17, 2), (9, 3)], 4, 40, (some (.agg #[.pointer none, .pointer none, .pointer none, .string ⟨#[]⟩]))⟩ := by kernel_rfl
@[go_sem] theorem fk97 : fieldsOk Tryd.prog 97 = true := by kernel_rfl
@[go_sem] theorem fo97_0 : fieldOf Tryd.prog 97 0 = some ⟨17, 0, 1, false⟩ := by kernel_rfl
@[go_sem] theorem fo97_1 : fieldOf Tryd.prog 97 1 = some ⟨17, 1, 1, false⟩ := by kernel_rfl
@[go_sem] theorem fo97_2 : fieldOf Tryd.prog 97 2 = some ⟨17, 2, 1, false⟩ := by kernel_rfl
@[go_sem] theorem fo97_3 : fieldOf Tryd.prog 97 3 = some ⟨9, 3, 1, false⟩ := by kernel_rfl
@[go_sem] theorem ti98 : tinfo Tryd.prog 98 = some ⟨.array 0 16, 0, 0, (some (.agg #[]))⟩ := by kernel_rfl
@[go_sem] theorem ti99 : tinfo Tryd.prog 99 = some ⟨.struct [(98, 0)], 0, 0, (some (.agg #[]))⟩ := by kernel_rfl
@[go_sem] theorem fk99 : fieldsOk Tryd.prog 99 = true := by kernel_rfl
@[go_sem] theorem fo99_0 : fieldOf Tryd.prog 99 0 = some ⟨98, 0, 0, true⟩ := by kernel_rfl
@[go_sem] theorem ti100 : tinfo Tryd.prog 100 = some ⟨.struct [(98, 0)], 0, 0, (some (.agg #[]))⟩ := by kernel_rfl
@[go_sem] theorem fk100 : fieldsOk Tryd.prog 100 = true := by kernel_rfl
@[go_sem] theorem fo100_0 : fieldOf Tryd.prog 100 0 = some ⟨98, 0, 0, true⟩ := by kernel_rfl
@[go_sem] theorem ti101 : tinfo Tryd.prog 101 = some ⟨.func, 1, 8, (some (.nilFunc))⟩ := by kernel_rfl
@[go_sem] theorem ti102 : tinfo Tryd.prog 102 = some ⟨.int .u32, 1, 4, (some (.int .u32 0))⟩ := by kernel_rfl
@[go_sem] theorem ti103 : tinfo Tryd.prog 103 = some ⟨.int .u8, 1, 1, (some (.int .u8 0))⟩ := by kernel_rfl
@[go_sem] theorem ti104 : tinfo Tryd.prog 104 = some ⟨.int .u8, 1, 1, (some (.int .u8 0))⟩ := by kernel_rfl
@[go_sem] theorem ti105 : tinfo Tryd.prog 105 = some ⟨.func, 1, 8, (some (.nilFunc))⟩ := by kernel_rfl
@[go_sem] theorem ti106 : tinfo Tryd.prog 106 = some ⟨.int .i32, 1, 4, (some (.int .i32 0))⟩ := by kernel_rfl
@[go_sem] theorem ti107 : tinfo Tryd.prog 107 = some ⟨.int .i32, 1, 4, (some (.int .i32 0))⟩ := by kernel_rfl
@[go_sem] theorem ti108 : tinfo Tryd.prog 108 = some ⟨.struct [(12, 0), (12, 1), (102, 2), (103, 3), (5, 4), (5, 5), (104, 6), (105, 7), (83, 8), (106, 9), (107, 10)], 11, 48, (some (.agg #[.int .u64 0, .int .u64 0, .int .u32 0, .int .u8 0, .int .u8 0, .int .u8 0, .int .u8 0, .nilFunc, .pointer none, .int .i32 0, .int .i32 0]))⟩ := by kernel_rfl
@[go_sem] theorem fk108 : fieldsOk Tryd.prog 108 = true := by kernel_rfl
@[go_sem] theorem fo108_0 : fieldOf Tryd.prog 108 0 = some ⟨12, 0, 1, false⟩ := by kernel_rfl
@[go_sem] theorem fo108_1 : fieldOf Tryd.prog 108 1 = some ⟨12, 1, 1, false⟩ := by kernel_rfl
@[go_sem] theorem fo108_2 : fieldOf Tryd.prog 108 2 = some ⟨102, 2, 1, false⟩ := by kernel_rfl
@[go_sem] theorem fo108_3 : fieldOf Tryd.prog 108 3 = some ⟨103, 3, 1, false⟩ := by kernel_rfl
@[go_sem] theorem fo108_4 : fieldOf Tryd.prog 108 4 = some ⟨5, 4, 1, false⟩ := by kernel_rfl
@[go_sem] theorem fo108_5 : fieldOf Tryd.prog 108 5 = some ⟨5, 5, 1, false⟩ := by kernel_rfl
@[go_sem] theorem fo108_6 : fieldOf Tryd.prog 108 6 = some ⟨104, 6, 1, false⟩ := by kernel_rfl
@[go_sem] theorem fo108_7 : fieldOf Tryd.prog 108 7 = some ⟨105, 7, 1, false⟩ := by kernel_rfl
@[go_sem] theorem fo108_8 : fieldOf Tryd.prog 108 8 = some ⟨83, 8, 1, false⟩ := by kernel_rfl
@[go_sem] theorem fo108_9 : fieldOf Tryd.prog 108 9 = some ⟨106, 9, 1, false⟩ := by kernel_rfl
@[go_sem] theorem fo108_10 : fieldOf Tryd.prog 108 10 = some ⟨107, 10, 1, false⟩ := by kernel_rfl
@[go_sem] theorem ti109 : tinfo Tryd.prog 109 = some ⟨.struct [(12, 0), (12, 1), (102, 2), (103, 3), (5, 4), (5, 5), (104, 6), (105, 7), (83, 8), (106, 9), (107, 10)], 11, 48, (some (.agg #[.int .u64 0, .int .u64 0, .int .u32 0, .int .u8 0, .int .u8 0, .int .u8 0, .int .u8 0, .nilFunc, .pointer none, .int .i32 0, .int .i32 0]))⟩ := by kernel_rfl
@[go_sem] theorem fk109 : fieldsOk Tryd.prog 109 = true := by kernel_rfl
@[go_sem] theorem fo109_0 : fieldOf Tryd.prog 109 0 = some ⟨12, 0, 1, false⟩ := by kernel_rfl
@[go_sem] theorem fo109_1 : fieldOf Tryd.prog 109 1 = some ⟨12, 1, 1, false⟩ := by kernel_rfl
@[go_sem] theorem fo109_2 : fieldOf Tryd.prog 109 2 = some ⟨102, 2, 1, false⟩ := by kernel_rfl
@[go_sem] theorem fo109_3 : fieldOf Tryd.prog 109 3 = some ⟨103, 3, 1, false⟩ := by kernel_rfl
@[go_sem] theorem fo109_4 : fieldOf Tryd.prog 109 4 = some ⟨5, 4, 1, false⟩ := by kernel_rfl
@[go_sem] theorem fo109_5 : fieldOf Tryd.prog 109 5 = some ⟨5, 5, 1, false⟩ := by kernel_rfl
@[go_sem] theorem fo109_6 : fieldOf Tryd.prog 109 6 = some ⟨104, 6, 1, false⟩ := by kernel_rfl
@[go_sem] theorem fo109_7 : fieldOf Tryd.prog 109 7 = some ⟨105, 7, 1, false⟩ := by kernel_rfl
@[go_sem] theorem fo109_8 : fieldOf Tryd.prog 109 8 = some ⟨83, 8, 1, false⟩ := by kernel_rfl
@[go_sem] theorem fo109_9 : fieldOf Tryd.prog 109 9 = some ⟨106, 9, 1, false⟩ := by kernel_rfl
@[go_sem] theorem fo109_10 : fieldOf Tryd.prog 109 10 = some ⟨107, 10, 1, false⟩ := by kernel_rfl
@[go_sem] theorem gf2 : goodFn Tryd.prog 2 = true := by kernel_rfl
@[go_sem] theorem gf3 : goodFn Tryd.prog 3 = true := by kernel_rfl
@[go_sem] theorem gf4 : goodFn Tryd.prog 4 = true := by kernel_rfl
@[go_sem] theorem gf5 : goodFn Tryd.prog 5 = true := by kernel_rfl
@[go_sem] theorem gf6 : goodFn Tryd.prog 6 = true := by kernel_rfl
@[go_sem] theorem gf7 : goodFn Tryd.prog 7 = true := by kernel_rfl
@[go_sem] theorem gf8 : goodFn Tryd.prog 8 = true := by kernel_rfl
@[go_sem] theorem gf9 : goodFn Tryd.prog 9 = true := by kernel_rfl
@[go_sem] theorem gf10 : goodFn Tryd.prog 10 = true := by kernel_rfl
@[go_sem] theorem gf11 : goodFn Tryd.prog 11 = true := by kernel_rfl
@[go_sem] theorem gf12 : goodFn Tryd.prog 12 = true := by kernel_rfl
@[go_sem] theorem gf13 : goodFn Tryd.prog 13 = true := by kernel_rfl
@[go_sem] theorem gf14 : goodFn Tryd.prog 14 = true := by kernel_rfl
@[go_sem] theorem gf15 : goodFn Tryd.prog 15 = true := by kernel_rfl
@[go_sem] theorem gf16 : goodFn Tryd.prog 16 = true := by kernel_rfl
@[go_sem] theorem gf17 : goodFn Tryd.prog 17 = true := by kernel_rfl
@[go_sem] theorem gf18 : goodFn Tryd.prog 18 = true := by kernel_rfl
@[go_sem] theorem gf19 : goodFn Tryd.prog 19 = true := by kernel_rfl
@[go_sem] theorem gf20 : goodFn Tryd.prog 20 = true := by kernel_rfl
@[go_sem] theorem gf21 : goodFn Tryd.prog 21 = true := by kernel_rfl
@[go_sem] theorem gf22 : goodFn Tryd.prog 22 = true := by kernel_rfl
@[go_sem] theorem gf23 : goodFn Tryd.prog 23 = true := by kernel_rfl
@[go_sem] theorem gf24 : goodFn Tryd.prog 24 = true := by kernel_rfl
@[go_sem] theorem gf25 : goodFn Tryd.prog 25 = true := by kernel_rfl
@[go_sem] theorem gf26 : goodFn Tryd.prog 26 = true := by kernel_rfl
@[go_sem] theorem gf27 : goodFn Tryd.prog 27 = true := by kernel_rfl
@[go_sem] theorem gf28 : goodFn Tryd.prog 28 = true := by kernel_rfl
@[go_sem] theorem gf29 : goodFn Tryd.prog 29 = true := by kernel_rfl
@[go_sem] theorem gf30 : goodFn Tryd.prog 30 = true := by kernel_rfl
@[go_sem] theorem gf31 : goodFn Tryd.prog 31 = true := by kernel_rfl
@[go_sem] theorem gf32 : goodFn Tryd.prog 32 = true := by kernel_rfl
@[go_sem] theorem gf33 : goodFn Tryd.prog 33 = true := by kernel_rfl
@[go_sem] theorem gf34 : goodFn Tryd.prog 34 = true := by kernel_rfl
@[go_sem] theorem gf35 : goodFn Tryd.prog 35 = true := by kernel_rfl
@[go_sem] theorem gf36 : goodFn Tryd.prog 36 = true := by kernel_rfl
@[go_sem] theorem gf37 : goodFn Tryd.prog 37 = true := by kernel_rfl
@[go_sem] theorem gf38 : goodFn Tryd.prog 38 = true := by kernel_rfl
@[go_sem] theorem gf39 : goodFn Tryd.prog 39 = true := by kernel_rfl
@[go_sem] theorem gf40 : goodFn Tryd.prog 40 = true := by kernel_rfl
@[go_sem] theorem gf69 : goodFn Tryd.prog 69 = true := by kernel_rfl
theorem mixed : Tryd.prog.follows .mixedOrders = true := by kernel_rfl
end Go.Proofs.YtcficphbjicneaaDoorV
