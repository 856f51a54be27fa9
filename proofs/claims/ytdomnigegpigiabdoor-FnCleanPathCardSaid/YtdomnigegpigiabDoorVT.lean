/- What is known of the types of this program, by its own tables. -/
import Derived.Test.YtdomnigegpigiabDoorProg
import Derived.Test.YtdomnigegpigiabDoorV4
namespace Go.Proofs.YtdomnigegpigiabDoorV
set_option maxRecDepth 100000
@[go_sem] theorem ti1 : tinfo Tryd.prog 1 = some ⟨.func, 1, 8, (some (.nilFunc))⟩ := by kernel_rfl
@[go_sem] theorem ti2 : tinfo Tryd.prog 2 = some ⟨.int .i64, 1, 8, (some (.int .i64 0))⟩ := by kernel_rfl
@[go_sem] theorem ti3 : tinfo Tryd.prog 3 = some ⟨.int .i64, 1, 8, (some (.int .i64 0))⟩ := by kernel_rfl
@[go_sem] theorem ti4 : tinfo Tryd.prog 4 = some ⟨.bool, 1, 1, (some (.bool false))⟩ := by kernel_rfl
@[go_sem] theorem ti5 : tinfo Tryd.prog 5 = some ⟨.int .u8, 1, 1, (some (.int .u8 0))⟩ := by kernel_rfl
@[go_sem] theorem ti6 : tinfo Tryd.prog 6 = some ⟨.int .u8, 1, 1, (some (.int .u8 0))⟩ := by kernel_rfl
@[go_sem] theorem ti7 : tinfo Tryd.prog 7 = some ⟨.struct [(2, 0), (3, 1), (4, 2), (6, 3)], 4, 24, (some (.agg #[.int .i64 0, .int .i64 0, .bool false, .int .u8 0]))⟩ := by kernel_rfl
@[go_sem] theorem fk7 : fieldsOk Tryd.prog 7 = true := by kernel_rfl
@[go_sem] theorem fo7_0 : fieldOf Tryd.prog 7 0 = some ⟨2, 0, 1, false⟩ := by kernel_rfl
@[go_sem] theorem fo7_1 : fieldOf Tryd.prog 7 1 = some ⟨3, 1, 1, false⟩ := by kernel_rfl
@[go_sem] theorem fo7_2 : fieldOf Tryd.prog 7 2 = some ⟨4, 2, 1, false⟩ := by kernel_rfl
@[go_sem] theorem fo7_3 : fieldOf Tryd.prog 7 3 = some ⟨6, 3, 1, false⟩ := by kernel_rfl
@[go_sem] theorem ti8 : tinfo Tryd.prog 8 = some ⟨.struct [(2, 0), (3, 1), (4, 2), (6, 3)], 4, 24, (some (.agg #[.int .i64 0, .int .i64 0, .bool false, .int .u8 0]))⟩ := by kernel_rfl
@[go_sem] theorem fk8 : fieldsOk Tryd.prog 8 = true := by kernel_rfl
@[go_sem] theorem fo8_0 : fieldOf Tryd.prog 8 0 = some ⟨2, 0, 1, false⟩ := by kernel_rfl
@[go_sem] theorem fo8_1 : fieldOf Tryd.prog 8 1 = some ⟨3, 1, 1, false⟩ := by kernel_rfl
@[go_sem] theorem fo8_2 : fieldOf Tryd.prog 8 2 = some ⟨4, 2, 1, false⟩ := by kernel_rfl
@[go_sem] theorem fo8_3 : fieldOf Tryd.prog 8 3 = some ⟨6, 3, 1, false⟩ := by kernel_rfl
@[go_sem] theorem ti9 : tinfo Tryd.prog 9 = some ⟨.string, 1, 16, (some (.string ⟨#[]⟩))⟩ := by kernel_rfl
@[go_sem] theorem ti10 : tinfo Tryd.prog 10 = some ⟨.string, 1, 16, (some (.string ⟨#[]⟩))⟩ := by kernel_rfl
@[go_sem] theorem ti11 : tinfo Tryd.prog 11 = some ⟨.string, 1, 16, (some (.string ⟨#[]⟩))⟩ := by kernel_rfl
@[go_sem] theorem ti12 : tinfo Tryd.prog 12 = some ⟨.int .u64, 1, 8, (some (.int .u64 0))⟩ := by kernel_rfl
@[go_sem] theorem ti13 : tinfo Tryd.prog 13 = some ⟨.struct [(9, 0), (12, 1)], 2, 24, (some (.agg #[.string ⟨#[]⟩, .int .u64 0]))⟩ := by kernel_rfl
@[go_sem] theorem fk13 : fieldsOk Tryd.prog 13 = true := by kernel_rfl
@[go_sem] theorem fo13_0 : fieldOf Tryd.prog 13 0 = some ⟨9, 0, 1, false⟩ := by kernel_rfl
@[go_sem] theorem fo13_1 : fieldOf Tryd.prog 13 1 = some ⟨12, 1, 1, false⟩ := by kernel_rfl
@[go_sem] theorem ti14 : tinfo Tryd.prog 14 = some ⟨.struct [(9, 0), (12, 1)], 2, 24, (some (.agg #[.string ⟨#[]⟩, .int .u64 0]))⟩ := by kernel_rfl
@[go_sem] theorem fk14 : fieldsOk Tryd.prog 14 = true := by kernel_rfl
@[go_sem] theorem fo14_0 : fieldOf Tryd.prog 14 0 = some ⟨9, 0, 1, false⟩ := by kernel_rfl
@[go_sem] theorem fo14_1 : fieldOf Tryd.prog 14 1 = some ⟨12, 1, 1, false⟩ := by kernel_rfl
@[go_sem] theorem ti15 : tinfo Tryd.prog 15 = some ⟨.pointer 45, 1, 8, (some (.pointer none))⟩ := by kernel_rfl
@[go_sem] theorem ti16 : tinfo Tryd.prog 16 = some ⟨.pointer 48, 1, 8, (some (.pointer none))⟩ := by kernel_rfl
@[go_sem] theorem ti17 : tinfo Tryd.prog 17 = some ⟨.pointer 58, 1, 8, (some (.pointer none))⟩ := by kernel_rfl
@[go_sem] theorem ti18 : tinfo Tryd.prog 18 = some ⟨.struct [(17, 0)], 1, 8, (some (.agg #[.pointer none]))⟩ := by kernel_rfl
@[go_sem] theorem fk18 : fieldsOk Tryd.prog 18 = true := by kernel_rfl
@[go_sem] theorem fo18_0 : fieldOf Tryd.prog 18 0 = some ⟨17, 0, 1, false⟩ := by kernel_rfl
@[go_sem] theorem ti19 : tinfo Tryd.prog 19 = some ⟨.struct [(17, 0)], 1, 8, (some (.agg #[.pointer none]))⟩ := by kernel_rfl
@[go_sem] theorem fk19 : fieldsOk Tryd.prog 19 = true := by kernel_rfl
@[go_sem] theorem fo19_0 : fieldOf Tryd.prog 19 0 = some ⟨17, 0, 1, false⟩ := by kernel_rfl
@[go_sem] theorem ti20 : tinfo Tryd.prog 20 = some ⟨.iface [], 1, 16, (some (.nilIface))⟩ := by kernel_rfl
@[go_sem] theorem ti21 : tinfo Tryd.prog 21 = some ⟨.int .i32, 1, 4, (some (.int .i32 0))⟩ := by kernel_rfl
@[go_sem] theorem ti22 : tinfo Tryd.prog 22 = some ⟨.func, 1, 8, (some (.nilFunc))⟩ := by kernel_rfl
@[go_sem] theorem ti23 : tinfo Tryd.prog 23 = some ⟨.slice 9, 1, 24, (some (.slice none 0 0))⟩ := by kernel_rfl
@[go_sem] theorem ti24 : tinfo Tryd.prog 24 = some ⟨.func, 1, 8, (some (.nilFunc))⟩ := by kernel_rfl
@[go_sem] theorem ti25 : tinfo Tryd.prog 25 = some ⟨.func, 1, 8, (some (.nilFunc))⟩ := by kernel_rfl
@[go_sem] theorem ti26 : tinfo Tryd.prog 26 = some ⟨.slice 5, 1, 24, (some (.slice none 0 0))⟩ := by kernel_rfl
@[go_sem] theorem ti27 : tinfo Tryd.prog 27 = some ⟨.func, 1, 8, (some (.nilFunc))⟩ := by kernel_rfl
@[go_sem] theorem ti28 : tinfo Tryd.prog 28 = some ⟨.func, 1, 8, (some (.nilFunc))⟩ := by kernel_rfl
@[go_sem] theorem ti29 : tinfo Tryd.prog 29 = some ⟨.iface [("Error", 43)], 1, 16, (some (.nilIface))⟩ := by kernel_rfl
@[go_sem] theorem ti30 : tinfo Tryd.prog 30 = some ⟨.iface [("Error", 43)], 1, 16, (some (.nilIface))⟩ := by kernel_rfl
@[go_sem] theorem ti31 : tinfo Tryd.prog 31 = some ⟨.func, 1, 8, (some (.nilFunc))⟩ := by kernel_rfl
@[go_sem] theorem ti32 : tinfo Tryd.prog 32 = some ⟨.func, 1, 8, (some (.nilFunc))⟩ := by kernel_rfl
@[go_sem] theorem ti34 : tinfo Tryd.prog 34 = some ⟨.func, 1, 8, (some (.nilFunc))⟩ := by kernel_rfl
@[go_sem] theorem ti35 : tinfo Tryd.prog 35 = some ⟨.func, 1, 8, (some (.nilFunc))⟩ := by kernel_rfl
@[go_sem] theorem ti36 : tinfo Tryd.prog 36 = some ⟨.func, 1, 8, (some (.nilFunc))⟩ := by kernel_rfl
@[go_sem] theorem ti38 : tinfo Tryd.prog 38 = some ⟨.int .u64, 1, 8, (some (.int .u64 0))⟩ := by kernel_rfl
@[go_sem] theorem ti39 : tinfo Tryd.prog 39 = some ⟨.struct [(5, 0), (5, 1)], 2, 2, (some (.agg #[.int .u8 0, .int .u8 0]))⟩ := by kernel_rfl
@[go_sem] theorem fk39 : fieldsOk Tryd.prog 39 = true := by kernel_rfl
@[go_sem] theorem fo39_0 : fieldOf Tryd.prog 39 0 = some ⟨5, 0, 1, false⟩ := by kernel_rfl
@[go_sem] theorem fo39_1 : fieldOf Tryd.prog 39 1 = some ⟨5, 1, 1, false⟩ := by kernel_rfl
@[go_sem] theorem ti40 : tinfo Tryd.prog 40 = some ⟨.struct [(5, 0), (5, 1)], 2, 2, (some (.agg #[.int .u8 0, .int .u8 0]))⟩ := by kernel_rfl
@[go_sem] theorem fk40 : fieldsOk Tryd.prog 40 = true := by kernel_rfl
@[go_sem] theorem fo40_0 : fieldOf Tryd.prog 40 0 = some ⟨5, 0, 1, false⟩ := by kernel_rfl
@[go_sem] theorem fo40_1 : fieldOf Tryd.prog 40 1 = some ⟨5, 1, 1, false⟩ := by kernel_rfl
@[go_sem] theorem ti41 : tinfo Tryd.prog 41 = some ⟨.array 16 40, 32, 32, (some (.agg #[.int .u8 0, .int .u8 0, .int .u8 0, .int .u8 0, .int .u8 0, .int .u8 0, .int .u8 0, .int .u8 0, .int .u8 0, .int .u8 0, .int .u8 0, .int .u8 0, .int .u8 0, .int .u8 0, .int .u8 0, .int .u8 0, .int .u8 0, .int .u8 0, .int .u8 0, .int .u8 0, .int .u8 0, .int .u8 0, .int .u8 0, .int .u8 0, .int .u8 0, .int .u8 0, .int .u8 0, .int .u8 0, .int .u8 0, .int .u8 0, .int .u8 0, .int .u8 0]))⟩ := by kernel_rfl
@[go_sem] theorem ti42 : tinfo Tryd.prog 42 = some ⟨.pointer 60, 1, 8, (some (.pointer none))⟩ := by kernel_rfl
@[go_sem] theorem ti43 : tinfo Tryd.prog 43 = some ⟨.func, 1, 8, (some (.nilFunc))⟩ := by kernel_rfl
@[go_sem] theorem ti44 : tinfo Tryd.prog 44 = some ⟨.struct [(17, 0), (17, 1), (17, 2), (9, 3)], 4, 40, (some (.agg #[.pointer none, .pointer none, .pointer none, .string ⟨#[]⟩]))⟩ := by kernel_rfl
@[go_sem] theorem fk44 : fieldsOk Tryd.prog 44 = true := by kernel_rfl
@[go_sem] theorem fo44_0 : fieldOf Tryd.prog 44 0 = some ⟨17, 0, 1, false⟩ := by kernel_rfl
@[go_sem] theorem fo44_1 : fieldOf Tryd.prog 44 1 = some ⟨17, 1, 1, false⟩ := by kernel_rfl
@[go_sem] theorem fo44_2 : fieldOf Tryd.prog 44 2 = some ⟨17, 2, 1, false⟩ := by kernel_rfl
@[go_sem] theorem fo44_3 : fieldOf Tryd.prog 44 3 = some ⟨9, 3, 1, false⟩ := by kernel_rfl
@[go_sem] theorem ti45 : tinfo Tryd.prog 45 = some ⟨.struct [(17, 0), (17, 1), (17, 2), (9, 3)], 4, 40, (some (.agg #[.pointer none, .pointer none, .pointer none, .string ⟨#[]⟩]))⟩ := by kernel_rfl
@[go_sem] theorem fk45 : fieldsOk Tryd.prog 45 = true := by kernel_rfl
@[go_sem] theorem fo45_0 : fieldOf Tryd.prog 45 0 = some ⟨17, 0, 1, false⟩ := by kernel_rfl
@[go_sem] theorem fo45_1 : fieldOf Tryd.prog 45 1 = some ⟨17, 1, 1, false⟩ := by kernel_rfl
@[go_sem] theorem fo45_2 : fieldOf Tryd.prog 45 2 = some ⟨17, 2, 1, false⟩ := by kernel_rfl
@[go_sem] theorem fo45_3 : fieldOf Tryd.prog 45 3 = some ⟨9, 3, 1, false⟩ := by kernel_rfl
@[go_sem] theorem ti46 : tinfo Tryd.prog 46 = some ⟨.array 0 16, 0, 0, (some (.agg #[]))⟩ := by kernel_rfl
@[go_sem] theorem ti47 : tinfo Tryd.prog 47 = some ⟨.struct [(46, 0)], 0, 0, (some (.agg #[]))⟩ := by kernel_rfl
@[go_sem] theorem fk47 : fieldsOk Tryd.prog 47 = true := by kernel_rfl
@[go_sem] theorem fo47_0 : fieldOf Tryd.prog 47 0 = some ⟨46, 0, 0, true⟩ := by kernel_rfl
@[go_sem] theorem ti48 : tinfo Tryd.prog 48 = some ⟨.struct [(46, 0)], 0, 0, (some (.agg #[]))⟩ := by kernel_rfl
@[go_sem] theorem fk48 : fieldsOk Tryd.prog 48 = true := by kernel_rfl
@[go_sem] theorem fo48_0 : fieldOf Tryd.prog 48 0 = some ⟨46, 0, 0, true⟩ := by kernel_rfl
@[go_sem] theorem ti49 : tinfo Tryd.prog 49 = some ⟨.func, 1, 8, (some (.nilFunc))⟩ := by kernel_rfl
@[go_sem] theorem ti50 : tinfo Tryd.prog 50 = some ⟨.int .u32, 1, 4, (some (.int .u32 0))⟩ := by kernel_rfl
@[go_sem] theorem ti51 : tinfo Tryd.prog 51 = some ⟨.int .u8, 1, 1, (some (.int .u8 0))⟩ := by kernel_rfl
@[go_sem] theorem ti52 : tinfo Tryd.prog 52 = some ⟨.int .u8, 1, 1, (some (.int .u8 0))⟩ := by kernel_rfl
@[go_sem] theorem ti53 : tinfo Tryd.prog 53 = some ⟨.func, 1, 8, (some (.nilFunc))⟩ := by kernel_rfl
@[go_sem] theorem ti54 : tinfo Tryd.prog 54 = some ⟨.pointer 5, 1, 8, (some (.pointer none))⟩ := by kernel_rfl
@[go_sem] theorem ti55 : tinfo Tryd.prog 55 = some ⟨.int .i32, 1, 4, (some (.int .i32 0))⟩ := by kernel_rfl
@[go_sem] theorem ti56 : tinfo Tryd.prog 56 = some ⟨.int .i32, 1, 4, (some (.int .i32 0))⟩ := by kernel_rfl
@[go_sem] theorem ti57 : tinfo Tryd.prog 57 = some ⟨.struct [(12, 0), (12, 1), (50, 2), (51, 3), (5, 4), (5, 5), (52, 6), (53, 7), (54, 8), (55, 9), (56, 10)], 11, 48, (some (.agg #[.int .u64 0, .int .u64 0, .int .u32 0, .int .u8 0, .int .u8 0, .int .u8 0, .int .u8 0, .nilFunc, .pointer none, .int .i32 0, .int .i32 0]))⟩ := by kernel_rfl
@[go_sem] theorem fk57 : fieldsOk Tryd.prog 57 = true := by kernel_rfl
@[go_sem] theorem fo57_0 : fieldOf Tryd.prog 57 0 = some ⟨12, 0, 1, false⟩ := by kernel_rfl
@[go_sem] theorem fo57_1 : fieldOf Tryd.prog 57 1 = some ⟨12, 1, 1, false⟩ := by kernel_rfl
@[go_sem] theorem fo57_2 : fieldOf Tryd.prog 57 2 = some ⟨50, 2, 1, false⟩ := by kernel_rfl
@[go_sem] theorem fo57_3 : fieldOf Tryd.prog 57 3 = some ⟨51, 3, 1, false⟩ := by kernel_rfl
@[go_sem] theorem fo57_4 : fieldOf Tryd.prog 57 4 = some ⟨5, 4, 1, false⟩ := by kernel_rfl
@[go_sem] theorem fo57_5 : fieldOf Tryd.prog 57 5 = some ⟨5, 5, 1, false⟩ := by kernel_rfl
@[go_sem] theorem fo57_6 : fieldOf Tryd.prog 57 6 = some ⟨52, 6, 1, false⟩ := by kernel_rfl
@[go_sem] theorem fo57_7 : fieldOf Tryd.prog 57 7 = some ⟨53, 7, 1, false⟩ := by kernel_rfl
@[go_sem] theorem fo57_8 : fieldOf Tryd.prog 57 8 = some ⟨54, 8, 1, false⟩ := by kernel_rfl
@[go_sem] theorem fo57_9 : fieldOf Tryd.prog 57 9 = some ⟨55, 9, 1, false⟩ := by kernel_rfl
@[go_sem] theorem fo57_10 : fieldOf Tryd.prog 57 10 = some ⟨56, 10, 1, false⟩ := by kernel_rfl
@[go_sem] theorem ti58 : tinfo Tryd.prog 58 = some ⟨.struct [(12, 0), (12, 1), (50, 2), (51, 3), (5, 4), (5, 5), (52, 6), (53, 7), (54, 8), (55, 9), (56, 10)], 11, 48, (some (.agg #[.int .u64 0, .int .u64 0, .int .u32 0, .int .u8 0, .int .u8 0, .int .u8 0, .int .u8 0, .nilFunc, .pointer none, .int .i32 0, .int .i32 0]))⟩ := by kernel_rfl
@[go_sem] theorem fk58 : fieldsOk Tryd.prog 58 = true := by kernel_rfl
@[go_sem] theorem fo58_0 : fieldOf Tryd.prog 58 0 = some ⟨12, 0, 1, false⟩ := by kernel_rfl
@[go_sem] theorem fo58_1 : fieldOf Tryd.prog 58 1 = some ⟨12, 1, 1, false⟩ := by kernel_rfl
@[go_sem] theorem fo58_2 : fieldOf Tryd.prog 58 2 = some ⟨50, 2, 1, false⟩ := by kernel_rfl
@[go_sem] theorem fo58_3 : fieldOf Tryd.prog 58 3 = some ⟨51, 3, 1, false⟩ := by kernel_rfl
@[go_sem] theorem fo58_4 : fieldOf Tryd.prog 58 4 = some ⟨5, 4, 1, false⟩ := by kernel_rfl
@[go_sem] theorem fo58_5 : fieldOf Tryd.prog 58 5 = some ⟨5, 5, 1, false⟩ := by kernel_rfl
@[go_sem] theorem fo58_6 : fieldOf Tryd.prog 58 6 = some ⟨52, 6, 1, false⟩ := by kernel_rfl
@[go_sem] theorem fo58_7 : fieldOf Tryd.prog 58 7 = some ⟨53, 7, 1, false⟩ := by kernel_rfl
@[go_sem] theorem fo58_8 : fieldOf Tryd.prog 58 8 = some ⟨54, 8, 1, false⟩ := by kernel_rfl
@[go_sem] theorem fo58_9 : fieldOf Tryd.prog 58 9 = some ⟨55, 9, 1, false⟩ := by kernel_rfl
@[go_sem] theorem fo58_10 : fieldOf Tryd.prog 58 10 = some ⟨56, 10, 1, false⟩ := by kernel_rfl
@[go_sem] theorem ti59 : tinfo Tryd.prog 59 = some ⟨.struct [(9, 0)], 1, 16, (some (.agg #[.string ⟨#[]⟩]))⟩ := by kernel_rfl
@[go_sem] theorem fk59 : fieldsOk Tryd.prog 59 = true := by kernel_rfl
@[go_sem] theorem fo59_0 : fieldOf Tryd.prog 59 0 = some ⟨9, 0, 1, false⟩ := by kernel_rfl
@[go_sem] theorem ti60 : tinfo Tryd.prog 60 = some ⟨.struct [(9, 0)], 1, 16, (some (.agg #[.string ⟨#[]⟩]))⟩ := by kernel_rfl
@[go_sem] theorem fk60 : fieldsOk Tryd.prog 60 = true := by kernel_rfl
@[go_sem] theorem fo60_0 : fieldOf Tryd.prog 60 0 = some ⟨9, 0, 1, false⟩ := by kernel_rfl
@[go_sem] theorem ti61 : tinfo Tryd.prog 61 = some ⟨.other, 1, 8, (some (.pointer none))⟩ := by kernel_rfl
@[go_sem] theorem gf2 : goodFn Tryd.prog 2 = true := by kernel_rfl
@[go_sem] theorem gf3 : goodFn Tryd.prog 3 = true := by kernel_rfl
@[go_sem] theorem gf4 : goodFn Tryd.prog 4 = true := by kernel_rfl
@[go_sem] theorem gf5 : goodFn Tryd.prog 5 = true := by kernel_rfl
@[go_sem] theorem gf6 : goodFn Tryd.prog 6 = true := by kernel_rfl
@[go_sem] theorem gf7 : goodFn Tryd.prog 7 = true := by kernel_rfl
@[go_sem] theorem gf8 : goodFn Tryd.prog 8 = true := by kernel_rfl
@[go_sem] theorem gf9 : goodFn Tryd.prog 9 = true := by kernel_rfl
@[go_sem] theorem gf10 : goodFn Tryd.prog 10 = true := by kernel_rfl
@[go_sem] theorem gf11 : goodFn Tryd.prog 11 = true := by kernel_rfl
@[go_sem] theorem gf12 : goodFn Tryd.prog 12 = true := by kernel_rfl
@[go_sem] theorem gf13 : goodFn Tryd.prog 13 = true := by kernel_rfl
@[go_sem] theorem gf14 : goodFn Tryd.prog 14 = true := by kernel_rfl
@[go_sem] theorem gf15 : goodFn Tryd.prog 15 = true := by kernel_rfl
@[go_sem] theorem gf16 : goodFn Tryd.prog 16 = true := by kernel_rfl
@[go_sem] theorem gf17 : goodFn Tryd.prog 17 = true := by kernel_rfl
@[go_sem] theorem gf18 : goodFn Tryd.prog 18 = true := by kernel_rfl
@[go_sem] theorem gf19 : goodFn Tryd.prog 19 = true := by kernel_rfl
@[go_sem] theorem gf20 : goodFn Tryd.prog 20 = true := by kernel_rfl
@[go_sem] theorem gf21 : goodFn Tryd.prog 21 = true := by kernel_rfl
@[go_sem] theorem gf39 : goodFn Tryd.prog 39 = true := by kernel_rfl
@[go_sem] theorem gf46 : goodFn Tryd.prog 46 = true := by kernel_rfl
theorem mixed : Tryd.prog.follows .mixedOrders = true := by kernel_rfl
end Go.Proofs.YtdomnigegpigiabDoorV
