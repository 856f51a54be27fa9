/- What is known of the types of this program, by its own tables. -/
import Derived.Test.YtdomnigegpigiabProg
import Derived.Test.YtdomnigegpigiabV4
namespace Go.Proofs.YtdomnigegpigiabV
set_option maxRecDepth 100000
@[go_sem] theorem ti1 : tinfo Try.prog 1 = some ⟨.func, 1, 8, (some (.nilFunc))⟩ := by kernel_rfl
@[go_sem] theorem ti2 : tinfo Try.prog 2 = some ⟨.int .i64, 1, 8, (some (.int .i64 0))⟩ := by kernel_rfl
@[go_sem] theorem ti3 : tinfo Try.prog 3 = some ⟨.int .i64, 1, 8, (some (.int .i64 0))⟩ := by kernel_rfl
@[go_sem] theorem ti4 : tinfo Try.prog 4 = some ⟨.bool, 1, 1, (some (.bool false))⟩ := by kernel_rfl
@[go_sem] theorem ti5 : tinfo Try.prog 5 = some ⟨.int .u8, 1, 1, (some (.int .u8 0))⟩ := by kernel_rfl
@[go_sem] theorem ti6 : tinfo Try.prog 6 = some ⟨.int .u8, 1, 1, (some (.int .u8 0))⟩ := by kernel_rfl
@[go_sem] theorem ti7 : tinfo Try.prog 7 = some ⟨.struct [(2, 0), (3, 1), (4, 2), (6, 3)], 4, 24, (some (.agg #[.int .i64 0, .int .i64 0, .bool false, .int .u8 0]))⟩ := by kernel_rfl
@[go_sem] theorem fk7 : fieldsOk Try.prog 7 = true := by kernel_rfl
@[go_sem] theorem fo7_0 : fieldOf Try.prog 7 0 = some ⟨2, 0, 1, false⟩ := by kernel_rfl
@[go_sem] theorem fo7_1 : fieldOf Try.prog 7 1 = some ⟨3, 1, 1, false⟩ := by kernel_rfl
@[go_sem] theorem fo7_2 : fieldOf Try.prog 7 2 = some ⟨4, 2, 1, false⟩ := by kernel_rfl
@[go_sem] theorem fo7_3 : fieldOf Try.prog 7 3 = some ⟨6, 3, 1, false⟩ := by kernel_rfl
@[go_sem] theorem ti8 : tinfo Try.prog 8 = some ⟨.struct [(2, 0), (3, 1), (4, 2), (6, 3)], 4, 24, (some (.agg #[.int .i64 0, .int .i64 0, .bool false, .int .u8 0]))⟩ := by kernel_rfl
@[go_sem] theorem fk8 : fieldsOk Try.prog 8 = true := by kernel_rfl
@[go_sem] theorem fo8_0 : fieldOf Try.prog 8 0 = some ⟨2, 0, 1, false⟩ := by kernel_rfl
@[go_sem] theorem fo8_1 : fieldOf Try.prog 8 1 = some ⟨3, 1, 1, false⟩ := by kernel_rfl
@[go_sem] theorem fo8_2 : fieldOf Try.prog 8 2 = some ⟨4, 2, 1, false⟩ := by kernel_rfl
@[go_sem] theorem fo8_3 : fieldOf Try.prog 8 3 = some ⟨6, 3, 1, false⟩ := by kernel_rfl
@[go_sem] theorem ti9 : tinfo Try.prog 9 = some ⟨.string, 1, 16, (some (.string ⟨#[]⟩))⟩ := by kernel_rfl
@[go_sem] theorem ti10 : tinfo Try.prog 10 = some ⟨.string, 1, 16, (some (.string ⟨#[]⟩))⟩ := by kernel_rfl
@[go_sem] theorem ti11 : tinfo Try.prog 11 = some ⟨.string, 1, 16, (some (.string ⟨#[]⟩))⟩ := by kernel_rfl
@[go_sem] theorem ti12 : tinfo Try.prog 12 = some ⟨.int .u64, 1, 8, (some (.int .u64 0))⟩ := by kernel_rfl
@[go_sem] theorem ti13 : tinfo Try.prog 13 = some ⟨.struct [(9, 0), (12, 1)], 2, 24, (some (.agg #[.string ⟨#[]⟩, .int .u64 0]))⟩ := by kernel_rfl
@[go_sem] theorem fk13 : fieldsOk Try.prog 13 = true := by kernel_rfl
@[go_sem] theorem fo13_0 : fieldOf Try.prog 13 0 = some ⟨9, 0, 1, false⟩ := by kernel_rfl
@[go_sem] theorem fo13_1 : fieldOf Try.prog 13 1 = some ⟨12, 1, 1, false⟩ := by kernel_rfl
@[go_sem] theorem ti14 : tinfo Try.prog 14 = some ⟨.struct [(9, 0), (12, 1)], 2, 24, (some (.agg #[.string ⟨#[]⟩, .int .u64 0]))⟩ := by kernel_rfl
@[go_sem] theorem fk14 : fieldsOk Try.prog 14 = true := by kernel_rfl
@[go_sem] theorem fo14_0 : fieldOf Try.prog 14 0 = some ⟨9, 0, 1, false⟩ := by kernel_rfl
@[go_sem] theorem fo14_1 : fieldOf Try.prog 14 1 = some ⟨12, 1, 1, false⟩ := by kernel_rfl
@[go_sem] theorem ti15 : tinfo Try.prog 15 = some ⟨.pointer 81, 1, 8, (some (.pointer none))⟩ := by kernel_rfl
@[go_sem] theorem ti16 : tinfo Try.prog 16 = some ⟨.pointer 84, 1, 8, (some (.pointer none))⟩ := by kernel_rfl
@[go_sem] theorem ti17 : tinfo Try.prog 17 = some ⟨.pointer 93, 1, 8, (some (.pointer none))⟩ := by kernel_rfl
@[go_sem] theorem ti18 : tinfo Try.prog 18 = some ⟨.struct [(17, 0)], 1, 8, (some (.agg #[.pointer none]))⟩ := by kernel_rfl
@[go_sem] theorem fk18 : fieldsOk Try.prog 18 = true := by kernel_rfl
@[go_sem] theorem fo18_0 : fieldOf Try.prog 18 0 = some ⟨17, 0, 1, false⟩ := by kernel_rfl
@[go_sem] theorem ti19 : tinfo Try.prog 19 = some ⟨.struct [(17, 0)], 1, 8, (some (.agg #[.pointer none]))⟩ := by kernel_rfl
@[go_sem] theorem fk19 : fieldsOk Try.prog 19 = true := by kernel_rfl
@[go_sem] theorem fo19_0 : fieldOf Try.prog 19 0 = some ⟨17, 0, 1, false⟩ := by kernel_rfl
@[go_sem] theorem ti20 : tinfo Try.prog 20 = some ⟨.iface [], 1, 16, (some (.nilIface))⟩ := by kernel_rfl
@[go_sem] theorem ti21 : tinfo Try.prog 21 = some ⟨.int .i32, 1, 4, (some (.int .i32 0))⟩ := by kernel_rfl
@[go_sem] theorem ti22 : tinfo Try.prog 22 = some ⟨.slice 27, 1, 24, (some (.slice none 0 0))⟩ := by kernel_rfl
@[go_sem] theorem ti23 : tinfo Try.prog 23 = some ⟨.func, 1, 8, (some (.nilFunc))⟩ := by kernel_rfl
@[go_sem] theorem ti24 : tinfo Try.prog 24 = some ⟨.func, 1, 8, (some (.nilFunc))⟩ := by kernel_rfl
@[go_sem] theorem ti25 : tinfo Try.prog 25 = some ⟨.func, 1, 8, (some (.nilFunc))⟩ := by kernel_rfl
@[go_sem] theorem ti26 : tinfo Try.prog 26 = some ⟨.func, 1, 8, (some (.nilFunc))⟩ := by kernel_rfl
@[go_sem] theorem ti27 : tinfo Try.prog 27 = some ⟨.slice 9, 1, 24, (some (.slice none 0 0))⟩ := by kernel_rfl
@[go_sem] theorem ti28 : tinfo Try.prog 28 = some ⟨.func, 1, 8, (some (.nilFunc))⟩ := by kernel_rfl
@[go_sem] theorem ti30 : tinfo Try.prog 30 = some ⟨.func, 1, 8, (some (.nilFunc))⟩ := by kernel_rfl
@[go_sem] theorem ti32 : tinfo Try.prog 32 = some ⟨.func, 1, 8, (some (.nilFunc))⟩ := by kernel_rfl
@[go_sem] theorem ti33 : tinfo Try.prog 33 = some ⟨.func, 1, 8, (some (.nilFunc))⟩ := by kernel_rfl
@[go_sem] theorem ti34 : tinfo Try.prog 34 = some ⟨.func, 1, 8, (some (.nilFunc))⟩ := by kernel_rfl
@[go_sem] theorem ti35 : tinfo Try.prog 35 = some ⟨.func, 1, 8, (some (.nilFunc))⟩ := by kernel_rfl
@[go_sem] theorem ti36 : tinfo Try.prog 36 = some ⟨.func, 1, 8, (some (.nilFunc))⟩ := by kernel_rfl
@[go_sem] theorem ti37 : tinfo Try.prog 37 = some ⟨.func, 1, 8, (some (.nilFunc))⟩ := by kernel_rfl
@[go_sem] theorem ti38 : tinfo Try.prog 38 = some ⟨.struct [(9, 0), (9, 1), (9, 2), (9, 3), (9, 4)], 5, 80, (some (.agg #[.string ⟨#[]⟩, .string ⟨#[]⟩, .string ⟨#[]⟩, .string ⟨#[]⟩, .string ⟨#[]⟩]))⟩ := by kernel_rfl
@[go_sem] theorem fk38 : fieldsOk Try.prog 38 = true := by kernel_rfl
@[go_sem] theorem fo38_0 : fieldOf Try.prog 38 0 = some ⟨9, 0, 1, false⟩ := by kernel_rfl
@[go_sem] theorem fo38_1 : fieldOf Try.prog 38 1 = some ⟨9, 1, 1, false⟩ := by kernel_rfl
@[go_sem] theorem fo38_2 : fieldOf Try.prog 38 2 = some ⟨9, 2, 1, false⟩ := by kernel_rfl
@[go_sem] theorem fo38_3 : fieldOf Try.prog 38 3 = some ⟨9, 3, 1, false⟩ := by kernel_rfl
@[go_sem] theorem fo38_4 : fieldOf Try.prog 38 4 = some ⟨9, 4, 1, false⟩ := by kernel_rfl
@[go_sem] theorem ti39 : tinfo Try.prog 39 = some ⟨.struct [(9, 0), (9, 1), (9, 2), (9, 3), (9, 4)], 5, 80, (some (.agg #[.string ⟨#[]⟩, .string ⟨#[]⟩, .string ⟨#[]⟩, .string ⟨#[]⟩, .string ⟨#[]⟩]))⟩ := by kernel_rfl
@[go_sem] theorem fk39 : fieldsOk Try.prog 39 = true := by kernel_rfl
@[go_sem] theorem fo39_0 : fieldOf Try.prog 39 0 = some ⟨9, 0, 1, false⟩ := by kernel_rfl
@[go_sem] theorem fo39_1 : fieldOf Try.prog 39 1 = some ⟨9, 1, 1, false⟩ := by kernel_rfl
@[go_sem] theorem fo39_2 : fieldOf Try.prog 39 2 = some ⟨9, 2, 1, false⟩ := by kernel_rfl
@[go_sem] theorem fo39_3 : fieldOf Try.prog 39 3 = some ⟨9, 3, 1, false⟩ := by kernel_rfl
@[go_sem] theorem fo39_4 : fieldOf Try.prog 39 4 = some ⟨9, 4, 1, false⟩ := by kernel_rfl
@[go_sem] theorem ti40 : tinfo Try.prog 40 = some ⟨.func, 1, 8, (some (.nilFunc))⟩ := by kernel_rfl
@[go_sem] theorem ti41 : tinfo Try.prog 41 = some ⟨.func, 1, 8, (some (.nilFunc))⟩ := by kernel_rfl
@[go_sem] theorem ti42 : tinfo Try.prog 42 = some ⟨.func, 1, 8, (some (.nilFunc))⟩ := by kernel_rfl
@[go_sem] theorem ti43 : tinfo Try.prog 43 = some ⟨.func, 1, 8, (some (.nilFunc))⟩ := by kernel_rfl
@[go_sem] theorem ti44 : tinfo Try.prog 44 = some ⟨.func, 1, 8, (some (.nilFunc))⟩ := by kernel_rfl
@[go_sem] theorem ti45 : tinfo Try.prog 45 = some ⟨.func, 1, 8, (some (.nilFunc))⟩ := by kernel_rfl
@[go_sem] theorem ti46 : tinfo Try.prog 46 = some ⟨.func, 1, 8, (some (.nilFunc))⟩ := by kernel_rfl
@[go_sem] theorem ti48 : tinfo Try.prog 48 = some ⟨.func, 1, 8, (some (.nilFunc))⟩ := by kernel_rfl
@[go_sem] theorem ti49 : tinfo Try.prog 49 = some ⟨.iface [("Error", 72)], 1, 16, (some (.nilIface))⟩ := by kernel_rfl
@[go_sem] theorem ti50 : tinfo Try.prog 50 = some ⟨.iface [("Error", 72)], 1, 16, (some (.nilIface))⟩ := by kernel_rfl
@[go_sem] theorem ti52 : tinfo Try.prog 52 = some ⟨.func, 1, 8, (some (.nilFunc))⟩ := by kernel_rfl
@[go_sem] theorem ti53 : tinfo Try.prog 53 = some ⟨.func, 1, 8, (some (.nilFunc))⟩ := by kernel_rfl
@[go_sem] theorem ti54 : tinfo Try.prog 54 = some ⟨.slice 5, 1, 24, (some (.slice none 0 0))⟩ := by kernel_rfl
@[go_sem] theorem ti55 : tinfo Try.prog 55 = some ⟨.func, 1, 8, (some (.nilFunc))⟩ := by kernel_rfl
@[go_sem] theorem ti56 : tinfo Try.prog 56 = some ⟨.struct [(9, 0), (9, 1), (9, 2), (4, 3)], 4, 56, (some (.agg #[.string ⟨#[]⟩, .string ⟨#[]⟩, .string ⟨#[]⟩, .bool false]))⟩ := by kernel_rfl
@[go_sem] theorem fk56 : fieldsOk Try.prog 56 = true := by kernel_rfl
@[go_sem] theorem fo56_0 : fieldOf Try.prog 56 0 = some ⟨9, 0, 1, false⟩ := by kernel_rfl
@[go_sem] theorem fo56_1 : fieldOf Try.prog 56 1 = some ⟨9, 1, 1, false⟩ := by kernel_rfl
@[go_sem] theorem fo56_2 : fieldOf Try.prog 56 2 = some ⟨9, 2, 1, false⟩ := by kernel_rfl
@[go_sem] theorem fo56_3 : fieldOf Try.prog 56 3 = some ⟨4, 3, 1, false⟩ := by kernel_rfl
@[go_sem] theorem ti57 : tinfo Try.prog 57 = some ⟨.struct [(9, 0), (9, 1), (9, 2), (4, 3)], 4, 56, (some (.agg #[.string ⟨#[]⟩, .string ⟨#[]⟩, .string ⟨#[]⟩, .bool false]))⟩ := by kernel_rfl
@[go_sem] theorem fk57 : fieldsOk Try.prog 57 = true := by kernel_rfl
@[go_sem] theorem fo57_0 : fieldOf Try.prog 57 0 = some ⟨9, 0, 1, false⟩ := by kernel_rfl
@[go_sem] theorem fo57_1 : fieldOf Try.prog 57 1 = some ⟨9, 1, 1, false⟩ := by kernel_rfl
@[go_sem] theorem fo57_2 : fieldOf Try.prog 57 2 = some ⟨9, 2, 1, false⟩ := by kernel_rfl
@[go_sem] theorem fo57_3 : fieldOf Try.prog 57 3 = some ⟨4, 3, 1, false⟩ := by kernel_rfl
@[go_sem] theorem ti58 : tinfo Try.prog 58 = some ⟨.func, 1, 8, (some (.nilFunc))⟩ := by kernel_rfl
@[go_sem] theorem ti59 : tinfo Try.prog 59 = some ⟨.func, 1, 8, (some (.nilFunc))⟩ := by kernel_rfl
@[go_sem] theorem ti60 : tinfo Try.prog 60 = some ⟨.func, 1, 8, (some (.nilFunc))⟩ := by kernel_rfl
@[go_sem] theorem ti61 : tinfo Try.prog 61 = some ⟨.func, 1, 8, (some (.nilFunc))⟩ := by kernel_rfl
@[go_sem] theorem ti62 : tinfo Try.prog 62 = some ⟨.func, 1, 8, (some (.nilFunc))⟩ := by kernel_rfl
@[go_sem] theorem ti63 : tinfo Try.prog 63 = some ⟨.func, 1, 8, (some (.nilFunc))⟩ := by kernel_rfl
@[go_sem] theorem ti64 : tinfo Try.prog 64 = some ⟨.slice 20, 1, 24, (some (.slice none 0 0))⟩ := by kernel_rfl
@[go_sem] theorem ti65 : tinfo Try.prog 65 = some ⟨.func, 1, 8, (some (.nilFunc))⟩ := by kernel_rfl
@[go_sem] theorem ti66 : tinfo Try.prog 66 = some ⟨.pointer 68, 1, 8, (some (.pointer none))⟩ := by kernel_rfl
@[go_sem] theorem ti67 : tinfo Try.prog 67 = some ⟨.struct [(66, 0), (54, 1)], 2, 32, (some (.agg #[.pointer none, .slice none 0 0]))⟩ := by kernel_rfl
@[go_sem] theorem fk67 : fieldsOk Try.prog 67 = true := by kernel_rfl
@[go_sem] theorem fo67_0 : fieldOf Try.prog 67 0 = some ⟨66, 0, 1, false⟩ := by kernel_rfl
@[go_sem] theorem fo67_1 : fieldOf Try.prog 67 1 = some ⟨54, 1, 1, false⟩ := by kernel_rfl
@[go_sem] theorem ti68 : tinfo Try.prog 68 = some ⟨.struct [(66, 0), (54, 1)], 2, 32, (some (.agg #[.pointer none, .slice none 0 0]))⟩ := by kernel_rfl
@[go_sem] theorem fk68 : fieldsOk Try.prog 68 = true := by kernel_rfl
@[go_sem] theorem fo68_0 : fieldOf Try.prog 68 0 = some ⟨66, 0, 1, false⟩ := by kernel_rfl
@[go_sem] theorem fo68_1 : fieldOf Try.prog 68 1 = some ⟨54, 1, 1, false⟩ := by kernel_rfl
@[go_sem] theorem ti69 : tinfo Try.prog 69 = some ⟨.func, 1, 8, (some (.nilFunc))⟩ := by kernel_rfl
@[go_sem] theorem ti71 : tinfo Try.prog 71 = some ⟨.func, 1, 8, (some (.nilFunc))⟩ := by kernel_rfl
@[go_sem] theorem ti72 : tinfo Try.prog 72 = some ⟨.func, 1, 8, (some (.nilFunc))⟩ := by kernel_rfl
@[go_sem] theorem ti73 : tinfo Try.prog 73 = some ⟨.pointer 75, 1, 8, (some (.pointer none))⟩ := by kernel_rfl
@[go_sem] theorem ti74 : tinfo Try.prog 74 = some ⟨.struct [(9, 0)], 1, 16, (some (.agg #[.string ⟨#[]⟩]))⟩ := by kernel_rfl
@[go_sem] theorem fk74 : fieldsOk Try.prog 74 = true := by kernel_rfl
@[go_sem] theorem fo74_0 : fieldOf Try.prog 74 0 = some ⟨9, 0, 1, false⟩ := by kernel_rfl
@[go_sem] theorem ti75 : tinfo Try.prog 75 = some ⟨.struct [(9, 0)], 1, 16, (some (.agg #[.string ⟨#[]⟩]))⟩ := by kernel_rfl
@[go_sem] theorem fk75 : fieldsOk Try.prog 75 = true := by kernel_rfl
@[go_sem] theorem fo75_0 : fieldOf Try.prog 75 0 = some ⟨9, 0, 1, false⟩ := by kernel_rfl
@[go_sem] theorem ti76 : tinfo Try.prog 76 = some ⟨.pointer 5, 1, 8, (some (.pointer none))⟩ := by kernel_rfl
@[go_sem] theorem ti77 : tinfo Try.prog 77 = some ⟨.other, 1, 8, (some (.pointer none))⟩ := by kernel_rfl
@[go_sem] theorem ti78 : tinfo Try.prog 78 = some ⟨.func, 1, 8, (some (.nilFunc))⟩ := by kernel_rfl
@[go_sem] theorem ti79 : tinfo Try.prog 79 = some ⟨.func, 1, 8, (some (.nilFunc))⟩ := by kernel_rfl
@[go_sem] theorem ti80 : tinfo Try.prog 80 = some ⟨.struct [(17, 0), (17, 1), (17, 2), (9, 3)], 4, 40, (some (.agg #[.pointer none, .pointer none, .pointer none, .string ⟨#[]⟩]))⟩ := by kernel_rfl
@[go_sem] theorem fk80 : fieldsOk Try.prog 80 = true := by kernel_rfl
@[go_sem] theorem fo80_0 : fieldOf Try.prog 80 0 = some ⟨17, 0, 1, false⟩ := by kernel_rfl
@[go_sem] theorem fo80_1 : fieldOf Try.prog 80 1 = some ⟨17, 1, 1, false⟩ := by kernel_rfl
@[go_sem] theorem fo80_2 : fieldOf Try.prog 80 2 = some ⟨17, 2, 1, false⟩ := by kernel_rfl
@[go_sem] theorem fo80_3 : fieldOf Try.prog 80 3 = some ⟨9, 3, 1, false⟩ := by kernel_rfl
@[go_sem] theorem ti81 : tinfo Try.prog 81 = some ⟨.struct [(17, 0), (17, 1), (17, 2), (9, 3)], 4, 40, (some (.agg #[.pointer none, .pointer none, .pointer none, .string ⟨#[]⟩]))⟩ := by kernel_rfl
@[go_sem] theorem fk81 : fieldsOk Try.prog 81 = true := by kernel_rfl
@[go_sem] theorem fo81_0 : fieldOf Try.prog 81 0 = some ⟨17, 0, 1, false⟩ := by kernel_rfl
@[go_sem] theorem fo81_1 : fieldOf Try.prog 81 1 = some ⟨17, 1, 1, false⟩ := by kernel_rfl
@[go_sem] theorem fo81_2 : fieldOf Try.prog 81 2 = some ⟨17, 2, 1, false⟩ := by kernel_rfl
@[go_sem] theorem fo81_3 : fieldOf Try.prog 81 3 = some ⟨9, 3, 1, false⟩ := by kernel_rfl
@[go_sem] theorem ti82 : tinfo Try.prog 82 = some ⟨.array 0 16, 0, 0, (some (.agg #[]))⟩ := by kernel_rfl
@[go_sem] theorem ti83 : tinfo Try.prog 83 = some ⟨.struct [(82, 0)], 0, 0, (some (.agg #[]))⟩ := by kernel_rfl
@[go_sem] theorem fk83 : fieldsOk Try.prog 83 = true := by kernel_rfl
@[go_sem] theorem fo83_0 : fieldOf Try.prog 83 0 = some ⟨82, 0, 0, true⟩ := by kernel_rfl
@[go_sem] theorem ti84 : tinfo Try.prog 84 = some ⟨.struct [(82, 0)], 0, 0, (some (.agg #[]))⟩ := by kernel_rfl
@[go_sem] theorem fk84 : fieldsOk Try.prog 84 = true := by kernel_rfl
@[go_sem] theorem fo84_0 : fieldOf Try.prog 84 0 = some ⟨82, 0, 0, true⟩ := by kernel_rfl
@[go_sem] theorem ti85 : tinfo Try.prog 85 = some ⟨.func, 1, 8, (some (.nilFunc))⟩ := by kernel_rfl
@[go_sem] theorem ti86 : tinfo Try.prog 86 = some ⟨.int .u32, 1, 4, (some (.int .u32 0))⟩ := by kernel_rfl
@[go_sem] theorem ti87 : tinfo Try.prog 87 = some ⟨.int .u8, 1, 1, (some (.int .u8 0))⟩ := by kernel_rfl
@[go_sem] theorem ti88 : tinfo Try.prog 88 = some ⟨.int .u8, 1, 1, (some (.int .u8 0))⟩ := by kernel_rfl
@[go_sem] theorem ti89 : tinfo Try.prog 89 = some ⟨.func, 1, 8, (some (.nilFunc))⟩ := by kernel_rfl
@[go_sem] theorem ti90 : tinfo Try.prog 90 = some ⟨.int .i32, 1, 4, (some (.int .i32 0))⟩ := by kernel_rfl
@[go_sem] theorem ti91 : tinfo Try.prog 91 = some ⟨.int .i32, 1, 4, (some (.int .i32 0))⟩ := by kernel_rfl
@[go_sem] theorem ti92 : tinfo Try.prog 92 = some ⟨.struct [(12, 0), (12, 1), (86, 2), (87, 3), (5, 4), (5, 5), (88, 6), (89, 7), (76, 8), (90, 9), (91, 10)], 11, 48, (some (.agg #[.int .u64 0, .int .u64 0, .int .u32 0, .int .u8 0, .int .u8 0, .int .u8 0, .int .u8 0, .nilFunc, .pointer none, .int .i32 0, .int .i32 0]))⟩ := by kernel_rfl
@[go_sem] theorem fk92 : fieldsOk Try.prog 92 = true := by kernel_rfl
@[go_sem] theorem fo92_0 : fieldOf Try.prog 92 0 = some ⟨12, 0, 1, false⟩ := by kernel_rfl
@[go_sem] theorem fo92_1 : fieldOf Try.prog 92 1 = some ⟨12, 1, 1, false⟩ := by kernel_rfl
@[go_sem] theorem fo92_2 : fieldOf Try.prog 92 2 = some ⟨86, 2, 1, false⟩ := by kernel_rfl
@[go_sem] theorem fo92_3 : fieldOf Try.prog 92 3 = some ⟨87, 3, 1, false⟩ := by kernel_rfl
@[go_sem] theorem fo92_4 : fieldOf Try.prog 92 4 = some ⟨5, 4, 1, false⟩ := by kernel_rfl
@[go_sem] theorem fo92_5 : fieldOf Try.prog 92 5 = some ⟨5, 5, 1, false⟩ := by kernel_rfl
@[go_sem] theorem fo92_6 : fieldOf Try.prog 92 6 = some ⟨88, 6, 1, false⟩ := by kernel_rfl
@[go_sem] theorem fo92_7 : fieldOf Try.prog 92 7 = some ⟨89, 7, 1, false⟩ := by kernel_rfl
@[go_sem] theorem fo92_8 : fieldOf Try.prog 92 8 = some ⟨76, 8, 1, false⟩ := by kernel_rfl
@[go_sem] theorem fo92_9 : fieldOf Try.prog 92 9 = some ⟨90, 9, 1, false⟩ := by kernel_rfl
@[go_sem] theorem fo92_10 : fieldOf Try.prog 92 10 = some ⟨91, 10, 1, false⟩ := by kernel_rfl
@[go_sem] theorem ti93 : tinfo Try.prog 93 = some ⟨.struct [(12, 0), (12, 1), (86, 2), (87, 3), (5, 4), (5, 5), (88, 6), (89, 7), (76, 8), (90, 9), (91, 10)], 11, 48, (some (.agg #[.int .u64 0, .int .u64 0, .int .u32 0, .int .u8 0, .int .u8 0, .int .u8 0, .int .u8 0, .nilFunc, .pointer none, .int .i32 0, .int .i32 0]))⟩ := by kernel_rfl
@[go_sem] theorem fk93 : fieldsOk Try.prog 93 = true := by kernel_rfl
@[go_sem] theorem fo93_0 : fieldOf Try.prog 93 0 = some ⟨12, 0, 1, false⟩ := by kernel_rfl
@[go_sem] theorem fo93_1 : fieldOf Try.prog 93 1 = some ⟨12, 1, 1, false⟩ := by kernel_rfl
@[go_sem] theorem fo93_2 : fieldOf Try.prog 93 2 = some ⟨86, 2, 1, false⟩ := by kernel_rfl
@[go_sem] theorem fo93_3 : fieldOf Try.prog 93 3 = some ⟨87, 3, 1, false⟩ := by kernel_rfl
@[go_sem] theorem fo93_4 : fieldOf Try.prog 93 4 = some ⟨5, 4, 1, false⟩ := by kernel_rfl
@[go_sem] theorem fo93_5 : fieldOf Try.prog 93 5 = some ⟨5, 5, 1, false⟩ := by kernel_rfl
@[go_sem] theorem fo93_6 : fieldOf Try.prog 93 6 = some ⟨88, 6, 1, false⟩ := by kernel_rfl
@[go_sem] theorem fo93_7 : fieldOf Try.prog 93 7 = some ⟨89, 7, 1, false⟩ := by kernel_rfl
@[go_sem] theorem fo93_8 : fieldOf Try.prog 93 8 = some ⟨76, 8, 1, false⟩ := by kernel_rfl
@[go_sem] theorem fo93_9 : fieldOf Try.prog 93 9 = some ⟨90, 9, 1, false⟩ := by kernel_rfl
@[go_sem] theorem fo93_10 : fieldOf Try.prog 93 10 = some ⟨91, 10, 1, false⟩ := by kernel_rfl
@[go_sem] theorem gf2 : goodFn Try.prog 2 = true := by kernel_rfl
@[go_sem] theorem gf3 : goodFn Try.prog 3 = true := by kernel_rfl
@[go_sem] theorem gf4 : goodFn Try.prog 4 = true := by kernel_rfl
@[go_sem] theorem gf5 : goodFn Try.prog 5 = true := by kernel_rfl
@[go_sem] theorem gf6 : goodFn Try.prog 6 = true := by kernel_rfl
@[go_sem] theorem gf7 : goodFn Try.prog 7 = true := by kernel_rfl
@[go_sem] theorem gf8 : goodFn Try.prog 8 = true := by kernel_rfl
@[go_sem] theorem gf9 : goodFn Try.prog 9 = true := by kernel_rfl
@[go_sem] theorem gf10 : goodFn Try.prog 10 = true := by kernel_rfl
@[go_sem] theorem gf11 : goodFn Try.prog 11 = true := by kernel_rfl
@[go_sem] theorem gf12 : goodFn Try.prog 12 = true := by kernel_rfl
@[go_sem] theorem gf13 : goodFn Try.prog 13 = true := by kernel_rfl
@[go_sem] theorem gf14 : goodFn Try.prog 14 = true := by kernel_rfl
@[go_sem] theorem gf15 : goodFn Try.prog 15 = true := by kernel_rfl
@[go_sem] theorem gf16 : goodFn Try.prog 16 = true := by kernel_rfl
@[go_sem] theorem gf17 : goodFn Try.prog 17 = true := by kernel_rfl
@[go_sem] theorem gf18 : goodFn Try.prog 18 = true := by kernel_rfl
@[go_sem] theorem gf19 : goodFn Try.prog 19 = true := by kernel_rfl
@[go_sem] theorem gf20 : goodFn Try.prog 20 = true := by kernel_rfl
@[go_sem] theorem gf21 : goodFn Try.prog 21 = true := by kernel_rfl
@[go_sem] theorem gf22 : goodFn Try.prog 22 = true := by kernel_rfl
@[go_sem] theorem gf23 : goodFn Try.prog 23 = true := by kernel_rfl
@[go_sem] theorem gf24 : goodFn Try.prog 24 = true := by kernel_rfl
@[go_sem] theorem gf25 : goodFn Try.prog 25 = true := by kernel_rfl
@[go_sem] theorem gf26 : goodFn Try.prog 26 = true := by kernel_rfl
@[go_sem] theorem gf27 : goodFn Try.prog 27 = true := by kernel_rfl
@[go_sem] theorem gf28 : goodFn Try.prog 28 = true := by kernel_rfl
@[go_sem] theorem gf29 : goodFn Try.prog 29 = true := by kernel_rfl
@[go_sem] theorem gf30 : goodFn Try.prog 30 = true := by kernel_rfl
@[go_sem] theorem gf31 : goodFn Try.prog 31 = true := by kernel_rfl
@[go_sem] theorem gf32 : goodFn Try.prog 32 = true := by kernel_rfl
@[go_sem] theorem gf33 : goodFn Try.prog 33 = true := by kernel_rfl
@[go_sem] theorem gf34 : goodFn Try.prog 34 = true := by kernel_rfl
@[go_sem] theorem gf35 : goodFn Try.prog 35 = true := by kernel_rfl
@[go_sem] theorem gf36 : goodFn Try.prog 36 = true := by kernel_rfl
@[go_sem] theorem gf37 : goodFn Try.prog 37 = true := by kernel_rfl
@[go_sem] theorem gf38 : goodFn Try.prog 38 = true := by kernel_rfl
@[go_sem] theorem gf39 : goodFn Try.prog 39 = true := by kernel_rfl
@[go_sem] theorem gf40 : goodFn Try.prog 40 = true := by kernel_rfl
@[go_sem] theorem gf41 : goodFn Try.prog 41 = true := by kernel_rfl
@[go_sem] theorem gf42 : goodFn Try.prog 42 = true := by kernel_rfl
@[go_sem] theorem gf43 : goodFn Try.prog 43 = true := by kernel_rfl
@[go_sem] theorem gf44 : goodFn Try.prog 44 = true := by kernel_rfl
@[go_sem] theorem gf45 : goodFn Try.prog 45 = true := by kernel_rfl
@[go_sem] theorem gf46 : goodFn Try.prog 46 = true := by kernel_rfl
@[go_sem] theorem gf47 : goodFn Try.prog 47 = true := by kernel_rfl
@[go_sem] theorem gf48 : goodFn Try.prog 48 = true := by kernel_rfl
@[go_sem] theorem gf49 : goodFn Try.prog 49 = true := by kernel_rfl
@[go_sem] theorem gf50 : goodFn Try.prog 50 = true := by kernel_rfl
@[go_sem] theorem gf51 : goodFn Try.prog 51 = true := by kernel_rfl
@[go_sem] theorem gf52 : goodFn Try.prog 52 = true := by kernel_rfl
@[go_sem] theorem gf53 : goodFn Try.prog 53 = true := by kernel_rfl
@[go_sem] theorem gf54 : goodFn Try.prog 54 = true := by kernel_rfl
@[go_sem] theorem gf55 : goodFn Try.prog 55 = true := by kernel_rfl
@[go_sem] theorem gf56 : goodFn Try.prog 56 = true := by kernel_rfl
@[go_sem] theorem gf57 : goodFn Try.prog 57 = true := by kernel_rfl
@[go_sem] theorem gf58 : goodFn Try.prog 58 = true := by kernel_rfl
@[go_sem] theorem gf59 : goodFn Try.prog 59 = true := by kernel_rfl
theorem mixed : Try.prog.follows .mixedOrders = true := by kernel_rfl
end Go.Proofs.YtdomnigegpigiabV
