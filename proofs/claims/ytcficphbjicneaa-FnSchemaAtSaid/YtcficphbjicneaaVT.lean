/- What is known of the types of this program, by its own tables. -/
import Derived.Test.YtcficphbjicneaaProg
import Derived.Test.YtcficphbjicneaaV4
namespace Go.Proofs.YtcficphbjicneaaV
set_option maxRecDepth 100000
@[go_sem] theorem ti1 : tinfo Try.prog 1 = some ⟨.func, 1, 8, (some (.nilFunc))⟩ := by kernel_rfl
@[go_sem] theorem ti2 : tinfo Try.prog 2 = some ⟨.int .i64, 1, 8, (some (.int .i64 0))⟩ := by kernel_rfl
@[go_sem] theorem ti3 : tinfo Try.prog 3 = some ⟨.int .i64, 1, 8, (some (.int .i64 0))⟩ := by kernel_rfl
@[go_sem] theorem ti4 : tinfo Try.prog 4 = some ⟨.bool, 1, 1, (some (.bool false))⟩ := by kernel_rfl
@[go_sem] theorem ti5 : tinfo Try.prog 5 = some ⟨.int .u8, 1, 1, (some (.int .u8 0))⟩ := by kernel_rfl
@[go_sem] theorem ti6 : tinfo Try.prog 6 = some ⟨.int .u8, 1, 1, (some (.int .u8 0))⟩ := by kernel_rfl
@[go_sem] theorem ti7 : tinfo Try.prog 7 = some ⟨.struct [(2, 0), (3, 1), (4, 2), (6, 3)], 4, 24, (some (.agg #[.int .i64 0, .int .i64 0, .bool false, .int .u8 0]))⟩ := by kernel_rfl
@[go_sem] theorem fk7 : fieldsOk Try.prog 7 = true := by kernel_rfl
@[go_sem] theorem fo7_0 : fieldOf Try.prog 7 0 = some ⟨2, 0, 1, false⟩ := by kernel_rfl
@[go_sem] theorem fo7_1 : fieldOf Try.prog 7 1 = some ⟨3, 1, 1, false⟩ := by kernel_rfl
@[go_sem] theorem fo7_2 : fieldOf Try.prog 7 2 = some ⟨4, 2, 1, false⟩ := by kernel_rfl
@[go_sem] theorem fo7_3 : fieldOf Try.prog 7 3 = some ⟨6, 3, 1, false⟩ := by kernel_rfl
@[go_sem] theorem ti8 : tinfo Try.prog 8 = some ⟨.struct [(2, 0), (3, 1), (4, 2), (6, 3)], 4, 24, (some (.agg #[.int .i64 0, .int .i64 0, .bool false, .int .u8 0]))⟩ := by kernel_rfl
@[go_sem] theorem fk8 : fieldsOk Try.prog 8 = true := by kernel_rfl
@[go_sem] theorem fo8_0 : fieldOf Try.prog 8 0 = some ⟨2, 0, 1, false⟩ := by kernel_rfl
@[go_sem] theorem fo8_1 : fieldOf Try.prog 8 1 = some ⟨3, 1, 1, false⟩ := by kernel_rfl
@[go_sem] theorem fo8_2 : fieldOf Try.prog 8 2 = some ⟨4, 2, 1, false⟩ := by kernel_rfl
@[go_sem] theorem fo8_3 : fieldOf Try.prog 8 3 = some ⟨6, 3, 1, false⟩ := by kernel_rfl
@[go_sem] theorem ti9 : tinfo Try.prog 9 = some ⟨.string, 1, 16, (some (.string ⟨#[]⟩))⟩ := by kernel_rfl
@[go_sem] theorem ti10 : tinfo Try.prog 10 = some ⟨.string, 1, 16, (some (.string ⟨#[]⟩))⟩ := by kernel_rfl
@[go_sem] theorem ti11 : tinfo Try.prog 11 = some ⟨.string, 1, 16, (some (.string ⟨#[]⟩))⟩ := by kernel_rfl
@[go_sem] theorem ti12 : tinfo Try.prog 12 = some ⟨.int .u64, 1, 8, (some (.int .u64 0))⟩ := by kernel_rfl
@[go_sem] theorem ti13 : tinfo Try.prog 13 = some ⟨.struct [(9, 0), (12, 1)], 2, 24, (some (.agg #[.string ⟨#[]⟩, .int .u64 0]))⟩ := by kernel_rfl
@[go_sem] theorem fk13 : fieldsOk Try.prog 13 = true := by kernel_rfl
@[go_sem] theorem fo13_0 : fieldOf Try.prog 13 0 = some ⟨9, 0, 1, false⟩ := by kernel_rfl
@[go_sem] theorem fo13_1 : fieldOf Try.prog 13 1 = some ⟨12, 1, 1, false⟩ := by kernel_rfl
@[go_sem] theorem ti14 : tinfo Try.prog 14 = some ⟨.struct [(9, 0), (12, 1)], 2, 24, (some (.agg #[.string ⟨#[]⟩, .int .u64 0]))⟩ := by kernel_rfl
@[go_sem] theorem fk14 : fieldsOk Try.prog 14 = true := by kernel_rfl
@[go_sem] theorem fo14_0 : fieldOf Try.prog 14 0 = some ⟨9, 0, 1, false⟩ := by kernel_rfl
@[go_sem] theorem fo14_1 : fieldOf Try.prog 14 1 = some ⟨12, 1, 1, false⟩ := by kernel_rfl
@[go_sem] theorem ti15 : tinfo Try.prog 15 = some ⟨.pointer 91, 1, 8, (some (.pointer none))⟩ := by kernel_rfl
@[go_sem] theorem ti16 : tinfo Try.prog 16 = some ⟨.pointer 94, 1, 8, (some (.pointer none))⟩ := by kernel_rfl
@[go_sem] theorem ti17 : tinfo Try.prog 17 = some ⟨.pointer 103, 1, 8, (some (.pointer none))⟩ := by kernel_rfl
@[go_sem] theorem ti18 : tinfo Try.prog 18 = some ⟨.struct [(17, 0)], 1, 8, (some (.agg #[.pointer none]))⟩ := by kernel_rfl
@[go_sem] theorem fk18 : fieldsOk Try.prog 18 = true := by kernel_rfl
@[go_sem] theorem fo18_0 : fieldOf Try.prog 18 0 = some ⟨17, 0, 1, false⟩ := by kernel_rfl
@[go_sem] theorem ti19 : tinfo Try.prog 19 = some ⟨.struct [(17, 0)], 1, 8, (some (.agg #[.pointer none]))⟩ := by kernel_rfl
@[go_sem] theorem fk19 : fieldsOk Try.prog 19 = true := by kernel_rfl
@[go_sem] theorem fo19_0 : fieldOf Try.prog 19 0 = some ⟨17, 0, 1, false⟩ := by kernel_rfl
@[go_sem] theorem ti20 : tinfo Try.prog 20 = some ⟨.iface [], 1, 16, (some (.nilIface))⟩ := by kernel_rfl
@[go_sem] theorem ti21 : tinfo Try.prog 21 = some ⟨.int .i32, 1, 4, (some (.int .i32 0))⟩ := by kernel_rfl
@[go_sem] theorem ti22 : tinfo Try.prog 22 = some ⟨.slice 9, 1, 24, (some (.slice none 0 0))⟩ := by kernel_rfl
@[go_sem] theorem ti23 : tinfo Try.prog 23 = some ⟨.func, 1, 8, (some (.nilFunc))⟩ := by kernel_rfl
@[go_sem] theorem ti24 : tinfo Try.prog 24 = some ⟨.func, 1, 8, (some (.nilFunc))⟩ := by kernel_rfl
@[go_sem] theorem ti25 : tinfo Try.prog 25 = some ⟨.func, 1, 8, (some (.nilFunc))⟩ := by kernel_rfl
@[go_sem] theorem ti26 : tinfo Try.prog 26 = some ⟨.struct [(9, 0), (9, 1), (9, 2), (9, 3), (9, 4)], 5, 80, (some (.agg #[.string ⟨#[]⟩, .string ⟨#[]⟩, .string ⟨#[]⟩, .string ⟨#[]⟩, .string ⟨#[]⟩]))⟩ := by kernel_rfl
@[go_sem] theorem fk26 : fieldsOk Try.prog 26 = true := by kernel_rfl
@[go_sem] theorem fo26_0 : fieldOf Try.prog 26 0 = some ⟨9, 0, 1, false⟩ := by kernel_rfl
@[go_sem] theorem fo26_1 : fieldOf Try.prog 26 1 = some ⟨9, 1, 1, false⟩ := by kernel_rfl
@[go_sem] theorem fo26_2 : fieldOf Try.prog 26 2 = some ⟨9, 2, 1, false⟩ := by kernel_rfl
@[go_sem] theorem fo26_3 : fieldOf Try.prog 26 3 = some ⟨9, 3, 1, false⟩ := by kernel_rfl
@[go_sem] theorem fo26_4 : fieldOf Try.prog 26 4 = some ⟨9, 4, 1, false⟩ := by kernel_rfl
@[go_sem] theorem ti27 : tinfo Try.prog 27 = some ⟨.struct [(9, 0), (9, 1), (9, 2), (9, 3), (9, 4)], 5, 80, (some (.agg #[.string ⟨#[]⟩, .string ⟨#[]⟩, .string ⟨#[]⟩, .string ⟨#[]⟩, .string ⟨#[]⟩]))⟩ := by kernel_rfl
@[go_sem] theorem fk27 : fieldsOk Try.prog 27 = true := by kernel_rfl
@[go_sem] theorem fo27_0 : fieldOf Try.prog 27 0 = some ⟨9, 0, 1, false⟩ := by kernel_rfl
@[go_sem] theorem fo27_1 : fieldOf Try.prog 27 1 = some ⟨9, 1, 1, false⟩ := by kernel_rfl
@[go_sem] theorem fo27_2 : fieldOf Try.prog 27 2 = some ⟨9, 2, 1, false⟩ := by kernel_rfl
@[go_sem] theorem fo27_3 : fieldOf Try.prog 27 3 = some ⟨9, 3, 1, false⟩ := by kernel_rfl
@[go_sem] theorem fo27_4 : fieldOf Try.prog 27 4 = some ⟨9, 4, 1, false⟩ := by kernel_rfl
@[go_sem] theorem ti28 : tinfo Try.prog 28 = some ⟨.func, 1, 8, (some (.nilFunc))⟩ := by kernel_rfl
@[go_sem] theorem ti29 : tinfo Try.prog 29 = some ⟨.func, 1, 8, (some (.nilFunc))⟩ := by kernel_rfl
@[go_sem] theorem ti31 : tinfo Try.prog 31 = some ⟨.func, 1, 8, (some (.nilFunc))⟩ := by kernel_rfl
@[go_sem] theorem ti32 : tinfo Try.prog 32 = some ⟨.func, 1, 8, (some (.nilFunc))⟩ := by kernel_rfl
@[go_sem] theorem ti33 : tinfo Try.prog 33 = some ⟨.func, 1, 8, (some (.nilFunc))⟩ := by kernel_rfl
@[go_sem] theorem ti34 : tinfo Try.prog 34 = some ⟨.func, 1, 8, (some (.nilFunc))⟩ := by kernel_rfl
@[go_sem] theorem ti35 : tinfo Try.prog 35 = some ⟨.func, 1, 8, (some (.nilFunc))⟩ := by kernel_rfl
@[go_sem] theorem ti36 : tinfo Try.prog 36 = some ⟨.func, 1, 8, (some (.nilFunc))⟩ := by kernel_rfl
@[go_sem] theorem ti37 : tinfo Try.prog 37 = some ⟨.slice 39, 1, 24, (some (.slice none 0 0))⟩ := by kernel_rfl
@[go_sem] theorem ti38 : tinfo Try.prog 38 = some ⟨.struct [(3, 0), (3, 1), (9, 2), (9, 3), (9, 4), (9, 5), (9, 6), (9, 7), (3, 8), (3, 9), (3, 10), (37, 11)], 12, 160, (some (.agg #[.int .i64 0, .int .i64 0, .string ⟨#[]⟩, .string ⟨#[]⟩, .string ⟨#[]⟩, .string ⟨#[]⟩, .string ⟨#[]⟩, .string ⟨#[]⟩, .int .i64 0, .int .i64 0, .int .i64 0, .slice none 0 0]))⟩ := by kernel_rfl
@[go_sem] theorem fk38 : fieldsOk Try.prog 38 = true := by kernel_rfl
@[go_sem] theorem fo38_0 : fieldOf Try.prog 38 0 = some ⟨3, 0, 1, false⟩ := by kernel_rfl
@[go_sem] theorem fo38_1 : fieldOf Try.prog 38 1 = some ⟨3, 1, 1, false⟩ := by kernel_rfl
@[go_sem] theorem fo38_2 : fieldOf Try.prog 38 2 = some ⟨9, 2, 1, false⟩ := by kernel_rfl
@[go_sem] theorem fo38_3 : fieldOf Try.prog 38 3 = some ⟨9, 3, 1, false⟩ := by kernel_rfl
@[go_sem] theorem fo38_4 : fieldOf Try.prog 38 4 = some ⟨9, 4, 1, false⟩ := by kernel_rfl
@[go_sem] theorem fo38_5 : fieldOf Try.prog 38 5 = some ⟨9, 5, 1, false⟩ := by kernel_rfl
@[go_sem] theorem fo38_6 : fieldOf Try.prog 38 6 = some ⟨9, 6, 1, false⟩ := by kernel_rfl
@[go_sem] theorem fo38_7 : fieldOf Try.prog 38 7 = some ⟨9, 7, 1, false⟩ := by kernel_rfl
@[go_sem] theorem fo38_8 : fieldOf Try.prog 38 8 = some ⟨3, 8, 1, false⟩ := by kernel_rfl
@[go_sem] theorem fo38_9 : fieldOf Try.prog 38 9 = some ⟨3, 9, 1, false⟩ := by kernel_rfl
@[go_sem] theorem fo38_10 : fieldOf Try.prog 38 10 = some ⟨3, 10, 1, false⟩ := by kernel_rfl
@[go_sem] theorem fo38_11 : fieldOf Try.prog 38 11 = some ⟨37, 11, 1, false⟩ := by kernel_rfl
@[go_sem] theorem ti39 : tinfo Try.prog 39 = some ⟨.struct [(3, 0), (3, 1), (9, 2), (9, 3), (9, 4), (9, 5), (9, 6), (9, 7), (3, 8), (3, 9), (3, 10), (37, 11)], 12, 160, (some (.agg #[.int .i64 0, .int .i64 0, .string ⟨#[]⟩, .string ⟨#[]⟩, .string ⟨#[]⟩, .string ⟨#[]⟩, .string ⟨#[]⟩, .string ⟨#[]⟩, .int .i64 0, .int .i64 0, .int .i64 0, .slice none 0 0]))⟩ := by kernel_rfl
@[go_sem] theorem fk39 : fieldsOk Try.prog 39 = true := by kernel_rfl
@[go_sem] theorem fo39_0 : fieldOf Try.prog 39 0 = some ⟨3, 0, 1, false⟩ := by kernel_rfl
@[go_sem] theorem fo39_1 : fieldOf Try.prog 39 1 = some ⟨3, 1, 1, false⟩ := by kernel_rfl
@[go_sem] theorem fo39_2 : fieldOf Try.prog 39 2 = some ⟨9, 2, 1, false⟩ := by kernel_rfl
@[go_sem] theorem fo39_3 : fieldOf Try.prog 39 3 = some ⟨9, 3, 1, false⟩ := by kernel_rfl
@[go_sem] theorem fo39_4 : fieldOf Try.prog 39 4 = some ⟨9, 4, 1, false⟩ := by kernel_rfl
@[go_sem] theorem fo39_5 : fieldOf Try.prog 39 5 = some ⟨9, 5, 1, false⟩ := by kernel_rfl
@[go_sem] theorem fo39_6 : fieldOf Try.prog 39 6 = some ⟨9, 6, 1, false⟩ := by kernel_rfl
@[go_sem] theorem fo39_7 : fieldOf Try.prog 39 7 = some ⟨9, 7, 1, false⟩ := by kernel_rfl
@[go_sem] theorem fo39_8 : fieldOf Try.prog 39 8 = some ⟨3, 8, 1, false⟩ := by kernel_rfl
@[go_sem] theorem fo39_9 : fieldOf Try.prog 39 9 = some ⟨3, 9, 1, false⟩ := by kernel_rfl
@[go_sem] theorem fo39_10 : fieldOf Try.prog 39 10 = some ⟨3, 10, 1, false⟩ := by kernel_rfl
@[go_sem] theorem fo39_11 : fieldOf Try.prog 39 11 = some ⟨37, 11, 1, false⟩ := by kernel_rfl
@[go_sem] theorem ti40 : tinfo Try.prog 40 = some ⟨.func, 1, 8, (some (.nilFunc))⟩ := by kernel_rfl
@[go_sem] theorem ti41 : tinfo Try.prog 41 = some ⟨.slice 43, 1, 24, (some (.slice none 0 0))⟩ := by kernel_rfl
@[go_sem] theorem ti42 : tinfo Try.prog 42 = some ⟨.struct [(22, 0), (41, 1), (41, 2), (22, 3), (41, 4), (4, 5), (4, 6), (4, 7), (9, 8), (9, 9), (22, 10)], 11, 184, (some (.agg #[.slice none 0 0, .slice none 0 0, .slice none 0 0, .slice none 0 0, .slice none 0 0, .bool false, .bool false, .bool false, .string ⟨#[]⟩, .string ⟨#[]⟩, .slice none 0 0]))⟩ := by kernel_rfl
@[go_sem] theorem fk42 : fieldsOk Try.prog 42 = true := by kernel_rfl
@[go_sem] theorem fo42_0 : fieldOf Try.prog 42 0 = some ⟨22, 0, 1, false⟩ := by kernel_rfl
@[go_sem] theorem fo42_1 : fieldOf Try.prog 42 1 = some ⟨41, 1, 1, false⟩ := by kernel_rfl
@[go_sem] theorem fo42_2 : fieldOf Try.prog 42 2 = some ⟨41, 2, 1, false⟩ := by kernel_rfl
@[go_sem] theorem fo42_3 : fieldOf Try.prog 42 3 = some ⟨22, 3, 1, false⟩ := by kernel_rfl
@[go_sem] theorem fo42_4 : fieldOf Try.prog 42 4 = some ⟨41, 4, 1, false⟩ := by kernel_rfl
@[go_sem] theorem fo42_5 : fieldOf Try.prog 42 5 = some ⟨4, 5, 1, false⟩ := by kernel_rfl
@[go_sem] theorem fo42_6 : fieldOf Try.prog 42 6 = some ⟨4, 6, 1, false⟩ := by kernel_rfl
@[go_sem] theorem fo42_7 : fieldOf Try.prog 42 7 = some ⟨4, 7, 1, false⟩ := by kernel_rfl
@[go_sem] theorem fo42_8 : fieldOf Try.prog 42 8 = some ⟨9, 8, 1, false⟩ := by kernel_rfl
@[go_sem] theorem fo42_9 : fieldOf Try.prog 42 9 = some ⟨9, 9, 1, false⟩ := by kernel_rfl
@[go_sem] theorem fo42_10 : fieldOf Try.prog 42 10 = some ⟨22, 10, 1, false⟩ := by kernel_rfl
@[go_sem] theorem ti43 : tinfo Try.prog 43 = some ⟨.struct [(22, 0), (41, 1), (41, 2), (22, 3), (41, 4), (4, 5), (4, 6), (4, 7), (9, 8), (9, 9), (22, 10)], 11, 184, (some (.agg #[.slice none 0 0, .slice none 0 0, .slice none 0 0, .slice none 0 0, .slice none 0 0, .bool false, .bool false, .bool false, .string ⟨#[]⟩, .string ⟨#[]⟩, .slice none 0 0]))⟩ := by kernel_rfl
@[go_sem] theorem fk43 : fieldsOk Try.prog 43 = true := by kernel_rfl
@[go_sem] theorem fo43_0 : fieldOf Try.prog 43 0 = some ⟨22, 0, 1, false⟩ := by kernel_rfl
@[go_sem] theorem fo43_1 : fieldOf Try.prog 43 1 = some ⟨41, 1, 1, false⟩ := by kernel_rfl
@[go_sem] theorem fo43_2 : fieldOf Try.prog 43 2 = some ⟨41, 2, 1, false⟩ := by kernel_rfl
@[go_sem] theorem fo43_3 : fieldOf Try.prog 43 3 = some ⟨22, 3, 1, false⟩ := by kernel_rfl
@[go_sem] theorem fo43_4 : fieldOf Try.prog 43 4 = some ⟨41, 4, 1, false⟩ := by kernel_rfl
@[go_sem] theorem fo43_5 : fieldOf Try.prog 43 5 = some ⟨4, 5, 1, false⟩ := by kernel_rfl
@[go_sem] theorem fo43_6 : fieldOf Try.prog 43 6 = some ⟨4, 6, 1, false⟩ := by kernel_rfl
@[go_sem] theorem fo43_7 : fieldOf Try.prog 43 7 = some ⟨4, 7, 1, false⟩ := by kernel_rfl
@[go_sem] theorem fo43_8 : fieldOf Try.prog 43 8 = some ⟨9, 8, 1, false⟩ := by kernel_rfl
@[go_sem] theorem fo43_9 : fieldOf Try.prog 43 9 = some ⟨9, 9, 1, false⟩ := by kernel_rfl
@[go_sem] theorem fo43_10 : fieldOf Try.prog 43 10 = some ⟨22, 10, 1, false⟩ := by kernel_rfl
@[go_sem] theorem ti45 : tinfo Try.prog 45 = some ⟨.func, 1, 8, (some (.nilFunc))⟩ := by kernel_rfl
@[go_sem] theorem ti46 : tinfo Try.prog 46 = some ⟨.func, 1, 8, (some (.nilFunc))⟩ := by kernel_rfl
@[go_sem] theorem ti47 : tinfo Try.prog 47 = some ⟨.struct [(9, 0), (9, 1), (9, 2), (4, 3)], 4, 56, (some (.agg #[.string ⟨#[]⟩, .string ⟨#[]⟩, .string ⟨#[]⟩, .bool false]))⟩ := by kernel_rfl
@[go_sem] theorem fk47 : fieldsOk Try.prog 47 = true := by kernel_rfl
@[go_sem] theorem fo47_0 : fieldOf Try.prog 47 0 = some ⟨9, 0, 1, false⟩ := by kernel_rfl
@[go_sem] theorem fo47_1 : fieldOf Try.prog 47 1 = some ⟨9, 1, 1, false⟩ := by kernel_rfl
@[go_sem] theorem fo47_2 : fieldOf Try.prog 47 2 = some ⟨9, 2, 1, false⟩ := by kernel_rfl
@[go_sem] theorem fo47_3 : fieldOf Try.prog 47 3 = some ⟨4, 3, 1, false⟩ := by kernel_rfl
@[go_sem] theorem ti48 : tinfo Try.prog 48 = some ⟨.struct [(9, 0), (9, 1), (9, 2), (4, 3)], 4, 56, (some (.agg #[.string ⟨#[]⟩, .string ⟨#[]⟩, .string ⟨#[]⟩, .bool false]))⟩ := by kernel_rfl
@[go_sem] theorem fk48 : fieldsOk Try.prog 48 = true := by kernel_rfl
@[go_sem] theorem fo48_0 : fieldOf Try.prog 48 0 = some ⟨9, 0, 1, false⟩ := by kernel_rfl
@[go_sem] theorem fo48_1 : fieldOf Try.prog 48 1 = some ⟨9, 1, 1, false⟩ := by kernel_rfl
@[go_sem] theorem fo48_2 : fieldOf Try.prog 48 2 = some ⟨9, 2, 1, false⟩ := by kernel_rfl
@[go_sem] theorem fo48_3 : fieldOf Try.prog 48 3 = some ⟨4, 3, 1, false⟩ := by kernel_rfl
@[go_sem] theorem ti49 : tinfo Try.prog 49 = some ⟨.struct [(48, 0), (9, 4), (9, 5)], 6, 88, (some (.agg #[.string ⟨#[]⟩, .string ⟨#[]⟩, .string ⟨#[]⟩, .bool false, .string ⟨#[]⟩, .string ⟨#[]⟩]))⟩ := by kernel_rfl
@[go_sem] theorem fk49 : fieldsOk Try.prog 49 = true := by kernel_rfl
@[go_sem] theorem fo49_0 : fieldOf Try.prog 49 0 = some ⟨48, 0, 4, true⟩ := by kernel_rfl
@[go_sem] theorem fo49_1 : fieldOf Try.prog 49 1 = some ⟨9, 4, 1, false⟩ := by kernel_rfl
@[go_sem] theorem fo49_2 : fieldOf Try.prog 49 2 = some ⟨9, 5, 1, false⟩ := by kernel_rfl
@[go_sem] theorem ti50 : tinfo Try.prog 50 = some ⟨.struct [(48, 0), (9, 4), (9, 5)], 6, 88, (some (.agg #[.string ⟨#[]⟩, .string ⟨#[]⟩, .string ⟨#[]⟩, .bool false, .string ⟨#[]⟩, .string ⟨#[]⟩]))⟩ := by kernel_rfl
@[go_sem] theorem fk50 : fieldsOk Try.prog 50 = true := by kernel_rfl
@[go_sem] theorem fo50_0 : fieldOf Try.prog 50 0 = some ⟨48, 0, 4, true⟩ := by kernel_rfl
@[go_sem] theorem fo50_1 : fieldOf Try.prog 50 1 = some ⟨9, 4, 1, false⟩ := by kernel_rfl
@[go_sem] theorem fo50_2 : fieldOf Try.prog 50 2 = some ⟨9, 5, 1, false⟩ := by kernel_rfl
@[go_sem] theorem ti51 : tinfo Try.prog 51 = some ⟨.func, 1, 8, (some (.nilFunc))⟩ := by kernel_rfl
@[go_sem] theorem ti52 : tinfo Try.prog 52 = some ⟨.func, 1, 8, (some (.nilFunc))⟩ := by kernel_rfl
@[go_sem] theorem ti53 : tinfo Try.prog 53 = some ⟨.func, 1, 8, (some (.nilFunc))⟩ := by kernel_rfl
@[go_sem] theorem ti54 : tinfo Try.prog 54 = some ⟨.func, 1, 8, (some (.nilFunc))⟩ := by kernel_rfl
@[go_sem] theorem ti55 : tinfo Try.prog 55 = some ⟨.func, 1, 8, (some (.nilFunc))⟩ := by kernel_rfl
@[go_sem] theorem ti56 : tinfo Try.prog 56 = some ⟨.pointer 3, 1, 8, (some (.pointer none))⟩ := by kernel_rfl
@[go_sem] theorem ti57 : tinfo Try.prog 57 = some ⟨.pointer 67, 1, 8, (some (.pointer none))⟩ := by kernel_rfl
@[go_sem] theorem ti59 : tinfo Try.prog 59 = some ⟨.func, 1, 8, (some (.nilFunc))⟩ := by kernel_rfl
@[go_sem] theorem ti60 : tinfo Try.prog 60 = some ⟨.pointer 62, 1, 8, (some (.pointer none))⟩ := by kernel_rfl
@[go_sem] theorem ti61 : tinfo Try.prog 61 = some ⟨.struct [(57, 0)], 1, 8, (some (.agg #[.pointer none]))⟩ := by kernel_rfl
@[go_sem] theorem fk61 : fieldsOk Try.prog 61 = true := by kernel_rfl
@[go_sem] theorem fo61_0 : fieldOf Try.prog 61 0 = some ⟨57, 0, 1, false⟩ := by kernel_rfl
@[go_sem] theorem ti62 : tinfo Try.prog 62 = some ⟨.struct [(57, 0)], 1, 8, (some (.agg #[.pointer none]))⟩ := by kernel_rfl
@[go_sem] theorem fk62 : fieldsOk Try.prog 62 = true := by kernel_rfl
@[go_sem] theorem fo62_0 : fieldOf Try.prog 62 0 = some ⟨57, 0, 1, false⟩ := by kernel_rfl
@[go_sem] theorem ti63 : tinfo Try.prog 63 = some ⟨.func, 1, 8, (some (.nilFunc))⟩ := by kernel_rfl
@[go_sem] theorem ti64 : tinfo Try.prog 64 = some ⟨.map 9 67, 1, 8, (some (.map none))⟩ := by kernel_rfl
@[go_sem] theorem ti65 : tinfo Try.prog 65 = some ⟨.map 9 20, 1, 8, (some (.map none))⟩ := by kernel_rfl
@[go_sem] theorem ti66 : tinfo Try.prog 66 = some ⟨.struct [(22, 0), (57, 1), (64, 2), (57, 3), (65, 4)], 5, 56, (some (.agg #[.slice none 0 0, .pointer none, .map none, .pointer none, .map none]))⟩ := by kernel_rfl
@[go_sem] theorem fk66 : fieldsOk Try.prog 66 = true := by kernel_rfl
@[go_sem] theorem fo66_0 : fieldOf Try.prog 66 0 = some ⟨22, 0, 1, false⟩ := by kernel_rfl
@[go_sem] theorem fo66_1 : fieldOf Try.prog 66 1 = some ⟨57, 1, 1, false⟩ := by kernel_rfl
@[go_sem] theorem fo66_2 : fieldOf Try.prog 66 2 = some ⟨64, 2, 1, false⟩ := by kernel_rfl
@[go_sem] theorem fo66_3 : fieldOf Try.prog 66 3 = some ⟨57, 3, 1, false⟩ := by kernel_rfl
@[go_sem] theorem fo66_4 : fieldOf Try.prog 66 4 = some ⟨65, 4, 1, false⟩ := by kernel_rfl
@[go_sem] theorem ti67 : tinfo Try.prog 67 = some ⟨.struct [(22, 0), (57, 1), (64, 2), (57, 3), (65, 4)], 5, 56, (some (.agg #[.slice none 0 0, .pointer none, .map none, .pointer none, .map none]))⟩ := by kernel_rfl
@[go_sem] theorem fk67 : fieldsOk Try.prog 67 = true := by kernel_rfl
@[go_sem] theorem fo67_0 : fieldOf Try.prog 67 0 = some ⟨22, 0, 1, false⟩ := by kernel_rfl
@[go_sem] theorem fo67_1 : fieldOf Try.prog 67 1 = some ⟨57, 1, 1, false⟩ := by kernel_rfl
@[go_sem] theorem fo67_2 : fieldOf Try.prog 67 2 = some ⟨64, 2, 1, false⟩ := by kernel_rfl
@[go_sem] theorem fo67_3 : fieldOf Try.prog 67 3 = some ⟨57, 3, 1, false⟩ := by kernel_rfl
@[go_sem] theorem fo67_4 : fieldOf Try.prog 67 4 = some ⟨65, 4, 1, false⟩ := by kernel_rfl
@[go_sem] theorem ti68 : tinfo Try.prog 68 = some ⟨.slice 5, 1, 24, (some (.slice none 0 0))⟩ := by kernel_rfl
@[go_sem] theorem ti69 : tinfo Try.prog 69 = some ⟨.func, 1, 8, (some (.nilFunc))⟩ := by kernel_rfl
@[go_sem] theorem ti70 : tinfo Try.prog 70 = some ⟨.func, 1, 8, (some (.nilFunc))⟩ := by kernel_rfl
@[go_sem] theorem ti71 : tinfo Try.prog 71 = some ⟨.slice 20, 1, 24, (some (.slice none 0 0))⟩ := by kernel_rfl
@[go_sem] theorem ti72 : tinfo Try.prog 72 = some ⟨.func, 1, 8, (some (.nilFunc))⟩ := by kernel_rfl
@[go_sem] theorem ti73 : tinfo Try.prog 73 = some ⟨.func, 1, 8, (some (.nilFunc))⟩ := by kernel_rfl
@[go_sem] theorem ti74 : tinfo Try.prog 74 = some ⟨.func, 1, 8, (some (.nilFunc))⟩ := by kernel_rfl
@[go_sem] theorem ti75 : tinfo Try.prog 75 = some ⟨.pointer 77, 1, 8, (some (.pointer none))⟩ := by kernel_rfl
@[go_sem] theorem ti76 : tinfo Try.prog 76 = some ⟨.struct [(75, 0), (68, 1)], 2, 32, (some (.agg #[.pointer none, .slice none 0 0]))⟩ := by kernel_rfl
@[go_sem] theorem fk76 : fieldsOk Try.prog 76 = true := by kernel_rfl
@[go_sem] theorem fo76_0 : fieldOf Try.prog 76 0 = some ⟨75, 0, 1, false⟩ := by kernel_rfl
@[go_sem] theorem fo76_1 : fieldOf Try.prog 76 1 = some ⟨68, 1, 1, false⟩ := by kernel_rfl
@[go_sem] theorem ti77 : tinfo Try.prog 77 = some ⟨.struct [(75, 0), (68, 1)], 2, 32, (some (.agg #[.pointer none, .slice none 0 0]))⟩ := by kernel_rfl
@[go_sem] theorem fk77 : fieldsOk Try.prog 77 = true := by kernel_rfl
@[go_sem] theorem fo77_0 : fieldOf Try.prog 77 0 = some ⟨75, 0, 1, false⟩ := by kernel_rfl
@[go_sem] theorem fo77_1 : fieldOf Try.prog 77 1 = some ⟨68, 1, 1, false⟩ := by kernel_rfl
@[go_sem] theorem ti78 : tinfo Try.prog 78 = some ⟨.func, 1, 8, (some (.nilFunc))⟩ := by kernel_rfl
@[go_sem] theorem ti79 : tinfo Try.prog 79 = some ⟨.iface [("Error", 83)], 1, 16, (some (.nilIface))⟩ := by kernel_rfl
@[go_sem] theorem ti80 : tinfo Try.prog 80 = some ⟨.iface [("Error", 83)], 1, 16, (some (.nilIface))⟩ := by kernel_rfl
@[go_sem] theorem ti82 : tinfo Try.prog 82 = some ⟨.func, 1, 8, (some (.nilFunc))⟩ := by kernel_rfl
@[go_sem] theorem ti83 : tinfo Try.prog 83 = some ⟨.func, 1, 8, (some (.nilFunc))⟩ := by kernel_rfl
@[go_sem] theorem ti84 : tinfo Try.prog 84 = some ⟨.func, 1, 8, (some (.nilFunc))⟩ := by kernel_rfl
@[go_sem] theorem ti86 : tinfo Try.prog 86 = some ⟨.pointer 5, 1, 8, (some (.pointer none))⟩ := by kernel_rfl
@[go_sem] theorem ti87 : tinfo Try.prog 87 = some ⟨.other, 1, 8, (some (.pointer none))⟩ := by kernel_rfl
@[go_sem] theorem ti88 : tinfo Try.prog 88 = some ⟨.func, 1, 8, (some (.nilFunc))⟩ := by kernel_rfl
@[go_sem] theorem ti89 : tinfo Try.prog 89 = some ⟨.func, 1, 8, (some (.nilFunc))⟩ := by kernel_rfl
@[go_sem] theorem ti90 : tinfo Try.prog 90 = some ⟨.struct [(17, 0), (17, 1), (17, 2), (9, 3)], 4, 40, (some (.agg #[.pointer none, .pointer none, .pointer none, .string ⟨#[]⟩]))⟩ := by kernel_rfl
@[go_sem] theorem fk90 : fieldsOk Try.prog 90 = true := by kernel_rfl
@[go_sem] theorem fo90_0 : fieldOf Try.prog 90 0 = some ⟨17, 0, 1, false⟩ := by kernel_rfl
@[go_sem] theorem fo90_1 : fieldOf Try.prog 90 1 = some ⟨17, 1, 1, false⟩ := by kernel_rfl
@[go_sem] theorem fo90_2 : fieldOf Try.prog 90 2 = some ⟨17, 2, 1, false⟩ := by kernel_rfl
@[go_sem] theorem fo90_3 : fieldOf Try.prog 90 3 = some ⟨9, 3, 1, false⟩ := by kernel_rfl
@[go_sem] theorem ti91 : tinfo Try.prog 91 = some ⟨.struct [(17, 0), (17, 1), (17, 2), (9, 3)], 4, 40, (some (.agg #[.pointer none, .pointer none, .pointer none, .string ⟨#[]⟩]))⟩ := by kernel_rfl
@[go_sem] theorem fk91 : fieldsOk Try.prog 91 = true := by kernel_rfl
@[go_sem] theorem fo91_0 : fieldOf Try.prog 91 0 = some ⟨17, 0, 1, false⟩ := by kernel_rfl
@[go_sem] theorem fo91_1 : fieldOf Try.prog 91 1 = some ⟨17, 1, 1, false⟩ := by kernel_rfl
@[go_sem] theorem fo91_2 : fieldOf Try.prog 91 2 = some ⟨17, 2, 1, false⟩ := by kernel_rfl
@[go_sem] theorem fo91_3 : fieldOf Try.prog 91 3 = some ⟨9, 3, 1, false⟩ := by kernel_rfl
@[go_sem] theorem ti92 : tinfo Try.prog 92 = some ⟨.array 0 16, 0, 0, (some (.agg #[]))⟩ := by kernel_rfl
@[go_sem] theorem ti93 : tinfo Try.prog 93 = some ⟨.struct [(92, 0)], 0, 0, (some (.agg #[]))⟩ := by kernel_rfl
@[go_sem] theorem fk93 : fieldsOk Try.prog 93 = true := by kernel_rfl
@[go_sem] theorem fo93_0 : fieldOf Try.prog 93 0 = some ⟨92, 0, 0, true⟩ := by kernel_rfl
@[go_sem] theorem ti94 : tinfo Try.prog 94 = some ⟨.struct [(92, 0)], 0, 0, (some (.agg #[]))⟩ := by kernel_rfl
@[go_sem] theorem fk94 : fieldsOk Try.prog 94 = true := by kernel_rfl
@[go_sem] theorem fo94_0 : fieldOf Try.prog 94 0 = some ⟨92, 0, 0, true⟩ := by kernel_rfl
@[go_sem] theorem ti95 : tinfo Try.prog 95 = some ⟨.func, 1, 8, (some (.nilFunc))⟩ := by kernel_rfl
@[go_sem] theorem ti96 : tinfo Try.prog 96 = some ⟨.int .u32, 1, 4, (some (.int .u32 0))⟩ := by kernel_rfl
@[go_sem] theorem ti97 : tinfo Try.prog 97 = some ⟨.int .u8, 1, 1, (some (.int .u8 0))⟩ := by kernel_rfl
@[go_sem] theorem ti98 : tinfo Try.prog 98 = some ⟨.int .u8, 1, 1, (some (.int .u8 0))⟩ := by kernel_rfl
@[go_sem] theorem ti99 : tinfo Try.prog 99 = some ⟨.func, 1, 8, (some (.nilFunc))⟩ := by kernel_rfl
@[go_sem] theorem ti100 : tinfo Try.prog 100 = some ⟨.int .i32, 1, 4, (some (.int .i32 0))⟩ := by kernel_rfl
@[go_sem] theorem ti101 : tinfo Try.prog 101 = some ⟨.int .i32, 1, 4, (some (.int .i32 0))⟩ := by kernel_rfl
@[go_sem] theorem ti102 : tinfo Try.prog 102 = some ⟨.struct [(12, 0), (12, 1), (96, 2), (97, 3), (5, 4), (5, 5), (98, 6), (99, 7), (86, 8), (100, 9), (101, 10)], 11, 48, (some (.agg #[.int .u64 0, .int .u64 0, .int .u32 0, .int .u8 0, .int .u8 0, .int .u8 0, .int .u8 0, .nilFunc, .pointer none, .int .i32 0, .int .i32 0]))⟩ := by kernel_rfl
@[go_sem] theorem fk102 : fieldsOk Try.prog 102 = true := by kernel_rfl
@[go_sem] theorem fo102_0 : fieldOf Try.prog 102 0 = some ⟨12, 0, 1, false⟩ := by kernel_rfl
@[go_sem] theorem fo102_1 : fieldOf Try.prog 102 1 = some ⟨12, 1, 1, false⟩ := by kernel_rfl
@[go_sem] theorem fo102_2 : fieldOf Try.prog 102 2 = some ⟨96, 2, 1, false⟩ := by kernel_rfl
@[go_sem] theorem fo102_3 : fieldOf Try.prog 102 3 = some ⟨97, 3, 1, false⟩ := by kernel_rfl
@[go_sem] theorem fo102_4 : fieldOf Try.prog 102 4 = some ⟨5, 4, 1, false⟩ := by kernel_rfl
@[go_sem] theorem fo102_5 : fieldOf Try.prog 102 5 = some ⟨5, 5, 1, false⟩ := by kernel_rfl
@[go_sem] theorem fo102_6 : fieldOf Try.prog 102 6 = some ⟨98, 6, 1, false⟩ := by kernel_rfl
@[go_sem] theorem fo102_7 : fieldOf Try.prog 102 7 = some ⟨99, 7, 1, false⟩ := by kernel_rfl
@[go_sem] theorem fo102_8 : fieldOf Try.prog 102 8 = some ⟨86, 8, 1, false⟩ := by kernel_rfl
@[go_sem] theorem fo102_9 : fieldOf Try.prog 102 9 = some ⟨100, 9, 1, false⟩ := by kernel_rfl
@[go_sem] theorem fo102_10 : fieldOf Try.prog 102 10 = some ⟨101, 10, 1, false⟩ := by kernel_rfl
@[go_sem] theorem ti103 : tinfo Try.prog 103 = some ⟨.struct [(12, 0), (12, 1), (96, 2), (97, 3), (5, 4), (5, 5), (98, 6), (99, 7), (86, 8), (100, 9), (101, 10)], 11, 48, (some (.agg #[.int .u64 0, .int .u64 0, .int .u32 0, .int .u8 0, .int .u8 0, .int .u8 0, .int .u8 0, .nilFunc, .pointer none, .int .i32 0, .int .i32 0]))⟩ := by kernel_rfl
@[go_sem] theorem fk103 : fieldsOk Try.prog 103 = true := by kernel_rfl
@[go_sem] theorem fo103_0 : fieldOf Try.prog 103 0 = some ⟨12, 0, 1, false⟩ := by kernel_rfl
@[go_sem] theorem fo103_1 : fieldOf Try.prog 103 1 = some ⟨12, 1, 1, false⟩ := by kernel_rfl
@[go_sem] theorem fo103_2 : fieldOf Try.prog 103 2 = some ⟨96, 2, 1, false⟩ := by kernel_rfl
@[go_sem] theorem fo103_3 : fieldOf Try.prog 103 3 = some ⟨97, 3, 1, false⟩ := by kernel_rfl
@[go_sem] theorem fo103_4 : fieldOf Try.prog 103 4 = some ⟨5, 4, 1, false⟩ := by kernel_rfl
@[go_sem] theorem fo103_5 : fieldOf Try.prog 103 5 = some ⟨5, 5, 1, false⟩ := by kernel_rfl
@[go_sem] theorem fo103_6 : fieldOf Try.prog 103 6 = some ⟨98, 6, 1, false⟩ := by kernel_rfl
@[go_sem] theorem fo103_7 : fieldOf Try.prog 103 7 = some ⟨99, 7, 1, false⟩ := by kernel_rfl
@[go_sem] theorem fo103_8 : fieldOf Try.prog 103 8 = some ⟨86, 8, 1, false⟩ := by kernel_rfl
@[go_sem] theorem fo103_9 : fieldOf Try.prog 103 9 = some ⟨100, 9, 1, false⟩ := by kernel_rfl
@[go_sem] theorem fo103_10 : fieldOf Try.prog 103 10 = some ⟨101, 10, 1, false⟩ := by kernel_rfl
@[go_sem] theorem ti104 : tinfo Try.prog 104 = some ⟨.func, 1, 8, (some (.nilFunc))⟩ := by kernel_rfl
@[go_sem] theorem gf2 : goodFn Try.prog 2 = true := by kernel_rfl
@[go_sem] theorem gf3 : goodFn Try.prog 3 = true := by kernel_rfl
@[go_sem] theorem gf4 : goodFn Try.prog 4 = true := by kernel_rfl
@[go_sem] theorem gf5 : goodFn Try.prog 5 = true := by kernel_rfl
@[go_sem] theorem gf6 : goodFn Try.prog 6 = true := by kernel_rfl
@[go_sem] theorem gf7 : goodFn Try.prog 7 = true := by kernel_rfl
@[go_sem] theorem gf8 : goodFn Try.prog 8 = true := by kernel_rfl
@[go_sem] theorem gf9 : goodFn Try.prog 9 = true := by kernel_rfl
@[go_sem] theorem gf10 : goodFn Try.prog 10 = true := by kernel_rfl
@[go_sem] theorem gf11 : goodFn Try.prog 11 = true := by kernel_rfl
@[go_sem] theorem gf12 : goodFn Try.prog 12 = true := by kernel_rfl
@[go_sem] theorem gf13 : goodFn Try.prog 13 = true := by kernel_rfl
@[go_sem] theorem gf14 : goodFn Try.prog 14 = true := by kernel_rfl
@[go_sem] theorem gf15 : goodFn Try.prog 15 = true := by kernel_rfl
@[go_sem] theorem gf16 : goodFn Try.prog 16 = true := by kernel_rfl
@[go_sem] theorem gf17 : goodFn Try.prog 17 = true := by kernel_rfl
@[go_sem] theorem gf18 : goodFn Try.prog 18 = true := by kernel_rfl
@[go_sem] theorem gf19 : goodFn Try.prog 19 = true := by kernel_rfl
@[go_sem] theorem gf20 : goodFn Try.prog 20 = true := by kernel_rfl
@[go_sem] theorem gf21 : goodFn Try.prog 21 = true := by kernel_rfl
@[go_sem] theorem gf22 : goodFn Try.prog 22 = true := by kernel_rfl
@[go_sem] theorem gf23 : goodFn Try.prog 23 = true := by kernel_rfl
@[go_sem] theorem gf24 : goodFn Try.prog 24 = true := by kernel_rfl
@[go_sem] theorem gf25 : goodFn Try.prog 25 = true := by kernel_rfl
@[go_sem] theorem gf26 : goodFn Try.prog 26 = true := by kernel_rfl
@[go_sem] theorem gf27 : goodFn Try.prog 27 = true := by kernel_rfl
@[go_sem] theorem gf28 : goodFn Try.prog 28 = true := by kernel_rfl
@[go_sem] theorem gf29 : goodFn Try.prog 29 = true := by kernel_rfl
@[go_sem] theorem gf30 : goodFn Try.prog 30 = true := by kernel_rfl
@[go_sem] theorem gf31 : goodFn Try.prog 31 = true := by kernel_rfl
@[go_sem] theorem gf32 : goodFn Try.prog 32 = true := by kernel_rfl
@[go_sem] theorem gf33 : goodFn Try.prog 33 = true := by kernel_rfl
@[go_sem] theorem gf34 : goodFn Try.prog 34 = true := by kernel_rfl
@[go_sem] theorem gf35 : goodFn Try.prog 35 = true := by kernel_rfl
@[go_sem] theorem gf36 : goodFn Try.prog 36 = true := by kernel_rfl
@[go_sem] theorem gf37 : goodFn Try.prog 37 = true := by kernel_rfl
@[go_sem] theorem gf38 : goodFn Try.prog 38 = true := by kernel_rfl
@[go_sem] theorem gf39 : goodFn Try.prog 39 = true := by kernel_rfl
@[go_sem] theorem gf40 : goodFn Try.prog 40 = true := by kernel_rfl
@[go_sem] theorem gf41 : goodFn Try.prog 41 = true := by kernel_rfl
@[go_sem] theorem gf42 : goodFn Try.prog 42 = true := by kernel_rfl
@[go_sem] theorem gf43 : goodFn Try.prog 43 = true := by kernel_rfl
@[go_sem] theorem gf44 : goodFn Try.prog 44 = true := by kernel_rfl
@[go_sem] theorem gf45 : goodFn Try.prog 45 = true := by kernel_rfl
@[go_sem] theorem gf46 : goodFn Try.prog 46 = true := by kernel_rfl
@[go_sem] theorem gf47 : goodFn Try.prog 47 = true := by kernel_rfl
@[go_sem] theorem gf48 : goodFn Try.prog 48 = true := by kernel_rfl
@[go_sem] theorem gf49 : goodFn Try.prog 49 = true := by kernel_rfl
@[go_sem] theorem gf50 : goodFn Try.prog 50 = true := by kernel_rfl
@[go_sem] theorem gf51 : goodFn Try.prog 51 = true := by kernel_rfl
@[go_sem] theorem gf52 : goodFn Try.prog 52 = true := by kernel_rfl
@[go_sem] theorem gf53 : goodFn Try.prog 53 = true := by kernel_rfl
@[go_sem] theorem gf54 : goodFn Try.prog 54 = true := by kernel_rfl
@[go_sem] theorem gf55 : goodFn Try.prog 55 = true := by kernel_rfl
@[go_sem] theorem gf56 : goodFn Try.prog 56 = true := by kernel_rfl
@[go_sem] theorem gf57 : goodFn Try.prog 57 = true := by kernel_rfl
@[go_sem] theorem gf58 : goodFn Try.prog 58 = true := by kernel_rfl
@[go_sem] theorem gf59 : goodFn Try.prog 59 = true := by kernel_rfl
@[go_sem] theorem gf60 : goodFn Try.prog 60 = true := by kernel_rfl
@[go_sem] theorem gf61 : goodFn Try.prog 61 = true := by kernel_rfl
@[go_sem] theorem gf62 : goodFn Try.prog 62 = true := by kernel_rfl
@[go_sem] theorem gf63 : goodFn Try.prog 63 = true := by kernel_rfl
@[go_sem] theorem gf64 : goodFn Try.prog 64 = true := by kernel_rfl
@[go_sem] theorem gf65 : goodFn Try.prog 65 = true := by kernel_rfl
@[go_sem] theorem gf66 : goodFn Try.prog 66 = true := by kernel_rfl
theorem mixed : Try.prog.follows .mixedOrders = true := by kernel_rfl
end Go.Proofs.YtcficphbjicneaaV
