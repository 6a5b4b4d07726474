/- Parts of the proof: Pg Ma Nl Au Bu Bv Bw Bx By. -/
import Derived.Test.YtbgkbgoonjkghaaGreatDoorA2
import Derived.Test.YtbgkbgoonjkghaaGreatDoorProg
import Derived.KernelRfl
import Derived.Lib.EndianBits
import Derived.Laws.Bits64b
namespace Go.Proofs.YtbgkbgoonjkghaaGreatDoor
open Go Go.Sl
theorem mkFit {P : Program} {t : Nat} {d : TypeDesc} {s b : Nat} {z : Value} {c : List Value} (h : P.underlying t = some d) (hi : (P.info? t).map (fun x => (x.size, x.bytes, x.zero)) = some (s, b, some z)) (hz : vcells z = c) : TabFits P t ⟨d, s, b, z, c⟩ := by
 refine ⟨h, ?_⟩
 cases e : P.info? t with
 | none => rw [e] at hi; cases hi
 | some x =>
  rw [e] at hi
  simp only [Option.map_some, Option.some.injEq, Prod.mk.injEq] at hi
  exact ⟨x, rfl, hi.1, hi.2.1, hi.2.2, hz⟩
abbrev ta_ (d : TypeDesc) (s b : Nat) (c : List Value) : TI := ⟨d, s, b, .agg c.toArray, c⟩
abbrev fd_ (n : String) (t o b : Nat) : Field := ⟨n, t, o, false, "", "", b⟩
abbrev fp_ (n : String) (t o b : Nat) : Field := ⟨n, t, o, false, "", "loop.example/pub-g03041/pub/dwarf", b⟩
abbrev fg_ (n : String) (t o : Nat) (e : Bool) (g p : String) (b : Nat) : Field := ⟨n, t, o, e, g, p, b⟩
abbrev F_ (t : Nat) (i : TI) : Prop := TabFits Tryz.prog t i
theorem mf_ {t : Nat} {d : TypeDesc} {s b : Nat} {z : Value} {c : List Value} (h : Tryz.prog.underlying t = some d) (hi : (Tryz.prog.info? t).map (fun x => (x.size, x.bytes, x.zero)) = some (s, b, some z) := by kernel_rfl) (hz : vcells z = c := by rfl) : F_ t ⟨d, s, b, z, c⟩ := mkFit h hi hz
abbrev ty_0 : TI := ⟨.tuple #[], 1, 0, .tuple #[], [.tuple #[]]⟩
theorem fit0 : F_ 0 ty_0 := mf_ Tryz.underlying0
abbrev ty_1 : TI := ⟨.func #[] #[] false, 1, 8, .nilFunc, [.nilFunc]⟩
theorem fit1 : F_ 1 ty_1 := mf_ Tryz.underlying1
abbrev ty_2 : TI := ⟨.int .i64, 1, 8, .int .i64 0, [.int .i64 0]⟩
theorem fit2 : F_ 2 ty_2 := mf_ Tryz.underlying2
abbrev ty_3 : TI := ty_2
theorem fit3 : F_ 3 ty_3 := mf_ Tryz.underlying3
abbrev ty_4 : TI := ⟨.bool, 1, 1, .bool false, [.bool false]⟩
theorem fit4 : F_ 4 ty_4 := mf_ Tryz.underlying4
abbrev ty_5 : TI := ⟨.int .u8, 1, 1, .int .u8 0, [.int .u8 0]⟩
theorem fit5 : F_ 5 ty_5 := mf_ Tryz.underlying5
abbrev ty_6 : TI := ty_5
theorem fit6 : F_ 6 ty_6 := mf_ Tryz.underlying6
abbrev ty_7 : TI := ta_ (.struct #[fg_ "x" 2 0 false "" "runtime" 0, fg_ "y" 3 1 false "" "runtime" 8, fg_ "signed" 4 2 false "" "runtime" 16, fg_ "code" 6 3 false "" "runtime" 17]) 4 24 [.int .i64 0, .int .i64 0, .bool false, .int .u8 0]
theorem fit7 : F_ 7 ty_7 := mf_ Tryz.underlying7
abbrev ty_8 : TI := ty_7
theorem fit8 : F_ 8 ty_8 := mf_ Tryz.underlying8
abbrev ty_9 : TI := ⟨.string, 1, 16, .string ⟨#[]⟩, [.string ⟨#[]⟩]⟩
theorem fit9 : F_ 9 ty_9 := mf_ Tryz.underlying9
abbrev ty_10 : TI := ty_9
theorem fit10 : F_ 10 ty_10 := mf_ Tryz.underlying10
abbrev ty_11 : TI := ty_9
theorem fit11 : F_ 11 ty_11 := mf_ Tryz.underlying11
abbrev ty_12 : TI := ⟨.int .u64, 1, 8, .int .u64 0, [.int .u64 0]⟩
theorem fit12 : F_ 12 ty_12 := mf_ Tryz.underlying12
abbrev ty_13 : TI := ta_ (.struct #[fg_ "msg" 9 0 false "" "runtime" 0, fg_ "addr" 12 1 false "" "runtime" 16]) 2 24 [.string ⟨#[]⟩, .int .u64 0]
theorem fit13 : F_ 13 ty_13 := mf_ Tryz.underlying13
abbrev ty_14 : TI := ty_13
theorem fit14 : F_ 14 ty_14 := mf_ Tryz.underlying14
abbrev ty_15 : TI := ⟨.pointer 356, 1, 8, .pointer none, [.pointer none]⟩
theorem fit15 : F_ 15 ty_15 := mf_ Tryz.underlying15
abbrev ty_16 : TI := ⟨.pointer 359, 1, 8, .pointer none, [.pointer none]⟩
theorem fit16 : F_ 16 ty_16 := mf_ Tryz.underlying16
abbrev ty_17 : TI := ⟨.pointer 369, 1, 8, .pointer none, [.pointer none]⟩
theorem fit17 : F_ 17 ty_17 := mf_ Tryz.underlying17
abbrev ty_18 : TI := ta_ (.struct #[fg_ "typ" 17 0 false "" "internal/runtime/maps" 0]) 1 8 [.pointer none]
theorem fit18 : F_ 18 ty_18 := mf_ Tryz.underlying18
abbrev ty_19 : TI := ty_18
theorem fit19 : F_ 19 ty_19 := mf_ Tryz.underlying19
abbrev ty_20 : TI := ⟨.interface #[], 1, 16, .nilIface, [.nilIface]⟩
theorem fit20 : F_ 20 ty_20 := mf_ Tryz.underlying20
abbrev ty_21 : TI := ⟨.int .i32, 1, 4, .int .i32 0, [.int .i32 0]⟩
theorem fit21 : F_ 21 ty_21 := mf_ Tryz.underlying21
abbrev ty_22 : TI := ta_ (.struct #[fd_ "Version" 3 0 0, fd_ "Wide" 4 1 8, fd_ "Size" 3 2 16, fd_ "Big" 4 3 24, fd_ "Far" 4 4 25]) 5 32 [.int .i64 0, .bool false, .int .i64 0, .bool false, .bool false]
theorem fit22 : F_ 22 ty_22 := mf_ Tryz.underlying22
abbrev ty_23 : TI := ty_22
theorem fit23 : F_ 23 ty_23 := mf_ Tryz.underlying23
abbrev ty_24 : TI := ⟨.slice 49, 1, 24, .slice none 0 0, [.slice none 0 0]⟩
theorem fit24 : F_ 24 ty_24 := mf_ Tryz.underlying24
abbrev ty_25 : TI := ⟨.func #[24] #[4] false, 1, 8, .nilFunc, [.nilFunc]⟩
theorem fit25 : F_ 25 ty_25 := mf_ Tryz.underlying25
abbrev ty_26 : TI := ⟨.func #[23, 24] #[4] false, 1, 8, .nilFunc, [.nilFunc]⟩
theorem fit26 : F_ 26 ty_26 := mf_ Tryz.underlying26
abbrev ty_27 : TI := ⟨.slice 5, 1, 24, .slice none 0 0, [.slice none 0 0]⟩
theorem fit27 : F_ 27 ty_27 := mf_ Tryz.underlying27
abbrev ty_28 : TI := ⟨.slice 110, 1, 24, .slice none 0 0, [.slice none 0 0]⟩
theorem fit28 : F_ 28 ty_28 := mf_ Tryz.underlying28
abbrev ty_29 : TI := ta_ (.struct #[fd_ "Abbrev" 27 0 0, fd_ "Info" 27 1 24, fd_ "Line" 27 2 48, fd_ "Ranges" 27 3 72, fd_ "Str" 27 4 96, fd_ "Added" 28 5 120, fd_ "Types" 27 6 144]) 7 168 [.slice none 0 0, .slice none 0 0, .slice none 0 0, .slice none 0 0, .slice none 0 0, .slice none 0 0, .slice none 0 0]
theorem fit29 : F_ 29 ty_29 := mf_ Tryz.underlying29
abbrev ty_30 : TI := ty_29
theorem fit30 : F_ 30 ty_30 := mf_ Tryz.underlying30
abbrev ty_31 : TI := ⟨.slice 3, 1, 24, .slice none 0 0, [.slice none 0 0]⟩
theorem fit31 : F_ 31 ty_31 := mf_ Tryz.underlying31
abbrev ty_32 : TI := ⟨.tuple #[30, 31], 1, 0, .tuple #[.agg #[.slice none 0 0, .slice none 0 0, .slice none 0 0, .slice none 0 0, .slice none 0 0, .slice none 0 0, .slice none 0 0], .slice none 0 0], [.tuple #[.agg #[.slice none 0 0, .slice none 0 0, .slice none 0 0, .slice none 0 0, .slice none 0 0, .slice none 0 0, .slice none 0 0], .slice none 0 0]]⟩
theorem fit32 : F_ 32 ty_32 := mf_ Tryz.underlying32
abbrev ty_33 : TI := ⟨.func #[23, 24] #[30, 31] false, 1, 8, .nilFunc, [.nilFunc]⟩
theorem fit33 : F_ 33 ty_33 := mf_ Tryz.underlying33
abbrev ty_34 : TI := ⟨.pointer 70, 1, 8, .pointer none, [.pointer none]⟩
theorem fit34 : F_ 34 ty_34 := mf_ Tryz.underlying34
abbrev ty_35 : TI := ⟨.func #[23, 24] #[34] false, 1, 8, .nilFunc, [.nilFunc]⟩
theorem fit35 : F_ 35 ty_35 := mf_ Tryz.underlying35
abbrev ty_36 : TI := ⟨.func #[3] #[3] false, 1, 8, .nilFunc, [.nilFunc]⟩
theorem fit36 : F_ 36 ty_36 := mf_ Tryz.underlying36
abbrev ty_37 : TI := ⟨.slice 46, 1, 24, .slice none 0 0, [.slice none 0 0]⟩
theorem fit37 : F_ 37 ty_37 := mf_ Tryz.underlying37
abbrev ty_38 : TI := ⟨.tuple #[37, 31, 31], 1, 0, .tuple #[.slice none 0 0, .slice none 0 0, .slice none 0 0], [.tuple #[.slice none 0 0, .slice none 0 0, .slice none 0 0]]⟩
theorem fit38 : F_ 38 ty_38 := mf_ Tryz.underlying38
abbrev ty_39 : TI := ⟨.func #[30, 31] #[37, 31, 31] false, 1, 8, .nilFunc, [.nilFunc]⟩
theorem fit39 : F_ 39 ty_39 := mf_ Tryz.underlying39
abbrev ty_40 : TI := ⟨.func #[37, 31, 31, 34, 31] #[4] false, 1, 8, .nilFunc, [.nilFunc]⟩
theorem fit40 : F_ 40 ty_40 := mf_ Tryz.underlying40
abbrev ty_41 : TI := ⟨.func #[23, 24, 3] #[4] false, 1, 8, .nilFunc, [.nilFunc]⟩
theorem fit41 : F_ 41 ty_41 := mf_ Tryz.underlying41
abbrev ty_42 : TI := ⟨.func #[46, 46, 4] #[4] false, 1, 8, .nilFunc, [.nilFunc]⟩
theorem fit42 : F_ 42 ty_42 := mf_ Tryz.underlying42
abbrev ty_43 : TI := ⟨.slice 93, 1, 24, .slice none 0 0, [.slice none 0 0]⟩
theorem fit43 : F_ 43 ty_43 := mf_ Tryz.underlying43
abbrev ty_44 : TI := ⟨.slice 95, 1, 24, .slice none 0 0, [.slice none 0 0]⟩
theorem fit44 : F_ 44 ty_44 := mf_ Tryz.underlying44
abbrev ty_45 : TI := ta_ (.struct #[fd_ "Kind" 3 0 0, fd_ "Name" 9 1 8, fd_ "Own" 9 2 24, fd_ "Size" 3 3 40, fd_ "Of" 3 4 48, fd_ "Count" 3 5 56, fd_ "Incomplete" 4 6 64, fd_ "Members" 43 7 72, fd_ "Params" 31 8 96, fd_ "Constants" 44 9 120]) 10 144 [.int .i64 0, .string ⟨#[]⟩, .string ⟨#[]⟩, .int .i64 0, .int .i64 0, .int .i64 0, .bool false, .slice none 0 0, .slice none 0 0, .slice none 0 0]
theorem fit45 : F_ 45 ty_45 := mf_ Tryz.underlying45
abbrev ty_46 : TI := ty_45
theorem fit46 : F_ 46 ty_46 := mf_ Tryz.underlying46
abbrev ty_47 : TI := ⟨.func #[23, 23, 24, 3] #[4] false, 1, 8, .nilFunc, [.nilFunc]⟩
theorem fit47 : F_ 47 ty_47 := mf_ Tryz.underlying47
abbrev ty_48 : TI := ta_ (.struct #[fd_ "Kind" 3 0 0, fd_ "Name" 9 1 8, fd_ "Which" 3 2 24, fd_ "Size" 3 3 32, fd_ "Of" 3 4 40, fd_ "Counts" 31 5 48, fd_ "Upper" 4 6 72, fd_ "Incomplete" 4 7 73, fd_ "Members" 43 8 80, fd_ "Params" 31 9 104, fd_ "Constants" 44 10 128]) 11 152 [.int .i64 0, .string ⟨#[]⟩, .int .i64 0, .int .i64 0, .int .i64 0, .slice none 0 0, .bool false, .bool false, .slice none 0 0, .slice none 0 0, .slice none 0 0]
theorem fit48 : F_ 48 ty_48 := mf_ Tryz.underlying48
abbrev ty_49 : TI := ty_48
theorem fit49 : F_ 49 ty_49 := mf_ Tryz.underlying49
abbrev ty_50 : TI := ⟨.func #[23, 24, 31] #[4] false, 1, 8, .nilFunc, [.nilFunc]⟩
theorem fit50 : F_ 50 ty_50 := mf_ Tryz.underlying50
abbrev ty_51 : TI := ⟨.func #[49] #[4] false, 1, 8, .nilFunc, [.nilFunc]⟩
theorem fit51 : F_ 51 ty_51 := mf_ Tryz.underlying51
abbrev ty_52 : TI := ⟨.func #[23] #[4] false, 1, 8, .nilFunc, [.nilFunc]⟩
theorem fit52 : F_ 52 ty_52 := mf_ Tryz.underlying52
abbrev ty_53 : TI := ⟨.slice 102, 1, 24, .slice none 0 0, [.slice none 0 0]⟩
theorem fit53 : F_ 53 ty_53 := mf_ Tryz.underlying53
abbrev ty_54 : TI := ⟨.tuple #[53, 31], 1, 0, .tuple #[.slice none 0 0, .slice none 0 0], [.tuple #[.slice none 0 0, .slice none 0 0]]⟩
theorem fit54 : F_ 54 ty_54 := mf_ Tryz.underlying54
abbrev ty_55 : TI := ⟨.func #[23, 24, 31] #[53, 31] false, 1, 8, .nilFunc, [.nilFunc]⟩
theorem fit55 : F_ 55 ty_55 := mf_ Tryz.underlying55
abbrev ty_56 : TI := ⟨.slice 66, 1, 24, .slice none 0 0, [.slice none 0 0]⟩
theorem fit56 : F_ 56 ty_56 := mf_ Tryz.underlying56
abbrev ty_57 : TI := ⟨.tuple #[30, 56], 1, 0, .tuple #[.agg #[.slice none 0 0, .slice none 0 0, .slice none 0 0, .slice none 0 0, .slice none 0 0, .slice none 0 0, .slice none 0 0], .slice none 0 0], [.tuple #[.agg #[.slice none 0 0, .slice none 0 0, .slice none 0 0, .slice none 0 0, .slice none 0 0, .slice none 0 0, .slice none 0 0], .slice none 0 0]]⟩
theorem fit57 : F_ 57 ty_57 := mf_ Tryz.underlying57
abbrev ty_58 : TI := ⟨.func #[62, 4] #[30, 56] false, 1, 8, .nilFunc, [.nilFunc]⟩
theorem fit58 : F_ 58 ty_58 := mf_ Tryz.underlying58
abbrev ty_59 : TI := ta_ (.struct #[fd_ "Version" 3 0 0, fd_ "Wide" 4 1 8, fd_ "AddressSize" 3 2 16, fd_ "Nodes" 53 3 24]) 4 48 [.int .i64 0, .bool false, .int .i64 0, .slice none 0 0]
theorem fit59 : F_ 59 ty_59 := mf_ Tryz.underlying59
abbrev ty_60 : TI := ty_59
theorem fit60 : F_ 60 ty_60 := mf_ Tryz.underlying60
abbrev ty_61 : TI := ⟨.func #[23, 53] #[60] false, 1, 8, .nilFunc, [.nilFunc]⟩
theorem fit61 : F_ 61 ty_61 := mf_ Tryz.underlying61
abbrev ty_62 : TI := ⟨.slice 60, 1, 24, .slice none 0 0, [.slice none 0 0]⟩
theorem fit62 : F_ 62 ty_62 := mf_ Tryz.underlying62
abbrev ty_63 : TI := ⟨.func #[66, 31] #[31] false, 1, 8, .nilFunc, [.nilFunc]⟩
theorem fit63 : F_ 63 ty_63 := mf_ Tryz.underlying63
abbrev ty_64 : TI := ⟨.slice 113, 1, 24, .slice none 0 0, [.slice none 0 0]⟩
theorem fit64 : F_ 64 ty_64 := mf_ Tryz.underlying64
abbrev ty_65 : TI := ta_ (.struct #[fd_ "Base" 3 0 0, fd_ "Entries" 64 1 8]) 2 32 [.int .i64 0, .slice none 0 0]
theorem fit65 : F_ 65 ty_65 := mf_ Tryz.underlying65
abbrev ty_66 : TI := ty_65
theorem fit66 : F_ 66 ty_66 := mf_ Tryz.underlying66
abbrev ty_67 : TI := ⟨.map 3 3, 1, 8, .map none, [.map none]⟩
theorem fit67 : F_ 67 ty_67 := mf_ Tryz.underlying67
abbrev ty_68 : TI := ⟨.slice 4, 1, 24, .slice none 0 0, [.slice none 0 0]⟩
theorem fit68 : F_ 68 ty_68 := mf_ Tryz.underlying68
abbrev ty_69 : TI := ta_ (.struct #[fg_ "l" 23 0 false "" "loop.example/pub-g03041/spec" 0, fg_ "defs" 24 5 false "" "loop.example/pub-g03041/spec" 32, fg_ "seen" 67 6 false "" "loop.example/pub-g03041/spec" 56, fd_ "Told" 37 7 64, fd_ "Known" 68 8 88]) 9 112 [.int .i64 0, .bool false, .int .i64 0, .bool false, .bool false, .slice none 0 0, .map none, .slice none 0 0, .slice none 0 0]
theorem fit69 : F_ 69 ty_69 := mf_ Tryz.underlying69
abbrev ty_70 : TI := ty_69
theorem fit70 : F_ 70 ty_70 := mf_ Tryz.underlying70
abbrev ty_71 : TI := ⟨.tuple #[3, 4], 1, 0, .tuple #[.int .i64 0, .bool false], [.tuple #[.int .i64 0, .bool false]]⟩
theorem fit71 : F_ 71 ty_71 := mf_ Tryz.underlying71
abbrev ty_72 : TI := ⟨.func #[] #[3] false, 1, 8, .nilFunc, [.nilFunc]⟩
theorem fit72 : F_ 72 ty_72 := mf_ Tryz.underlying72
abbrev ty_73 : TI := ⟨.func #[3] #[46] false, 1, 8, .nilFunc, [.nilFunc]⟩
theorem fit73 : F_ 73 ty_73 := mf_ Tryz.underlying73
abbrev ty_74 : TI := ⟨.func #[23, 24, 3] #[3, 4] false, 1, 8, .nilFunc, [.nilFunc]⟩
theorem fit74 : F_ 74 ty_74 := mf_ Tryz.underlying74
abbrev ty_75 : TI := ⟨.pointer 133, 1, 8, .pointer none, [.pointer none]⟩
theorem fit75 : F_ 75 ty_75 := mf_ Tryz.underlying75
abbrev ty_76 : TI := ⟨.interface #[("Error", 342)], 1, 16, .nilIface, [.nilIface]⟩
theorem fit76 : F_ 76 ty_76 := mf_ Tryz.underlying76
abbrev ty_77 : TI := ty_76
theorem fit77 : F_ 77 ty_77 := mf_ Tryz.underlying77
abbrev ty_78 : TI := ⟨.tuple #[75, 77], 1, 0, .tuple #[.pointer none, .nilIface], [.tuple #[.pointer none, .nilIface]]⟩
theorem fit78 : F_ 78 ty_78 := mf_ Tryz.underlying78
abbrev ty_79 : TI := ⟨.func #[30] #[75, 77] false, 1, 8, .nilFunc, [.nilFunc]⟩
theorem fit79 : F_ 79 ty_79 := mf_ Tryz.underlying79
abbrev ty_80 : TI := ⟨.func #[77] #[3] false, 1, 8, .nilFunc, [.nilFunc]⟩
theorem fit80 : F_ 80 ty_80 := mf_ Tryz.underlying80
abbrev ty_81 : TI := ⟨.pointer 84, 1, 8, .pointer none, [.pointer none]⟩
theorem fit81 : F_ 81 ty_81 := mf_ Tryz.underlying81
abbrev ty_82 : TI := ⟨.map 86 3, 1, 8, .map none, [.map none]⟩
theorem fit82 : F_ 82 ty_82 := mf_ Tryz.underlying82
abbrev ty_84 : TI := ta_ (.struct #[fg_ "seen" 82 0 false "" "loop.example/pub-g03041/impl" 0, fg_ "told" 37 1 false "" "loop.example/pub-g03041/impl" 8]) 2 32 [.map none, .slice none 0 0]
theorem fit84 : F_ 84 ty_84 := mf_ Tryz.underlying84
abbrev ty_85 : TI := ⟨.interface #[("Common", 256), ("Size", 260), ("String", 342)], 1, 16, .nilIface, [.nilIface]⟩
theorem fit85 : F_ 85 ty_85 := mf_ Tryz.underlying85
abbrev ty_86 : TI := ty_85
theorem fit86 : F_ 86 ty_86 := mf_ Tryz.underlying86
abbrev ty_87 : TI := ⟨.tuple #[86, 77], 1, 0, .tuple #[.nilIface, .nilIface], [.tuple #[.nilIface, .nilIface]]⟩
theorem fit87 : F_ 87 ty_87 := mf_ Tryz.underlying87
abbrev ty_88 : TI := ⟨.func #[90] #[86, 77] false, 1, 8, .nilFunc, [.nilFunc]⟩
theorem fit88 : F_ 88 ty_88 := mf_ Tryz.underlying88
abbrev ty_89 : TI := ⟨.int .u32, 1, 4, .int .u32 0, [.int .u32 0]⟩
theorem fit89 : F_ 89 ty_89 := mf_ Tryz.underlying89
abbrev ty_90 : TI := ty_89
theorem fit90 : F_ 90 ty_90 := mf_ Tryz.underlying90
abbrev ty_91 : TI := ⟨.func #[86] #[3] false, 1, 8, .nilFunc, [.nilFunc]⟩
theorem fit91 : F_ 91 ty_91 := mf_ Tryz.underlying91
abbrev ty_93 : TI := ta_ (.struct #[fd_ "Name" 9 0 0, fd_ "Offset" 3 1 16, fd_ "Of" 3 2 24]) 3 32 [.string ⟨#[]⟩, .int .i64 0, .int .i64 0]
theorem fit93 : F_ 93 ty_93 := mf_ Tryz.underlying93
abbrev ty_95 : TI := ta_ (.struct #[fd_ "Name" 9 0 0, fd_ "Val" 3 1 16]) 2 24 [.string ⟨#[]⟩, .int .i64 0]
theorem fit95 : F_ 95 ty_95 := mf_ Tryz.underlying95
abbrev ty_96 : TI := ⟨.func #[43] #[4] false, 1, 8, .nilFunc, [.nilFunc]⟩
theorem fit96 : F_ 96 ty_96 := mf_ Tryz.underlying96
abbrev ty_97 : TI := ⟨.func #[44] #[4] false, 1, 8, .nilFunc, [.nilFunc]⟩
theorem fit97 : F_ 97 ty_97 := mf_ Tryz.underlying97
abbrev ty_98 : TI := ⟨.func #[9] #[4] false, 1, 8, .nilFunc, [.nilFunc]⟩
theorem fit98 : F_ 98 ty_98 := mf_ Tryz.underlying98
abbrev ty_99 : TI := ⟨.func #[3, 24] #[4] false, 1, 8, .nilFunc, [.nilFunc]⟩
theorem fit99 : F_ 99 ty_99 := mf_ Tryz.underlying99
abbrev ty_100 : TI := ⟨.slice 142, 1, 24, .slice none 0 0, [.slice none 0 0]⟩
theorem fit100 : F_ 100 ty_100 := mf_ Tryz.underlying100
abbrev ty_101 : TI := ta_ (.struct #[fd_ "Tag" 3 0 0, fd_ "Children" 4 1 8, fd_ "Sibling" 4 2 9, fd_ "Attrs" 100 3 16]) 4 40 [.int .i64 0, .bool false, .bool false, .slice none 0 0]
theorem fit101 : F_ 101 ty_101 := mf_ Tryz.underlying101
abbrev ty_102 : TI := ty_101
theorem fit102 : F_ 102 ty_102 := mf_ Tryz.underlying102
abbrev ty_103 : TI := ⟨.func #[23, 49, 31] #[53] false, 1, 8, .nilFunc, [.nilFunc]⟩
theorem fit103 : F_ 103 ty_103 := mf_ Tryz.underlying103
abbrev ty_104 : TI := ⟨.pointer 106, 1, 8, .pointer none, [.pointer none]⟩
theorem fit104 : F_ 104 ty_104 := mf_ Tryz.underlying104
abbrev ty_105 : TI := ta_ (.struct #[fg_ "str" 27 0 false "" "loop.example/pub-g03041/spec" 0, fg_ "line" 27 1 false "" "loop.example/pub-g03041/spec" 24]) 2 48 [.slice none 0 0, .slice none 0 0]
theorem fit105 : F_ 105 ty_105 := mf_ Tryz.underlying105
abbrev ty_106 : TI := ty_105
theorem fit106 : F_ 106 ty_106 := mf_ Tryz.underlying106
abbrev ty_107 : TI := ⟨.func #[108, 60, 4, 104] #[66] false, 1, 8, .nilFunc, [.nilFunc]⟩
theorem fit107 : F_ 107 ty_107 := mf_ Tryz.underlying107
abbrev ty_108 : TI := ⟨.pointer 30, 1, 8, .pointer none, [.pointer none]⟩
theorem fit108 : F_ 108 ty_108 := mf_ Tryz.underlying108
abbrev ty_109 : TI := ta_ (.struct #[fd_ "Name" 9 0 0, fd_ "Bytes" 27 1 16]) 2 40 [.string ⟨#[]⟩, .slice none 0 0]
theorem fit109 : F_ 109 ty_109 := mf_ Tryz.underlying109
abbrev ty_110 : TI := ty_109
theorem fit110 : F_ 110 ty_110 := mf_ Tryz.underlying110
abbrev ty_111 : TI := ⟨.slice 268, 1, 24, .slice none 0 0, [.slice none 0 0]⟩
theorem fit111 : F_ 111 ty_111 := mf_ Tryz.underlying111
abbrev ty_112 : TI := ta_ (.struct #[fd_ "Offset" 3 0 0, fd_ "Tag" 3 1 8, fd_ "Children" 4 2 16, fd_ "Fields" 111 3 24]) 4 48 [.int .i64 0, .int .i64 0, .bool false, .slice none 0 0]
theorem fit112 : F_ 112 ty_112 := mf_ Tryz.underlying112
abbrev ty_113 : TI := ty_112
theorem fit113 : F_ 113 ty_113 := mf_ Tryz.underlying113
abbrev ty_114 : TI := ⟨.slice 9, 1, 24, .slice none 0 0, [.slice none 0 0]⟩
theorem fit114 : F_ 114 ty_114 := mf_ Tryz.underlying114
abbrev ty_115 : TI := ⟨.func #[49, 3] #[3] false, 1, 8, .nilFunc, [.nilFunc]⟩
theorem fit115 : F_ 115 ty_115 := mf_ Tryz.underlying115
abbrev ty_116 : TI := ⟨.func #[23, 24, 49, 3] #[3, 4] false, 1, 8, .nilFunc, [.nilFunc]⟩
theorem fit116 : F_ 116 ty_116 := mf_ Tryz.underlying116
abbrev ty_117 : TI := ⟨.func #[27, 27, 27, 27, 27, 27, 27, 27] #[75, 77] false, 1, 8, .nilFunc, [.nilFunc]⟩
theorem fit117 : F_ 117 ty_117 := mf_ Tryz.underlying117
abbrev ty_118 : TI := ⟨.func #[27] #[27] false, 1, 8, .nilFunc, [.nilFunc]⟩
theorem fit118 : F_ 118 ty_118 := mf_ Tryz.underlying118
abbrev ty_119 : TI := ⟨.func #[9, 27] #[77] false, 1, 8, .nilFunc, [.nilFunc]⟩
theorem fit119 : F_ 119 ty_119 := mf_ Tryz.underlying119
abbrev ty_120 : TI := ta_ (.struct #[fd_ "Name" 9 0 0, fd_ "Offset" 90 1 16, fd_ "Err" 9 2 24]) 3 40 [.string ⟨#[]⟩, .int .u32 0, .string ⟨#[]⟩]
theorem fit120 : F_ 120 ty_120 := mf_ Tryz.underlying120
abbrev ty_121 : TI := ty_120
theorem fit121 : F_ 121 ty_121 := mf_ Tryz.underlying121
abbrev ty_122 : TI := ⟨.tuple #[121, 4], 1, 0, .tuple #[.agg #[.string ⟨#[]⟩, .int .u32 0, .string ⟨#[]⟩], .bool false], [.tuple #[.agg #[.string ⟨#[]⟩, .int .u32 0, .string ⟨#[]⟩], .bool false]]⟩
theorem fit122 : F_ 122 ty_122 := mf_ Tryz.underlying122
abbrev ty_123 : TI := ⟨.func #[9, 158, 90, 129, 159] #[86, 77] false, 1, 8, .nilFunc, [.nilFunc]⟩
theorem fit123 : F_ 123 ty_123 := mf_ Tryz.underlying123
abbrev ty_124 : TI := ⟨.pointer 258, 1, 8, .pointer none, [.pointer none]⟩
theorem fit124 : F_ 124 ty_124 := mf_ Tryz.underlying124
abbrev ty_126 : TI := ⟨.map 140 276, 1, 8, .map none, [.map none]⟩
theorem fit126 : F_ 126 ty_126 := mf_ Tryz.underlying126
abbrev ty_127 : TI := ta_ (.struct #[fd_ "Big" 4 0 0]) 1 1 [.bool false]
theorem fit127 : F_ 127 ty_127 := mf_ Tryz.underlying127
abbrev ty_128 : TI := ty_127
theorem fit128 : F_ 128 ty_128 := mf_ Tryz.underlying128
abbrev ty_129 : TI := ⟨.map 90 86, 1, 8, .map none, [.map none]⟩
theorem fit129 : F_ 129 ty_129 := mf_ Tryz.underlying129
abbrev ty_130 : TI := ⟨.map 140 287, 1, 8, .map none, [.map none]⟩
theorem fit130 : F_ 130 ty_130 := mf_ Tryz.underlying130
abbrev ty_131 : TI := ⟨.slice 279, 1, 24, .slice none 0 0, [.slice none 0 0]⟩
theorem fit131 : F_ 131 ty_131 := mf_ Tryz.underlying131
abbrev ty_132 : TI := ta_ (.struct #[fp_ "abbrev" 27 0 0, fp_ "aranges" 27 1 24, fp_ "frame" 27 2 48, fp_ "info" 27 3 72, fp_ "line" 27 4 96, fp_ "pubnames" 27 5 120, fp_ "ranges" 27 6 144, fp_ "str" 27 7 168, fp_ "addr" 27 8 192, fp_ "lineStr" 27 9 216, fp_ "strOffsets" 27 10 240, fp_ "rngLists" 27 11 264, fp_ "abbrevCache" 126 12 288, fp_ "bigEndian" 4 13 296, fp_ "order" 128 14 297, fp_ "typeCache" 129 15 304, fp_ "typeSigs" 130 16 312, fp_ "unit" 131 17 320]) 18 344 [.slice none 0 0, .slice none 0 0, .slice none 0 0, .slice none 0 0, .slice none 0 0, .slice none 0 0, .slice none 0 0, .slice none 0 0, .slice none 0 0, .slice none 0 0, .slice none 0 0, .slice none 0 0, .map none, .bool false, .bool false, .map none, .map none, .slice none 0 0]
theorem fit132 : F_ 132 ty_132 := mf_ Tryz.underlying132
abbrev ty_133 : TI := ty_132
theorem fit133 : F_ 133 ty_133 := mf_ Tryz.underlying133
abbrev ty_134 : TI := ⟨.pointer 182, 1, 8, .pointer none, [.pointer none]⟩
theorem fit134 : F_ 134 ty_134 := mf_ Tryz.underlying134
abbrev ty_135 : TI := ⟨.pointer 247, 1, 8, .pointer none, [.pointer none]⟩
theorem fit135 : F_ 135 ty_135 := mf_ Tryz.underlying135
abbrev ty_140 : TI := ty_12
theorem fit140 : F_ 140 ty_140 := mf_ Tryz.underlying140
abbrev ty_142 : TI := ta_ (.struct #[fd_ "Attr" 3 0 0, fd_ "Form" 3 1 8, fd_ "Indirect" 4 2 16, fd_ "N" 140 3 24, fd_ "S" 9 4 32, fd_ "B" 27 5 48]) 6 72 [.int .i64 0, .int .i64 0, .bool false, .int .u64 0, .string ⟨#[]⟩, .slice none 0 0]
theorem fit142 : F_ 142 ty_142 := mf_ Tryz.underlying142
abbrev ty_147 : TI := ⟨.slice 27, 1, 24, .slice none 0 0, [.slice none 0 0]⟩
theorem fit147 : F_ 147 ty_147 := mf_ Tryz.underlying147
abbrev ty_151 : TI := ⟨.func #[3] #[140] false, 1, 8, .nilFunc, [.nilFunc]⟩
theorem fit151 : F_ 151 ty_151 := mf_ Tryz.underlying151
abbrev ty_152 : TI := ⟨.func #[140, 3, 4] #[27] false, 1, 8, .nilFunc, [.nilFunc]⟩
theorem fit152 : F_ 152 ty_152 := mf_ Tryz.underlying152
abbrev ty_153 : TI := ⟨.func #[53, 3] #[3] false, 1, 8, .nilFunc, [.nilFunc]⟩
theorem fit153 : F_ 153 ty_153 := mf_ Tryz.underlying153
abbrev ty_155 : TI := ⟨.tuple #[131, 77], 1, 0, .tuple #[.slice none 0 0, .nilIface], [.tuple #[.slice none 0 0, .nilIface]]⟩
theorem fit155 : F_ 155 ty_155 := mf_ Tryz.underlying155
abbrev ty_156 : TI := ⟨.func #[] #[131, 77] false, 1, 8, .nilFunc, [.nilFunc]⟩
theorem fit156 : F_ 156 ty_156 := mf_ Tryz.underlying156
abbrev ty_158 : TI := ⟨.interface #[("AddressSize", 72), ("Next", 164), ("Seek", 161), ("loop.example/pub-g03041/pub/dwarf.clone", 177), ("loop.example/pub-g03041/pub/dwarf.offset", 173)], 1, 16, .nilIface, [.nilIface]⟩
theorem fit158 : F_ 158 ty_158 := mf_ Tryz.underlying158
abbrev ty_159 : TI := ⟨.pointer 172, 1, 8, .pointer none, [.pointer none]⟩
theorem fit159 : F_ 159 ty_159 := mf_ Tryz.underlying159
abbrev ty_160 : TI := ⟨.tuple #[86, 4], 1, 0, .tuple #[.nilIface, .bool false], [.tuple #[.nilIface, .bool false]]⟩
theorem fit160 : F_ 160 ty_160 := mf_ Tryz.underlying160
abbrev ty_161 : TI := ⟨.func #[90] #[] false, 1, 8, .nilFunc, [.nilFunc]⟩
theorem fit161 : F_ 161 ty_161 := mf_ Tryz.underlying161
abbrev ty_162 : TI := ⟨.pointer 168, 1, 8, .pointer none, [.pointer none]⟩
theorem fit162 : F_ 162 ty_162 := mf_ Tryz.underlying162
abbrev ty_163 : TI := ⟨.tuple #[162, 77], 1, 0, .tuple #[.pointer none, .nilIface], [.tuple #[.pointer none, .nilIface]]⟩
theorem fit163 : F_ 163 ty_163 := mf_ Tryz.underlying163
abbrev ty_165 : TI := ty_89
theorem fit165 : F_ 165 ty_165 := mf_ Tryz.underlying165
abbrev ty_166 : TI := ⟨.slice 294, 1, 24, .slice none 0 0, [.slice none 0 0]⟩
theorem fit166 : F_ 166 ty_166 := mf_ Tryz.underlying166
abbrev ty_168 : TI := ta_ (.struct #[fd_ "Offset" 90 0 0, fd_ "Tag" 165 1 4, fd_ "Children" 4 2 8, fd_ "Field" 166 3 16]) 4 40 [.int .u32 0, .int .u32 0, .bool false, .slice none 0 0]
theorem fit168 : F_ 168 ty_168 := mf_ Tryz.underlying168
abbrev ty_169 : TI := ⟨.slice 248, 1, 24, .slice none 0 0, [.slice none 0 0]⟩
theorem fit169 : F_ 169 ty_169 := mf_ Tryz.underlying169
abbrev ty_170 : TI := ⟨.slice 216, 1, 24, .slice none 0 0, [.slice none 0 0]⟩
theorem fit170 : F_ 170 ty_170 := mf_ Tryz.underlying170
abbrev ty_172 : TI := ta_ (.struct #[fp_ "typedefs" 169 0 0, fp_ "arraytypes" 170 1 24]) 2 48 [.slice none 0 0, .slice none 0 0]
theorem fit172 : F_ 172 ty_172 := mf_ Tryz.underlying172
abbrev ty_174 : TI := ⟨.func #[] #[162] false, 1, 8, .nilFunc, [.nilFunc]⟩
theorem fit174 : F_ 174 ty_174 := mf_ Tryz.underlying174
abbrev ty_175 : TI := ⟨.func #[176] #[20] false, 1, 8, .nilFunc, [.nilFunc]⟩
theorem fit175 : F_ 175 ty_175 := mf_ Tryz.underlying175
abbrev ty_176 : TI := ty_89
theorem fit176 : F_ 176 ty_176 := mf_ Tryz.underlying176
abbrev ty_179 : TI := ta_ (.struct #[fd_ "ByteSize" 2 0 0, fd_ "Name" 9 1 8]) 2 24 [.int .i64 0, .string ⟨#[]⟩]
theorem fit179 : F_ 179 ty_179 := mf_ Tryz.underlying179
abbrev ty_180 : TI := ty_179
theorem fit180 : F_ 180 ty_180 := mf_ Tryz.underlying180
abbrev ty_181 : TI := ta_ (.struct #[fg_ "CommonType" 180 0 true "" "" 0]) 2 24 [.int .i64 0, .string ⟨#[]⟩]
theorem fit181 : F_ 181 ty_181 := mf_ Tryz.underlying181
abbrev ty_182 : TI := ty_181
theorem fit182 : F_ 182 ty_182 := mf_ Tryz.underlying182
abbrev ty_183 : TI := ⟨.func #[162] #[86] false, 1, 8, .nilFunc, [.nilFunc]⟩
theorem fit183 : F_ 183 ty_183 := mf_ Tryz.underlying183
abbrev ty_184 : TI := ⟨.pointer 186, 1, 8, .pointer none, [.pointer none]⟩
theorem fit184 : F_ 184 ty_184 := mf_ Tryz.underlying184
abbrev ty_186 : TI := ta_ (.struct #[fg_ "CommonType" 180 0 true "" "" 0, fd_ "Type" 86 2 24, fd_ "StrideBitSize" 2 3 40, fd_ "Count" 2 4 48]) 5 56 [.int .i64 0, .string ⟨#[]⟩, .nilIface, .int .i64 0, .int .i64 0]
theorem fit186 : F_ 186 ty_186 := mf_ Tryz.underlying186
abbrev ty_187 : TI := ⟨.tuple #[2, 4], 1, 0, .tuple #[.int .i64 0, .bool false], [.tuple #[.int .i64 0, .bool false]]⟩
theorem fit187 : F_ 187 ty_187 := mf_ Tryz.underlying187
abbrev ty_188 : TI := ⟨.slice 2, 1, 24, .slice none 0 0, [.slice none 0 0]⟩
theorem fit188 : F_ 188 ty_188 := mf_ Tryz.underlying188
abbrev ty_189 : TI := ⟨.tuple #[9, 4], 1, 0, .tuple #[.string ⟨#[]⟩, .bool false], [.tuple #[.string ⟨#[]⟩, .bool false]]⟩
theorem fit189 : F_ 189 ty_189 := mf_ Tryz.underlying189
abbrev ty_190 : TI := ⟨.pointer 194, 1, 8, .pointer none, [.pointer none]⟩
theorem fit190 : F_ 190 ty_190 := mf_ Tryz.underlying190
abbrev ty_192 : TI := ta_ (.struct #[fg_ "CommonType" 180 0 true "" "" 0, fd_ "BitSize" 2 2 24, fd_ "BitOffset" 2 3 32, fd_ "DataBitOffset" 2 4 40]) 5 48 [.int .i64 0, .string ⟨#[]⟩, .int .i64 0, .int .i64 0, .int .i64 0]
theorem fit192 : F_ 192 ty_192 := mf_ Tryz.underlying192
abbrev ty_194 : TI := ta_ (.struct #[fg_ "BasicType" 192 0 true "" "" 0]) 5 48 [.int .i64 0, .string ⟨#[]⟩, .int .i64 0, .int .i64 0, .int .i64 0]
theorem fit194 : F_ 194 ty_194 := mf_ Tryz.underlying194
abbrev ty_195 : TI := ⟨.pointer 196, 1, 8, .pointer none, [.pointer none]⟩
theorem fit195 : F_ 195 ty_195 := mf_ Tryz.underlying195
abbrev ty_196 : TI := ty_194
theorem fit196 : F_ 196 ty_196 := mf_ Tryz.underlying196
abbrev ty_197 : TI := ⟨.pointer 198, 1, 8, .pointer none, [.pointer none]⟩
theorem fit197 : F_ 197 ty_197 := mf_ Tryz.underlying197
abbrev ty_198 : TI := ty_194
theorem fit198 : F_ 198 ty_198 := mf_ Tryz.underlying198
abbrev ty_199 : TI := ⟨.pointer 200, 1, 8, .pointer none, [.pointer none]⟩
theorem fit199 : F_ 199 ty_199 := mf_ Tryz.underlying199
abbrev ty_200 : TI := ty_194
theorem fit200 : F_ 200 ty_200 := mf_ Tryz.underlying200
abbrev ty_201 : TI := ⟨.pointer 202, 1, 8, .pointer none, [.pointer none]⟩
theorem fit201 : F_ 201 ty_201 := mf_ Tryz.underlying201
abbrev ty_202 : TI := ty_194
theorem fit202 : F_ 202 ty_202 := mf_ Tryz.underlying202
abbrev ty_203 : TI := ⟨.pointer 204, 1, 8, .pointer none, [.pointer none]⟩
theorem fit203 : F_ 203 ty_203 := mf_ Tryz.underlying203
abbrev ty_204 : TI := ty_194
theorem fit204 : F_ 204 ty_204 := mf_ Tryz.underlying204
abbrev ty_205 : TI := ⟨.pointer 206, 1, 8, .pointer none, [.pointer none]⟩
theorem fit205 : F_ 205 ty_205 := mf_ Tryz.underlying205
abbrev ty_206 : TI := ty_194
theorem fit206 : F_ 206 ty_206 := mf_ Tryz.underlying206
abbrev ty_207 : TI := ⟨.pointer 208, 1, 8, .pointer none, [.pointer none]⟩
theorem fit207 : F_ 207 ty_207 := mf_ Tryz.underlying207
abbrev ty_208 : TI := ty_194
theorem fit208 : F_ 208 ty_208 := mf_ Tryz.underlying208
abbrev ty_209 : TI := ⟨.pointer 192, 1, 8, .pointer none, [.pointer none]⟩
theorem fit209 : F_ 209 ty_209 := mf_ Tryz.underlying209
abbrev ty_210 : TI := ⟨.interface #[("Basic", 211)], 1, 16, .nilIface, [.nilIface]⟩
theorem fit210 : F_ 210 ty_210 := mf_ Tryz.underlying210
abbrev ty_211 : TI := ⟨.func #[] #[209] false, 1, 8, .nilFunc, [.nilFunc]⟩
theorem fit211 : F_ 211 ty_211 := mf_ Tryz.underlying211
abbrev ty_212 : TI := ⟨.pointer 215, 1, 8, .pointer none, [.pointer none]⟩
theorem fit212 : F_ 212 ty_212 := mf_ Tryz.underlying212
abbrev ty_213 : TI := ⟨.slice 217, 1, 24, .slice none 0 0, [.slice none 0 0]⟩
theorem fit213 : F_ 213 ty_213 := mf_ Tryz.underlying213
abbrev ty_215 : TI := ta_ (.struct #[fg_ "CommonType" 180 0 true "" "" 0, fd_ "StructName" 9 2 24, fd_ "Kind" 9 3 40, fd_ "Field" 213 4 56, fd_ "Incomplete" 4 5 80]) 6 88 [.int .i64 0, .string ⟨#[]⟩, .string ⟨#[]⟩, .string ⟨#[]⟩, .slice none 0 0, .bool false]
theorem fit215 : F_ 215 ty_215 := mf_ Tryz.underlying215
abbrev ty_216 : TI := ⟨.pointer 86, 1, 8, .pointer none, [.pointer none]⟩
theorem fit216 : F_ 216 ty_216 := mf_ Tryz.underlying216
abbrev ty_217 : TI := ⟨.pointer 219, 1, 8, .pointer none, [.pointer none]⟩
theorem fit217 : F_ 217 ty_217 := mf_ Tryz.underlying217
abbrev ty_219 : TI := ta_ (.struct #[fd_ "Name" 9 0 0, fd_ "Type" 86 1 16, fd_ "ByteOffset" 2 2 32, fd_ "ByteSize" 2 3 40, fd_ "BitOffset" 2 4 48, fd_ "DataBitOffset" 2 5 56, fd_ "BitSize" 2 6 64]) 7 72 [.string ⟨#[]⟩, .nilIface, .int .i64 0, .int .i64 0, .int .i64 0, .int .i64 0, .int .i64 0]
theorem fit219 : F_ 219 ty_219 := mf_ Tryz.underlying219
abbrev ty_221 : TI := ⟨.interface #[("loop.example/pub-g03041/pub/dwarf.addrsize", 72), ("loop.example/pub-g03041/pub/dwarf.dwarf64", 341), ("loop.example/pub-g03041/pub/dwarf.version", 72)], 1, 16, .nilIface, [.nilIface]⟩
theorem fit221 : F_ 221 ty_221 := mf_ Tryz.underlying221
abbrev ty_223 : TI := ta_ (.struct #[fp_ "dwarf" 75 0 0, fp_ "order" 128 1 8, fp_ "format" 221 2 16, fp_ "name" 9 3 32, fp_ "off" 90 4 48, fp_ "data" 27 5 56, fp_ "err" 77 6 80]) 7 96 [.pointer none, .bool false, .nilIface, .string ⟨#[]⟩, .int .u32 0, .slice none 0 0, .nilIface]
theorem fit223 : F_ 223 ty_223 := mf_ Tryz.underlying223
abbrev ty_226 : TI := ta_ (.struct #[]) 0 0 []
theorem fit226 : F_ 226 ty_226 := mf_ Tryz.underlying226
abbrev ty_230 : TI := ⟨.pointer 232, 1, 8, .pointer none, [.pointer none]⟩
theorem fit230 : F_ 230 ty_230 := mf_ Tryz.underlying230
abbrev ty_232 : TI := ta_ (.struct #[fg_ "CommonType" 180 0 true "" "" 0, fd_ "Qual" 9 2 24, fd_ "Type" 86 3 40]) 4 56 [.int .i64 0, .string ⟨#[]⟩, .string ⟨#[]⟩, .nilIface]
theorem fit232 : F_ 232 ty_232 := mf_ Tryz.underlying232
abbrev ty_233 : TI := ⟨.pointer 236, 1, 8, .pointer none, [.pointer none]⟩
theorem fit233 : F_ 233 ty_233 := mf_ Tryz.underlying233
abbrev ty_234 : TI := ⟨.slice 237, 1, 24, .slice none 0 0, [.slice none 0 0]⟩
theorem fit234 : F_ 234 ty_234 := mf_ Tryz.underlying234
abbrev ty_236 : TI := ta_ (.struct #[fg_ "CommonType" 180 0 true "" "" 0, fd_ "EnumName" 9 2 24, fd_ "Val" 234 3 40]) 4 64 [.int .i64 0, .string ⟨#[]⟩, .string ⟨#[]⟩, .slice none 0 0]
theorem fit236 : F_ 236 ty_236 := mf_ Tryz.underlying236
abbrev ty_237 : TI := ⟨.pointer 239, 1, 8, .pointer none, [.pointer none]⟩
theorem fit237 : F_ 237 ty_237 := mf_ Tryz.underlying237
abbrev ty_239 : TI := ta_ (.struct #[fd_ "Name" 9 0 0, fd_ "Val" 2 1 16]) 2 24 [.string ⟨#[]⟩, .int .i64 0]
theorem fit239 : F_ 239 ty_239 := mf_ Tryz.underlying239
abbrev ty_240 : TI := ⟨.pointer 242, 1, 8, .pointer none, [.pointer none]⟩
theorem fit240 : F_ 240 ty_240 := mf_ Tryz.underlying240
abbrev ty_241 : TI := ta_ (.struct #[fg_ "CommonType" 180 0 true "" "" 0, fd_ "Type" 86 2 24]) 3 40 [.int .i64 0, .string ⟨#[]⟩, .nilIface]
theorem fit241 : F_ 241 ty_241 := mf_ Tryz.underlying241
abbrev ty_242 : TI := ty_241
theorem fit242 : F_ 242 ty_242 := mf_ Tryz.underlying242
abbrev ty_243 : TI := ⟨.pointer 246, 1, 8, .pointer none, [.pointer none]⟩
theorem fit243 : F_ 243 ty_243 := mf_ Tryz.underlying243
abbrev ty_244 : TI := ⟨.slice 86, 1, 24, .slice none 0 0, [.slice none 0 0]⟩
theorem fit244 : F_ 244 ty_244 := mf_ Tryz.underlying244
abbrev ty_245 : TI := ta_ (.struct #[fg_ "CommonType" 180 0 true "" "" 0, fd_ "ReturnType" 86 2 24, fd_ "ParamType" 244 3 40]) 4 64 [.int .i64 0, .string ⟨#[]⟩, .nilIface, .slice none 0 0]
theorem fit245 : F_ 245 ty_245 := mf_ Tryz.underlying245
abbrev ty_246 : TI := ty_245
theorem fit246 : F_ 246 ty_246 := mf_ Tryz.underlying246
abbrev ty_247 : TI := ty_181
theorem fit247 : F_ 247 ty_247 := mf_ Tryz.underlying247
abbrev ty_248 : TI := ⟨.pointer 249, 1, 8, .pointer none, [.pointer none]⟩
theorem fit248 : F_ 248 ty_248 := mf_ Tryz.underlying248
abbrev ty_249 : TI := ty_241
theorem fit249 : F_ 249 ty_249 := mf_ Tryz.underlying249
abbrev ty_250 : TI := ⟨.pointer 251, 1, 8, .pointer none, [.pointer none]⟩
theorem fit250 : F_ 250 ty_250 := mf_ Tryz.underlying250
abbrev ty_251 : TI := ty_194
theorem fit251 : F_ 251 ty_251 := mf_ Tryz.underlying251
abbrev ty_252 : TI := ⟨.pointer 254, 1, 8, .pointer none, [.pointer none]⟩
theorem fit252 : F_ 252 ty_252 := mf_ Tryz.underlying252
abbrev ty_254 : TI := ta_ (.struct #[fg_ "CommonType" 180 0 true "" "" 0, fd_ "Tag" 165 2 24]) 3 32 [.int .i64 0, .string ⟨#[]⟩, .int .u32 0]
theorem fit254 : F_ 254 ty_254 := mf_ Tryz.underlying254
abbrev ty_255 : TI := ⟨.pointer 180, 1, 8, .pointer none, [.pointer none]⟩
theorem fit255 : F_ 255 ty_255 := mf_ Tryz.underlying255
abbrev ty_256 : TI := ⟨.func #[] #[255] false, 1, 8, .nilFunc, [.nilFunc]⟩
theorem fit256 : F_ 256 ty_256 := mf_ Tryz.underlying256
abbrev ty_258 : TI := ta_ (.struct #[fp_ "b" 223 0 0, fp_ "d" 75 7 96, fp_ "err" 77 8 104, fp_ "unit" 3 9 120, fp_ "lastUnit" 4 10 128, fp_ "lastChildren" 4 11 129, fp_ "lastSibling" 90 12 132, fp_ "cu" 162 13 136]) 14 144 [.pointer none, .bool false, .nilIface, .string ⟨#[]⟩, .int .u32 0, .slice none 0 0, .nilIface, .pointer none, .nilIface, .int .i64 0, .bool false, .bool false, .int .u32 0, .pointer none]
theorem fit258 : F_ 258 ty_258 := mf_ Tryz.underlying258
abbrev ty_264 : TI := ty_12
theorem fit264 : F_ 264 ty_264 := mf_ Tryz.underlying264
abbrev ty_266 : TI := ta_ (.struct #[fd_ "Class" 3 0 0, fd_ "Kind" 3 1 8, fd_ "N" 140 2 16, fd_ "S" 9 3 24, fd_ "B" 27 4 40]) 5 64 [.int .i64 0, .int .i64 0, .int .u64 0, .string ⟨#[]⟩, .slice none 0 0]
theorem fit266 : F_ 266 ty_266 := mf_ Tryz.underlying266
abbrev ty_268 : TI := ta_ (.struct #[fd_ "Attr" 3 0 0, fd_ "Value" 266 1 8]) 6 72 [.int .i64 0, .int .i64 0, .int .i64 0, .int .u64 0, .string ⟨#[]⟩, .slice none 0 0]
theorem fit268 : F_ 268 ty_268 := mf_ Tryz.underlying268
abbrev ty_270 : TI := ⟨.tuple #[90, 4], 1, 0, .tuple #[.int .u32 0, .bool false], [.tuple #[.int .u32 0, .bool false]]⟩
theorem fit270 : F_ 270 ty_270 := mf_ Tryz.underlying270
abbrev ty_274 : TI := ⟨.pointer 279, 1, 8, .pointer none, [.pointer none]⟩
theorem fit274 : F_ 274 ty_274 := mf_ Tryz.underlying274
abbrev ty_276 : TI := ⟨.map 89 316, 1, 8, .map none, [.map none]⟩
theorem fit276 : F_ 276 ty_276 := mf_ Tryz.underlying276
abbrev ty_277 : TI := ⟨.pointer 324, 1, 8, .pointer none, [.pointer none]⟩
theorem fit277 : F_ 277 ty_277 := mf_ Tryz.underlying277
abbrev ty_279 : TI := ta_ (.struct #[fp_ "base" 90 0 0, fp_ "off" 90 1 4, fp_ "data" 27 2 8, fp_ "atable" 276 3 32, fg_ "unit5" 277 4 true "" "loop.example/pub-g03041/pub/dwarf" 40, fp_ "asize" 3 5 48, fp_ "vers" 3 6 56, fp_ "is64" 4 7 64, fp_ "utype" 5 8 65]) 9 72 [.int .u32 0, .int .u32 0, .slice none 0 0, .map none, .pointer none, .int .i64 0, .int .i64 0, .bool false, .int .u8 0]
theorem fit279 : F_ 279 ty_279 := mf_ Tryz.underlying279
abbrev ty_280 : TI := ⟨.int .u16, 1, 2, .int .u16 0, [.int .u16 0]⟩
theorem fit280 : F_ 280 ty_280 := mf_ Tryz.underlying280
abbrev ty_284 : TI := ⟨.tuple #[276, 77], 1, 0, .tuple #[.map none, .nilIface], [.tuple #[.map none, .nilIface]]⟩
theorem fit284 : F_ 284 ty_284 := mf_ Tryz.underlying284
abbrev ty_287 : TI := ⟨.pointer 289, 1, 8, .pointer none, [.pointer none]⟩
theorem fit287 : F_ 287 ty_287 := mf_ Tryz.underlying287
abbrev ty_289 : TI := ta_ (.struct #[fg_ "unit" 279 0 true "" "loop.example/pub-g03041/pub/dwarf" 0, fp_ "toff" 90 9 72, fp_ "name" 9 10 80, fp_ "cache" 86 11 96]) 12 112 [.int .u32 0, .int .u32 0, .slice none 0 0, .map none, .pointer none, .int .i64 0, .int .i64 0, .bool false, .int .u8 0, .int .u32 0, .string ⟨#[]⟩, .nilIface]
theorem fit289 : F_ 289 ty_289 := mf_ Tryz.underlying289
abbrev ty_290 : TI := ⟨.pointer 294, 1, 8, .pointer none, [.pointer none]⟩
theorem fit290 : F_ 290 ty_290 := mf_ Tryz.underlying290
abbrev ty_292 : TI := ty_2
theorem fit292 : F_ 292 ty_292 := mf_ Tryz.underlying292
abbrev ty_294 : TI := ta_ (.struct #[fd_ "Attr" 176 0 0, fd_ "Val" 20 1 8, fd_ "Class" 292 2 24]) 3 32 [.int .u32 0, .nilIface, .int .i64 0]
theorem fit294 : F_ 294 ty_294 := mf_ Tryz.underlying294
abbrev ty_299 : TI := ⟨.pointer 223, 1, 8, .pointer none, [.pointer none]⟩
theorem fit299 : F_ 299 ty_299 := mf_ Tryz.underlying299
abbrev ty_300 : TI := ⟨.tuple #[140, 264], 1, 0, .tuple #[.int .u64 0, .int .u64 0], [.tuple #[.int .u64 0, .int .u64 0]]⟩
theorem fit300 : F_ 300 ty_300 := mf_ Tryz.underlying300
abbrev ty_302 : TI := ⟨.tuple #[184, 4], 1, 0, .tuple #[.pointer none, .bool false], [.tuple #[.pointer none, .bool false]]⟩
theorem fit302 : F_ 302 ty_302 := mf_ Tryz.underlying302
abbrev ty_312 : TI := ⟨.tuple #[276, 4], 1, 0, .tuple #[.map none, .bool false], [.tuple #[.map none, .bool false]]⟩
theorem fit312 : F_ 312 ty_312 := mf_ Tryz.underlying312
abbrev ty_313 : TI := ty_89
theorem fit313 : F_ 313 ty_313 := mf_ Tryz.underlying313
abbrev ty_314 : TI := ⟨.slice 318, 1, 24, .slice none 0 0, [.slice none 0 0]⟩
theorem fit314 : F_ 314 ty_314 := mf_ Tryz.underlying314
abbrev ty_316 : TI := ta_ (.struct #[fp_ "tag" 165 0 0, fp_ "children" 4 1 4, fp_ "field" 314 2 8]) 3 32 [.int .u32 0, .bool false, .slice none 0 0]
theorem fit316 : F_ 316 ty_316 := mf_ Tryz.underlying316
abbrev ty_318 : TI := ta_ (.struct #[fp_ "attr" 176 0 0, fp_ "fmt" 313 1 4, fp_ "class" 292 2 8, fp_ "val" 2 3 16]) 4 24 [.int .u32 0, .int .u32 0, .int .i64 0, .int .i64 0]
theorem fit318 : F_ 318 ty_318 := mf_ Tryz.underlying318
abbrev ty_324 : TI := ta_ (.struct #[fp_ "addrBase" 140 0 0, fp_ "strOffsetsBase" 140 1 8, fp_ "rngListsBase" 140 2 16, fp_ "locListsBase" 140 3 24]) 4 32 [.int .u64 0, .int .u64 0, .int .u64 0, .int .u64 0]
theorem fit324 : F_ 324 ty_324 := mf_ Tryz.underlying324
abbrev ty_327 : TI := ⟨.func #[3] #[4] false, 1, 8, .nilFunc, [.nilFunc]⟩
theorem fit327 : F_ 327 ty_327 := mf_ Tryz.underlying327
abbrev ty_330 : TI := ⟨.map 176 4, 1, 8, .map none, [.map none]⟩
theorem fit330 : F_ 330 ty_330 := mf_ Tryz.underlying330
abbrev ty_331 : TI := ⟨.tuple #[292, 4], 1, 0, .tuple #[.int .i64 0, .bool false], [.tuple #[.int .i64 0, .bool false]]⟩
theorem fit331 : F_ 331 ty_331 := mf_ Tryz.underlying331
abbrev ty_332 : TI := ⟨.map 176 292, 1, 8, .map none, [.map none]⟩
theorem fit332 : F_ 332 ty_332 := mf_ Tryz.underlying332
abbrev ty_339 : TI := ⟨.tuple #[316, 4], 1, 0, .tuple #[.agg #[.int .u32 0, .bool false, .slice none 0 0], .bool false], [.tuple #[.agg #[.int .u32 0, .bool false, .slice none 0 0], .bool false]]⟩
theorem fit339 : F_ 339 ty_339 := mf_ Tryz.underlying339
abbrev ty_340 : TI := ⟨.tuple #[4, 4], 1, 0, .tuple #[.bool false, .bool false], [.tuple #[.bool false, .bool false]]⟩
theorem fit340 : F_ 340 ty_340 := mf_ Tryz.underlying340
abbrev ty_343 : TI := ⟨.func #[140, 140] #[9] false, 1, 8, .nilFunc, [.nilFunc]⟩
theorem fit343 : F_ 343 ty_343 := mf_ Tryz.underlying343
abbrev ty_344 : TI := ⟨.func #[140, 140] #[140] false, 1, 8, .nilFunc, [.nilFunc]⟩
theorem fit344 : F_ 344 ty_344 := mf_ Tryz.underlying344
abbrev ty_345 : TI := ⟨.tuple #[140, 77], 1, 0, .tuple #[.int .u64 0, .nilIface], [.tuple #[.int .u64 0, .nilIface]]⟩
theorem fit345 : F_ 345 ty_345 := mf_ Tryz.underlying345
abbrev ty_356 : TI := ta_ (.struct #[fg_ "_interface" 17 0 false "" "runtime" 0, fg_ "concrete" 17 1 false "" "runtime" 8, fg_ "asserted" 17 2 false "" "runtime" 16, fg_ "missingMethod" 9 3 false "" "runtime" 24]) 4 40 [.pointer none, .pointer none, .pointer none, .string ⟨#[]⟩]
theorem fit356 : F_ 356 ty_356 := mf_ Tryz.underlying356
abbrev ty_357 : TI := ta_ (.array 0 16) 0 0 []
theorem fit357 : F_ 357 ty_357 := mf_ Tryz.underlying357
abbrev ty_359 : TI := ta_ (.struct #[fg_ "_" 357 0 false "" "runtime" 0]) 0 0 []
theorem fit359 : F_ 359 ty_359 := mf_ Tryz.underlying359
abbrev ty_362 : TI := ty_5
theorem fit362 : F_ 362 ty_362 := mf_ Tryz.underlying362
abbrev ty_363 : TI := ty_5
theorem fit363 : F_ 363 ty_363 := mf_ Tryz.underlying363
abbrev ty_364 : TI := ⟨.func #[370, 370] #[4] false, 1, 8, .nilFunc, [.nilFunc]⟩
theorem fit364 : F_ 364 ty_364 := mf_ Tryz.underlying364
abbrev ty_365 : TI := ⟨.pointer 5, 1, 8, .pointer none, [.pointer none]⟩
theorem fit365 : F_ 365 ty_365 := mf_ Tryz.underlying365
abbrev ty_366 : TI := ty_21
theorem fit366 : F_ 366 ty_366 := mf_ Tryz.underlying366
abbrev ty_367 : TI := ty_21
theorem fit367 : F_ 367 ty_367 := mf_ Tryz.underlying367
abbrev ty_369 : TI := ta_ (.struct #[fd_ "Size_" 12 0 0, fd_ "PtrBytes" 12 1 8, fd_ "Hash" 89 2 16, fd_ "TFlag" 362 3 20, fd_ "Align_" 5 4 21, fd_ "FieldAlign_" 5 5 22, fd_ "Kind_" 363 6 23, fd_ "Equal" 364 7 24, fd_ "GCData" 365 8 32, fd_ "Str" 366 9 40, fd_ "PtrToThis" 367 10 44]) 11 48 [.int .u64 0, .int .u64 0, .int .u32 0, .int .u8 0, .int .u8 0, .int .u8 0, .int .u8 0, .nilFunc, .pointer none, .int .i32 0, .int .i32 0]
theorem fit369 : F_ 369 ty_369 := mf_ Tryz.underlying369
def tab : Tab := (.node 134 ty_134 (.node 65 ty_65 (.node 32 ty_32 (.node 16 ty_16 (.node 8 ty_8 (.node 4 ty_4 (.node 2 ty_2 (.node 1 ty_1 (.node 0 ty_0 .nil .nil) .nil) (.node 3 ty_3 .nil .nil)) (.node 6 ty_6 (.node 5 ty_5 .nil .nil) (.node 7 ty_7 .nil .nil))) (.node 12 ty_12 (.node 10 ty_10 (.node 9 ty_9 .nil .nil) (.node 11 ty_11 .nil .nil)) (.node 14 ty_14 (.node 13 ty_13 .nil .nil) (.node 15 ty_15 .nil .nil)))) (.node 24 ty_24 (.node 20 ty_20 (.node 18 ty_18 (.node 17 ty_17 .nil .nil) (.node 19 ty_19 .nil .nil)) (.node 22 ty_22 (.node 21 ty_21 .nil .nil) (.node 23 ty_23 .nil .nil))) (.node 28 ty_28 (.node 26 ty_26 (.node 25 ty_25 .nil .nil) (.node 27 ty_27 .nil .nil)) (.node 30 ty_30 (.node 29 ty_29 .nil .nil) (.node 31 ty_31 .nil .nil))))) (.node 49 ty_49 (.node 41 ty_41 (.node 37 ty_37 (.node 35 ty_35 (.node 34 ty_34 (.node 33 ty_33 .nil .nil) .nil) (.node 36 ty_36 .nil .nil)) (.node 39 ty_39 (.node 38 ty_38 .nil .nil) (.node 40 ty_40 .nil .nil))) (.node 45 ty_45 (.node 43 ty_43 (.node 42 ty_42 .nil .nil) (.node 44 ty_44 .nil .nil)) (.node 47 ty_47 (.node 46 ty_46 .nil .nil) (.node 48 ty_48 .nil .nil)))) (.node 57 ty_57 (.node 53 ty_53 (.node 51 ty_51 (.node 50 ty_50 .nil .nil) (.node 52 ty_52 .nil .nil)) (.node 55 ty_55 (.node 54 ty_54 .nil .nil) (.node 56 ty_56 .nil .nil))) (.node 61 ty_61 (.node 59 ty_59 (.node 58 ty_58 .nil .nil) (.node 60 ty_60 .nil .nil)) (.node 63 ty_63 (.node 62 ty_62 .nil .nil) (.node 64 ty_64 .nil .nil)))))) (.node 101 ty_101 (.node 82 ty_82 (.node 74 ty_74 (.node 70 ty_70 (.node 68 ty_68 (.node 67 ty_67 (.node 66 ty_66 .nil .nil) .nil) (.node 69 ty_69 .nil .nil)) (.node 72 ty_72 (.node 71 ty_71 .nil .nil) (.node 73 ty_73 .nil .nil))) (.node 78 ty_78 (.node 76 ty_76 (.node 75 ty_75 .nil .nil) (.node 77 ty_77 .nil .nil)) (.node 80 ty_80 (.node 79 ty_79 .nil .nil) (.node 81 ty_81 .nil .nil)))) (.node 91 ty_91 (.node 87 ty_87 (.node 85 ty_85 (.node 84 ty_84 .nil .nil) (.node 86 ty_86 .nil .nil)) (.node 89 ty_89 (.node 88 ty_88 .nil .nil) (.node 90 ty_90 .nil .nil))) (.node 97 ty_97 (.node 95 ty_95 (.node 93 ty_93 .nil .nil) (.node 96 ty_96 .nil .nil)) (.node 99 ty_99 (.node 98 ty_98 .nil .nil) (.node 100 ty_100 .nil .nil))))) (.node 117 ty_117 (.node 109 ty_109 (.node 105 ty_105 (.node 103 ty_103 (.node 102 ty_102 .nil .nil) (.node 104 ty_104 .nil .nil)) (.node 107 ty_107 (.node 106 ty_106 .nil .nil) (.node 108 ty_108 .nil .nil))) (.node 113 ty_113 (.node 111 ty_111 (.node 110 ty_110 .nil .nil) (.node 112 ty_112 .nil .nil)) (.node 115 ty_115 (.node 114 ty_114 .nil .nil) (.node 116 ty_116 .nil .nil)))) (.node 126 ty_126 (.node 121 ty_121 (.node 119 ty_119 (.node 118 ty_118 .nil .nil) (.node 120 ty_120 .nil .nil)) (.node 123 ty_123 (.node 122 ty_122 .nil .nil) (.node 124 ty_124 .nil .nil))) (.node 130 ty_130 (.node 128 ty_128 (.node 127 ty_127 .nil .nil) (.node 129 ty_129 .nil .nil)) (.node 132 ty_132 (.node 131 ty_131 .nil .nil) (.node 133 ty_133 .nil .nil))))))) (.node 233 ty_233 (.node 188 ty_188 (.node 166 ty_166 (.node 156 ty_156 (.node 151 ty_151 (.node 142 ty_142 (.node 140 ty_140 (.node 135 ty_135 .nil .nil) .nil) (.node 147 ty_147 .nil .nil)) (.node 153 ty_153 (.node 152 ty_152 .nil .nil) (.node 155 ty_155 .nil .nil))) (.node 161 ty_161 (.node 159 ty_159 (.node 158 ty_158 .nil .nil) (.node 160 ty_160 .nil .nil)) (.node 163 ty_163 (.node 162 ty_162 .nil .nil) (.node 165 ty_165 .nil .nil)))) (.node 179 ty_179 (.node 172 ty_172 (.node 169 ty_169 (.node 168 ty_168 .nil .nil) (.node 170 ty_170 .nil .nil)) (.node 175 ty_175 (.node 174 ty_174 .nil .nil) (.node 176 ty_176 .nil .nil))) (.node 183 ty_183 (.node 181 ty_181 (.node 180 ty_180 .nil .nil) (.node 182 ty_182 .nil .nil)) (.node 186 ty_186 (.node 184 ty_184 .nil .nil) (.node 187 ty_187 .nil .nil))))) (.node 207 ty_207 (.node 199 ty_199 (.node 195 ty_195 (.node 192 ty_192 (.node 190 ty_190 (.node 189 ty_189 .nil .nil) .nil) (.node 194 ty_194 .nil .nil)) (.node 197 ty_197 (.node 196 ty_196 .nil .nil) (.node 198 ty_198 .nil .nil))) (.node 203 ty_203 (.node 201 ty_201 (.node 200 ty_200 .nil .nil) (.node 202 ty_202 .nil .nil)) (.node 205 ty_205 (.node 204 ty_204 .nil .nil) (.node 206 ty_206 .nil .nil)))) (.node 216 ty_216 (.node 211 ty_211 (.node 209 ty_209 (.node 208 ty_208 .nil .nil) (.node 210 ty_210 .nil .nil)) (.node 213 ty_213 (.node 212 ty_212 .nil .nil) (.node 215 ty_215 .nil .nil))) (.node 223 ty_223 (.node 219 ty_219 (.node 217 ty_217 .nil .nil) (.node 221 ty_221 .nil .nil)) (.node 230 ty_230 (.node 226 ty_226 .nil .nil) (.node 232 ty_232 .nil .nil)))))) (.node 289 ty_289 (.node 252 ty_252 (.node 244 ty_244 (.node 240 ty_240 (.node 237 ty_237 (.node 236 ty_236 (.node 234 ty_234 .nil .nil) .nil) (.node 239 ty_239 .nil .nil)) (.node 242 ty_242 (.node 241 ty_241 .nil .nil) (.node 243 ty_243 .nil .nil))) (.node 248 ty_248 (.node 246 ty_246 (.node 245 ty_245 .nil .nil) (.node 247 ty_247 .nil .nil)) (.node 250 ty_250 (.node 249 ty_249 .nil .nil) (.node 251 ty_251 .nil .nil)))) (.node 270 ty_270 (.node 258 ty_258 (.node 255 ty_255 (.node 254 ty_254 .nil .nil) (.node 256 ty_256 .nil .nil)) (.node 266 ty_266 (.node 264 ty_264 .nil .nil) (.node 268 ty_268 .nil .nil))) (.node 279 ty_279 (.node 276 ty_276 (.node 274 ty_274 .nil .nil) (.node 277 ty_277 .nil .nil)) (.node 284 ty_284 (.node 280 ty_280 .nil .nil) (.node 287 ty_287 .nil .nil))))) (.node 332 ty_332 (.node 313 ty_313 (.node 299 ty_299 (.node 292 ty_292 (.node 290 ty_290 .nil .nil) (.node 294 ty_294 .nil .nil)) (.node 302 ty_302 (.node 300 ty_300 .nil .nil) (.node 312 ty_312 .nil .nil))) (.node 324 ty_324 (.node 316 ty_316 (.node 314 ty_314 .nil .nil) (.node 318 ty_318 .nil .nil)) (.node 330 ty_330 (.node 327 ty_327 .nil .nil) (.node 331 ty_331 .nil .nil)))) (.node 359 ty_359 (.node 344 ty_344 (.node 340 ty_340 (.node 339 ty_339 .nil .nil) (.node 343 ty_343 .nil .nil)) (.node 356 ty_356 (.node 345 ty_345 .nil .nil) (.node 357 ty_357 .nil .nil))) (.node 365 ty_365 (.node 363 ty_363 (.node 362 ty_362 .nil .nil) (.node 364 ty_364 .nil .nil)) (.node 367 ty_367 (.node 366 ty_366 .nil .nil) (.node 369 ty_369 .nil .nil))))))))
theorem tab_ok : TabOk Tryz.prog tab := ⟨fit134, ⟨fit65, ⟨fit32, ⟨fit16, ⟨fit8, ⟨fit4, ⟨fit2, ⟨fit1, ⟨fit0, trivial, trivial⟩, trivial⟩, ⟨fit3, trivial, trivial⟩⟩, ⟨fit6, ⟨fit5, trivial, trivial⟩, ⟨fit7, trivial, trivial⟩⟩⟩, ⟨fit12, ⟨fit10, ⟨fit9, trivial, trivial⟩, ⟨fit11, trivial, trivial⟩⟩, ⟨fit14, ⟨fit13, trivial, trivial⟩, ⟨fit15, trivial, trivial⟩⟩⟩⟩, ⟨fit24, ⟨fit20, ⟨fit18, ⟨fit17, trivial, trivial⟩, ⟨fit19, trivial, trivial⟩⟩, ⟨fit22, ⟨fit21, trivial, trivial⟩, ⟨fit23, trivial, trivial⟩⟩⟩, ⟨fit28, ⟨fit26, ⟨fit25, trivial, trivial⟩, ⟨fit27, trivial, trivial⟩⟩, ⟨fit30, ⟨fit29, trivial, trivial⟩, ⟨fit31, trivial, trivial⟩⟩⟩⟩⟩, ⟨fit49, ⟨fit41, ⟨fit37, ⟨fit35, ⟨fit34, ⟨fit33, trivial, trivial⟩, trivial⟩, ⟨fit36, trivial, trivial⟩⟩, ⟨fit39, ⟨fit38, trivial, trivial⟩, ⟨fit40, trivial, trivial⟩⟩⟩, ⟨fit45, ⟨fit43, ⟨fit42, trivial, trivial⟩, ⟨fit44, trivial, trivial⟩⟩, ⟨fit47, ⟨fit46, trivial, trivial⟩, ⟨fit48, trivial, trivial⟩⟩⟩⟩, ⟨fit57, ⟨fit53, ⟨fit51, ⟨fit50, trivial, trivial⟩, ⟨fit52, trivial, trivial⟩⟩, ⟨fit55, ⟨fit54, trivial, trivial⟩, ⟨fit56, trivial, trivial⟩⟩⟩, ⟨fit61, ⟨fit59, ⟨fit58, trivial, trivial⟩, ⟨fit60, trivial, trivial⟩⟩, ⟨fit63, ⟨fit62, trivial, trivial⟩, ⟨fit64, trivial, trivial⟩⟩⟩⟩⟩⟩, ⟨fit101, ⟨fit82, ⟨fit74, ⟨fit70, ⟨fit68, ⟨fit67, ⟨fit66, trivial, trivial⟩, trivial⟩, ⟨fit69, trivial, trivial⟩⟩, ⟨fit72, ⟨fit71, trivial, trivial⟩, ⟨fit73, trivial, trivial⟩⟩⟩, ⟨fit78, ⟨fit76, ⟨fit75, trivial, trivial⟩, ⟨fit77, trivial, trivial⟩⟩, ⟨fit80, ⟨fit79, trivial, trivial⟩, ⟨fit81, trivial, trivial⟩⟩⟩⟩, ⟨fit91, ⟨fit87, ⟨fit85, ⟨fit84, trivial, trivial⟩, ⟨fit86, trivial, trivial⟩⟩, ⟨fit89, ⟨fit88, trivial, trivial⟩, ⟨fit90, trivial, trivial⟩⟩⟩, ⟨fit97, ⟨fit95, ⟨fit93, trivial, trivial⟩, ⟨fit96, trivial, trivial⟩⟩, ⟨fit99, ⟨fit98, trivial, trivial⟩, ⟨fit100, trivial, trivial⟩⟩⟩⟩⟩, ⟨fit117, ⟨fit109, ⟨fit105, ⟨fit103, ⟨fit102, trivial, trivial⟩, ⟨fit104, trivial, trivial⟩⟩, ⟨fit107, ⟨fit106, trivial, trivial⟩, ⟨fit108, trivial, trivial⟩⟩⟩, ⟨fit113, ⟨fit111, ⟨fit110, trivial, trivial⟩, ⟨fit112, trivial, trivial⟩⟩, ⟨fit115, ⟨fit114, trivial, trivial⟩, ⟨fit116, trivial, trivial⟩⟩⟩⟩, ⟨fit126, ⟨fit121, ⟨fit119, ⟨fit118, trivial, trivial⟩, ⟨fit120, trivial, trivial⟩⟩, ⟨fit123, ⟨fit122, trivial, trivial⟩, ⟨fit124, trivial, trivial⟩⟩⟩, ⟨fit130, ⟨fit128, ⟨fit127, trivial, trivial⟩, ⟨fit129, trivial, trivial⟩⟩, ⟨fit132, ⟨fit131, trivial, trivial⟩, ⟨fit133, trivial, trivial⟩⟩⟩⟩⟩⟩⟩, ⟨fit233, ⟨fit188, ⟨fit166, ⟨fit156, ⟨fit151, ⟨fit142, ⟨fit140, ⟨fit135, trivial, trivial⟩, trivial⟩, ⟨fit147, trivial, trivial⟩⟩, ⟨fit153, ⟨fit152, trivial, trivial⟩, ⟨fit155, trivial, trivial⟩⟩⟩, ⟨fit161, ⟨fit159, ⟨fit158, trivial, trivial⟩, ⟨fit160, trivial, trivial⟩⟩, ⟨fit163, ⟨fit162, trivial, trivial⟩, ⟨fit165, trivial, trivial⟩⟩⟩⟩, ⟨fit179, ⟨fit172, ⟨fit169, ⟨fit168, trivial, trivial⟩, ⟨fit170, trivial, trivial⟩⟩, ⟨fit175, ⟨fit174, trivial, trivial⟩, ⟨fit176, trivial, trivial⟩⟩⟩, ⟨fit183, ⟨fit181, ⟨fit180, trivial, trivial⟩, ⟨fit182, trivial, trivial⟩⟩, ⟨fit186, ⟨fit184, trivial, trivial⟩, ⟨fit187, trivial, trivial⟩⟩⟩⟩⟩, ⟨fit207, ⟨fit199, ⟨fit195, ⟨fit192, ⟨fit190, ⟨fit189, trivial, trivial⟩, trivial⟩, ⟨fit194, trivial, trivial⟩⟩, ⟨fit197, ⟨fit196, trivial, trivial⟩, ⟨fit198, trivial, trivial⟩⟩⟩, ⟨fit203, ⟨fit201, ⟨fit200, trivial, trivial⟩, ⟨fit202, trivial, trivial⟩⟩, ⟨fit205, ⟨fit204, trivial, trivial⟩, ⟨fit206, trivial, trivial⟩⟩⟩⟩, ⟨fit216, ⟨fit211, ⟨fit209, ⟨fit208, trivial, trivial⟩, ⟨fit210, trivial, trivial⟩⟩, ⟨fit213, ⟨fit212, trivial, trivial⟩, ⟨fit215, trivial, trivial⟩⟩⟩, ⟨fit223, ⟨fit219, ⟨fit217, trivial, trivial⟩, ⟨fit221, trivial, trivial⟩⟩, ⟨fit230, ⟨fit226, trivial, trivial⟩, ⟨fit232, trivial, trivial⟩⟩⟩⟩⟩⟩, ⟨fit289, ⟨fit252, ⟨fit244, ⟨fit240, ⟨fit237, ⟨fit236, ⟨fit234, trivial, trivial⟩, trivial⟩, ⟨fit239, trivial, trivial⟩⟩, ⟨fit242, ⟨fit241, trivial, trivial⟩, ⟨fit243, trivial, trivial⟩⟩⟩, ⟨fit248, ⟨fit246, ⟨fit245, trivial, trivial⟩, ⟨fit247, trivial, trivial⟩⟩, ⟨fit250, ⟨fit249, trivial, trivial⟩, ⟨fit251, trivial, trivial⟩⟩⟩⟩, ⟨fit270, ⟨fit258, ⟨fit255, ⟨fit254, trivial, trivial⟩, ⟨fit256, trivial, trivial⟩⟩, ⟨fit266, ⟨fit264, trivial, trivial⟩, ⟨fit268, trivial, trivial⟩⟩⟩, ⟨fit279, ⟨fit276, ⟨fit274, trivial, trivial⟩, ⟨fit277, trivial, trivial⟩⟩, ⟨fit284, ⟨fit280, trivial, trivial⟩, ⟨fit287, trivial, trivial⟩⟩⟩⟩⟩, ⟨fit332, ⟨fit313, ⟨fit299, ⟨fit292, ⟨fit290, trivial, trivial⟩, ⟨fit294, trivial, trivial⟩⟩, ⟨fit302, ⟨fit300, trivial, trivial⟩, ⟨fit312, trivial, trivial⟩⟩⟩, ⟨fit324, ⟨fit316, ⟨fit314, trivial, trivial⟩, ⟨fit318, trivial, trivial⟩⟩, ⟨fit330, ⟨fit327, trivial, trivial⟩, ⟨fit331, trivial, trivial⟩⟩⟩⟩, ⟨fit359, ⟨fit344, ⟨fit340, ⟨fit339, trivial, trivial⟩, ⟨fit343, trivial, trivial⟩⟩, ⟨fit356, ⟨fit345, trivial, trivial⟩, ⟨fit357, trivial, trivial⟩⟩⟩, ⟨fit365, ⟨fit363, ⟨fit362, trivial, trivial⟩, ⟨fit364, trivial, trivial⟩⟩, ⟨fit367, ⟨fit366, trivial, trivial⟩, ⟨fit369, trivial, trivial⟩⟩⟩⟩⟩⟩⟩⟩
end Go.Proofs.YtbgkbgoonjkghaaGreatDoor
namespace Go.Sl
theorem pk_ {p : Prop} (h : p := by (first | assumption | ((repeat (first | apply Pick.here | apply Pick.there | apply Pick.over)); (first | done | fail)))) : p := h
theorem tk_ {p : Prop} (h : p := by ((repeat (first | apply Tk.here | apply Tk.all | apply Tk.skip | apply Tk.over)); (first | done | fail))) : p := h
theorem sr_ {p : Prop} (h : p := by exact (by (repeat (first | refine ⟨rfl, ?_⟩ | exact trivial)); (first | done | fail))) : p := h
theorem sm_ {p : Prop} (h : p := by exact (by first | (apply Sm.go; (repeat (first | with_reducible apply Sm.refl | (apply Sm.pick; focus (first | assumption | ((repeat (first | apply Pick.here | apply Pick.there | apply Pick.over)); (first | done | fail)))) | apply Sm.drop | apply Sm.dropA)); (first | done | fail)) | (refine Sm.go ?_; (repeat (first | exact Sm.refl | refine Sm.pick (by (first | assumption | ((repeat (first | apply Pick.here | apply Pick.there | apply Pick.over)); (first | done | fail)))) ?_ | apply Sm.drop | apply Sm.dropA)); (first | done | fail)))) : p := h
theorem spi_ {p : Prop} (h : p := by exact (by (repeat (first | exact Spine.nil | apply Spine.cons | exact Spine.tail)); (first | done | fail))) : p := h
theorem np_ {p : Prop} (h : p := by exact (by (repeat (first | exact NP.body | refine NP.then_ ?_ | refine NP.block ?_ | assumption | refine NP.goto_ ?_ | exact NP.npo)); (first | done | fail))) : p := h
theorem t1_ {p : Prop} (h : p := by exact (by ((repeat (first | apply Tk.one | apply Tk.skip | apply Tk.over)); (first | done | fail)))) : p := h
theorem tr_ {p : Prop} (h : p := by exact (by first | rfl | exact decide_eq_true (by omega) | (simp; (first | done | fail)) | (simp; omega))) : p := h
theorem hsb_ {p : Prop} (h : p := by exact (by (repeat (first | exact trivial | refine ⟨⟨_, (by (first | assumption | ((repeat (first | apply Pick.here | apply Pick.there | apply Pick.over)); (first | done | fail))))⟩, ?_⟩ | exact subH_self _ | apply subH_cons | apply subH_app)); (first | done | fail))) : p := h
theorem sub_ {p : Prop} (h : p := by exact (by (repeat (first | exact trivial | refine ⟨⟨_, (by (first | assumption | ((repeat (first | apply Pick.here | apply Pick.there | apply Pick.over)); (first | done | fail))))⟩, ?_⟩)); (first | done | fail))) : p := h
theorem xsb_ {p : Prop} (h : p := by exact (by (repeat (first | exact trivial | refine ⟨⟨_, (by (first | assumption | ((repeat (first | apply Pick.here | apply Pick.there | apply Pick.over)); (first | done | fail))))⟩, ?_⟩ | exact subH_self _ | apply subH_cons)); (first | done | fail))) : p := h
theorem hld_ {p : Prop} (h : p := by exact (by first | exact Ld.own tab_ok rfl rfl (by (first | assumption | ((repeat (first | apply Pick.here | apply Pick.there | apply Pick.over)); (first | done | fail)))) rfl | exact Ld.ownA tab_ok rfl rfl (by (first | assumption | ((repeat (first | apply Pick.here | apply Pick.there | apply Pick.over)); (first | done | fail)))) (by (repeat (first | apply Cut.nil | apply Cut.take | apply Cut.drop)); (first | done | fail)) | exact Ld.imm tab_ok rfl rfl (by assumption) | exact Ld.rd tab_ok rfl rfl (by (repeat (first | assumption | apply Rd.cons | apply Rd.app)); (first | done | fail)) | exact Ld.immA tab_ok rfl rfl (by assumption) rfl)) : p := h
theorem hrd_ {p : Prop} (h : p := by exact (by (repeat (first | assumption | apply Rd.cons | apply Rd.app)); (first | done | fail))) : p := h
theorem cut_ {p : Prop} (h : p := by exact (by (repeat (first | apply Cut.nil | apply Cut.take | apply Cut.drop)); (first | done | fail))) : p := h
theorem spl_ {p : Prop} (h : p := by exact (by (repeat (first | apply Spl.nil | apply Spl.put | apply Spl.skip)); (first | done | fail))) : p := h
open Go
def lebV : List UInt8 → Nat
 | [] => 0
 | b :: l => b.toNat % 128 + 128 * lebV l
def IsLeb (l : List UInt8) : Prop := l ≠ [] ∧ ∀ i b, l[i]? = some b → (b.toNat < 128 ↔ i + 1 = l.length)
theorem lebV_lt : ∀ (l : List UInt8), lebV l < 128 ^ l.length
 | [] => by simp [lebV]
 | b :: l => by
  have h1 := lebV_lt l
  have h2 : b.toNat % 128 < 128 := Nat.mod_lt _ (by decide)
  simp only [lebV, List.length_cons, Nat.pow_succ]
  omega
theorem lebV_append : ∀ (a b : List UInt8), lebV (a ++ b) = lebV a + 128 ^ a.length * lebV b
 | [], b => by simp [lebV]
 | x :: a, b => by
  simp only [List.cons_append, lebV, lebV_append a b, List.length_cons, Nat.pow_succ]
  rw [Nat.mul_add, ← Nat.mul_assoc, Nat.mul_comm 128 (128 ^ a.length)]
  omega
theorem lebV_take {l : List UInt8} {i : Nat} {b : UInt8} (h : l[i]? = some b) : lebV (l.take (i + 1)) = lebV (l.take i) + 128 ^ i * (b.toNat % 128) := by
 have hlt : i < l.length := by
  rcases Nat.lt_or_ge i l.length with h' | h'
  ·exact h'
  ·simp [List.getElem?_eq_none h'] at h
 rw [List.take_add_one, h, Option.toList_some, lebV_append, List.length_take, Nat.min_eq_left (by omega)]
 simp [lebV]
theorem u8_and128 (b : UInt8) : (bits .and .u8 (b.toNat : Int) 128 == 0) = decide (b.toNat < 128) := by
 have h : ∀ n : Fin 256, (bits .and .u8 (n.val : Int) 128 == 0) = decide (n.val < 128) := by decide +kernel
 exact h ⟨b.toNat, b.toNat_lt⟩
theorem u8_and127 (b : UInt8) : bits .and .u8 (b.toNat : Int) 127 = ((b.toNat % 128 : Nat) : Int) := by
 have h : ∀ n : Fin 256, bits .and .u8 (n.val : Int) 127 = ((n.val % 128 : Nat) : Int) := by decide +kernel
 exact h ⟨b.toNat, b.toNat_lt⟩
theorem leb_or (c i : Nat) (b : UInt8) (hc : c < 128 ^ i) (hi : i ≤ 9) :
  bits .or .u64 ((c % 2 ^ 64 : Nat) : Int) (IntKind.u64.wrap (IntKind.u64.wrap (bits .and .u8 (b.toNat : Int) 127) * 2 ^ min (Int.toNat ((7 * i : Nat) : Int)) IntKind.u64.bits)) = (((c + 128 ^ i * (b.toNat % 128)) % 2 ^ 64 : Nat) : Int) := by
 rw [u8_and127]
 have hx : b.toNat % 128 < 128 := Nat.mod_lt _ (by decide)
 generalize b.toNat % 128 = x at hx
 have e0 : IntKind.u64.wrap ((x : Nat) : Int) = x := wu64 _ (by omega) (by omega)
 have e1 : min (Int.toNat ((7 * i : Nat) : Int)) IntKind.u64.bits = 7 * i := by
  show min (7 * i) 64 = 7 * i
  omega
 have e2 : (128 : Nat) ^ i = 2 ^ (7 * i) := by rw [Nat.pow_mul]
 rw [e2] at hc ⊢
 rw [e0, e1]
 have hp : 2 ^ (7 * i) * 2 ^ (64 - 7 * i) = 2 ^ 64 := by rw [← Nat.pow_add]; congr 1; omega
 have hpos : 0 < 2 ^ (7 * i) := Nat.two_pow_pos _
 have hc64 : c < 2 ^ 64 := Nat.lt_of_lt_of_le hc (Nat.pow_le_pow_right (by decide) (by omega))
 rw [Nat.mod_eq_of_lt hc64]
 have e3 : IntKind.u64.wrap ((x : Int) * 2 ^ (7 * i)) = ((2 ^ (7 * i) * (x % 2 ^ (64 - 7 * i)) : Nat) : Int) := by
  rw [IntKind.wrap_u64]
  have : ((x : Int) * 2 ^ (7 * i)) = ((2 ^ (7 * i) * x : Nat) : Int) := by rw [Int.natCast_mul, Int.mul_comm]; simp
  rw [this]
  have h2 : (2 ^ (7 * i) * x) % 2 ^ 64 = 2 ^ (7 * i) * (x % 2 ^ (64 - 7 * i)) := by rw [← hp, Nat.mul_mod_mul_left]
  rw [← h2]
  simp
 have hm : x % 2 ^ (64 - 7 * i) < 2 ^ (64 - 7 * i) := Nat.mod_lt _ (Nat.two_pow_pos _)
 have hb : 2 ^ (7 * i) * (x % 2 ^ (64 - 7 * i)) < 2 ^ 64 := by rw [← hp]; exact Nat.mul_lt_mul_of_pos_left hm hpos
 rw [e3, bits_join_low .u64 64 (by decide) wraps_u64 (7 * i) _ _ (by omega) (by exact_mod_cast hc) (by exact_mod_cast hc64) (by omega) (by
  have : (2 ^ (7 * i) * (x % 2 ^ (64 - 7 * i))) % 2 ^ (7 * i) = 0 := Nat.mul_mod_right _ _
  exact_mod_cast this) (by exact_mod_cast hb)]
 have h3 : (c + 2 ^ (7 * i) * x) % 2 ^ 64 = c + 2 ^ (7 * i) * (x % 2 ^ (64 - 7 * i)) := by
  rw [← hp, Nat.mod_mul]
  rw [Nat.add_mul_mod_self_left, Nat.mod_eq_of_lt hc, Nat.add_mul_div_left _ _ hpos, Nat.div_eq_of_lt hc, Nat.zero_add]
 rw [h3]
 omega
theorem and_2pow (x i : Nat) : x &&& 2 ^ i = (x.testBit i).toNat * 2 ^ i := by
 apply Nat.eq_of_testBit_eq
 intro j
 rw [Nat.testBit_and, Nat.testBit_two_pow]
 cases h : x.testBit i with
 | true =>
  simp only [Bool.toNat_true, Nat.one_mul, Nat.testBit_two_pow]
  by_cases e : i = j
  ·subst e; simp [h]
  ·simp [e]
 | false =>
  simp only [Bool.toNat_false, Nat.zero_mul, Nat.zero_testBit]
  by_cases e : i = j
  ·subst e; simp [h]
  ·simp [e]
structure IsSleb (bs : List UInt8) (z : Int) : Prop where
 leb : IsLeb bs
 eqv : (lebV bs : Int) = z % 2 ^ (7 * bs.length)
 lo : -2 ^ (7 * bs.length - 1) ≤ z
 hi : z < 2 ^ (7 * bs.length - 1)
theorem w64 (x : Int) : IntKind.i64.wrap x = (x + 9223372036854775808) % 18446744073709551616 - 9223372036854775808 := by rw [IntKind.wrap_i64]
theorem wraps_i64 (n : Int) (h₀ : 0 ≤ n) (h₁ : n < 2 ^ 63) : IntKind.i64.wrap n = n := by rw [w64]; omega
section
variable {bs : List UInt8} {z : Int}
theorem min64 {k : Nat} (h : k ≤ 64) : min (Int.toNat ((k : Nat) : Int)) IntKind.i64.bits = k := by
 show min k 64 = k; omega
theorem sleb_small (h : IsSleb bs z) (hk : bs.length ≤ 9) : (bits .and .i64 (IntKind.i64.wrap ((lebV bs % 2 ^ 64 : Nat) : Int)) (IntKind.i64.wrap (1 * 2 ^ min (Int.toNat (IntKind.u64.wrap (((7 * bs.length : Nat) : Int) - 1))) IntKind.i64.bits)) != 0) = decide (z < 0) ∧
  IntKind.i64.wrap ((lebV bs % 2 ^ 64 : Nat) : Int) = (lebV bs : Int) ∧
  (z < 0 → bits .or .i64 (lebV bs : Int) (IntKind.i64.wrap (-1 * 2 ^ min (Int.toNat ((7 * bs.length : Nat) : Int)) IntKind.i64.bits)) = z) := by
 obtain ⟨⟨hne, _⟩, heq, hlo, hhi⟩ := h
 have hpos : 0 < bs.length := List.length_pos_iff.2 hne
 have hlt := lebV_lt bs
 have e2 : (128 : Nat) ^ bs.length = 2 ^ (7 * bs.length) := by rw [Nat.pow_mul]
 rw [e2] at hlt
 generalize lebV bs = X at *
 generalize hm : 7 * bs.length = m at *
 have hm1 : 1 ≤ m := by omega
 have hm2 : m ≤ 63 := by omega
 have h63 : (2 : Nat) ^ m ≤ 2 ^ 63 := Nat.pow_le_pow_right (by decide) hm2
 have hX64 : X % 2 ^ 64 = X := Nat.mod_eq_of_lt (by omega)
 have hw : IntKind.i64.wrap ((X % 2 ^ 64 : Nat) : Int) = (X : Int) := by rw [hX64]; exact wraps_i64 _ (by omega) (by omega)
 have hs : (2 : Nat) ^ m = 2 * 2 ^ (m - 1) := by rw [← Nat.pow_succ']; congr 1; omega
 have ci : ((2 : Int) ^ m) = ((2 ^ m : Nat) : Int) := by simp
 have ci1 : ((2 : Int) ^ (m - 1)) = ((2 ^ (m - 1) : Nat) : Int) := by simp
 rw [ci] at heq
 rw [ci1] at hlo hhi
 have hp1 : 0 < 2 ^ (m - 1) := Nat.two_pow_pos _
 refine ⟨?_, hw, ?_⟩
 ·have e0 : IntKind.u64.wrap ((m : Int) - 1) = ((m - 1 : Nat) : Int) := by rw [wu64 _ (by omega) (by omega)]; omega
  have e1 : min (Int.toNat ((m - 1 : Nat) : Int)) IntKind.i64.bits = m - 1 := min64 (by omega)
  rw [hw, e0, e1, Int.one_mul, ci1, wraps_i64 _ (by omega) (by omega), (bits_nat .i64 63 (by decide) wraps_i64 X (2 ^ (m - 1)) (by omega) (by omega)).1, and_2pow]
  by_cases hz : z < 0
  ·have hX : (X : Int) = z + ((2 ^ m : Nat) : Int) := by
    rw [heq, ← Int.add_emod_right, Int.emod_eq_of_lt (by omega) (by omega)]
   have ht : X.testBit (m - 1) = true := by
    rw [Nat.testBit_eq_decide_div_mod_eq, decide_eq_true_iff]
    have : X / 2 ^ (m - 1) = 1 := Nat.div_eq_of_lt_le (by omega) (by omega)
    rw [this]
   rw [ht, decide_eq_true hz]
   simp
   omega
  ·have hX : (X : Int) = z := by
    rw [heq, Int.emod_eq_of_lt (by omega) (by omega)]
   have ht : X.testBit (m - 1) = false := Nat.testBit_lt_two_pow (by omega)
   rw [ht, decide_eq_false hz]
   simp
 ·intro hz
  have hX : (X : Int) = z + ((2 ^ m : Nat) : Int) := by
   rw [heq, ← Int.add_emod_right, Int.emod_eq_of_lt (by omega) (by omega)]
  rw [min64 (by omega), ci]
  have hwn : IntKind.i64.wrap (-1 * ((2 ^ m : Nat) : Int)) = -((2 ^ m : Nat) : Int) := by rw [w64]; omega
  rw [hwn]
  have hp : 2 ^ m * 2 ^ (64 - m) = 2 ^ 64 := by rw [← Nat.pow_add]; congr 1; omega
  have hpp : 0 < 2 ^ (64 - m) := Nat.two_pow_pos _
  have hb : (BitVec.ofInt 64 (-((2 ^ m : Nat) : Int))).toNat = 2 ^ m * (2 ^ (64 - m) - 1) := by
   rw [BitVec.toNat_ofInt]
   have h2 : 2 ^ m * (2 ^ (64 - m) - 1) = 2 ^ 64 - 2 ^ m := by rw [Nat.mul_sub_one, hp]
   rw [h2]
   omega
  have ha : (BitVec.ofInt 64 (X : Int)).toNat = X := by rw [BitVec.ofInt_natCast, BitVec.toNat_ofNat]; exact Nat.mod_eq_of_lt (by omega)
  show IntKind.i64.wrap ((BitVec.ofInt 64 (X : Int) ||| BitVec.ofInt 64 (-((2 ^ m : Nat) : Int))).toNat : Int) = z
  rw [BitVec.toNat_or, ha, hb, Nat.or_comm, ← Nat.two_pow_add_eq_or_of_lt hlt, Nat.mul_sub_one, hp, w64]
  omega
theorem sleb_big (h : IsSleb bs z) (hk : bs.length = 10) (h0 : -9223372036854775808 ≤ z) (h1 : z < 9223372036854775808) : (bits .and .i64 (IntKind.i64.wrap ((lebV bs % 2 ^ 64 : Nat) : Int)) (IntKind.i64.wrap (1 * 2 ^ min (Int.toNat (IntKind.u64.wrap (((7 * bs.length : Nat) : Int) - 1))) IntKind.i64.bits)) != 0) = false ∧
  IntKind.i64.wrap ((lebV bs % 2 ^ 64 : Nat) : Int) = z := by
 obtain ⟨_, heq, _, _⟩ := h
 rw [hk] at heq ⊢
 constructor
 ·have e0 : IntKind.u64.wrap (((7 * 10 : Nat) : Int) - 1) = 69 := by decide
  have e1 : IntKind.i64.wrap (1 * 2 ^ min (Int.toNat 69) IntKind.i64.bits) = 0 := by decide
  rw [e0, e1]
  show (IntKind.i64.wrap ((BitVec.ofInt 64 _ &&& BitVec.ofInt 64 0).toNat : Int) != 0) = false
  simp [w64]
 ·rw [w64]
  have : (2 : Int) ^ (7 * 10) = 1180591620717411303424 := by decide
  rw [this] at heq
  omega
end
end Go.Sl
namespace Go.Proofs.YtbgkbgoonjkghaaGreatDoor
open Go Go.Sl
set_option maxRecDepth 10000
set_option maxHeartbeats 4000000
theorem mixed : (Tryz.prog).follows .mixedOrders = true := by kernel_rfl
theorem w_i64 {x : Int} (h0 : -9223372036854775808 ≤ x) (h1 : x ≤ 9223372036854775807) : IntKind.i64.wrap x = x := by
 simp only [IntKind.wrap, IntKind.bits, IntKind.signed]; simp; omega
theorem w_u64 {x : Int} (h0 : 0 ≤ x) (h1 : x < 18446744073709551616) : IntKind.u64.wrap x = x := by
 simp only [IntKind.wrap, IntKind.bits, IntKind.signed]; simp; omega
theorem w_u32 {x : Int} (h0 : 0 ≤ x) (h1 : x < 4294967296) : IntKind.u32.wrap x = x := by
 simp only [IntKind.wrap, IntKind.bits, IntKind.signed]; simp; omega
theorem w_u8 {x : Int} (h0 : 0 ≤ x) (h1 : x < 256) : IntKind.u8.wrap x = x := by
 simp only [IntKind.wrap, IntKind.bits, IntKind.signed]; simp; omega
structure Wrp (q : Prop) : Prop where
 out : q
theorem go_ {p q : Prop} (k : q) (h : Wrp q → p := by intro k; (repeat (first | (refine WC.g ?_; first | refine WC.seqRun tab_ok rfl ?_ | refine WC.condF rfl rfl ?_ | refine WC.condT rfl rfl ?_ | refine WC.seq ?_ | refine WC.regRun tab_ok rfl ?_ | refine WC.region ?_ | refine WC.ret ?_ | refine WC.exit ?_ | refine WC.skip ?_ | refine WC.block ?_) | (refine WL.g ?_; first | refine WL.nil ?_ | refine WL.run tab_ok rfl rfl ?_ | (refine WL.gLoad ?_; first | refine WL.ld tab_ok rfl rfl rfl pk_ rfl rfl ?_ | refine WL.ldA tab_ok rfl rfl rfl pk_ cut_ rfl ?_ | refine WL.ldI tab_ok rfl rfl rfl (by assumption) rfl ?_) | (refine WL.gStore ?_; refine WL.st tab_ok rfl rfl rfl pk_ spl_ rfl rfl ?_) | (refine WL.gIdx ?_; refine WL.idx tab_ok rfl rfl rfl rfl (by omega) (by omega) rfl ?_) | (refine WL.gBuild ?_; refine WL.build tab_ok rfl spi_ rfl ?_) | (refine WL.gSlice ?_; first | refine WL.slLo tab_ok rfl rfl rfl rfl (by omega) (by omega) (by omega) rfl ?_ | refine WL.slHi tab_ok rfl rfl rfl rfl (by omega) (by omega) rfl ?_ | refine WL.slLH tab_ok rfl rfl rfl rfl rfl (by omega) (by omega) (by omega) rfl ?_) | (refine WL.gBin ?_; first | refine WL.pure tab_ok (evalP_shl rfl rfl (by omega)) rfl ?_ | refine WL.pure tab_ok (evalP_shr rfl rfl (by omega)) rfl ?_) | refine WL.pure tab_ok rfl rfl ?_ | (refine WL.gGuard ?_; first | refine WL.yes rfl rfl rfl ?_ | refine WL.no rfl rfl rfl rfl rfl ?_)) | (refine WE.g ?_; first | refine WE.then_ ?_ | refine WE.thenX rfl ?_ | refine WE.block_n ?_ | refine WE.block_x ?_ | refine WE.block_y rfl ?_ | refine WE.block_r ?_ | apply WE.drawnL | (apply WE.drawn; exact (by first | exact Env.le.rfl' _ | assumption); exact sub_)))); exact k.out) : p := h ⟨k⟩
theorem dr_ {p q : Prop} (k : q) (h : Wrp q → p := by intro k; (repeat (first | (refine WD.g ?_; first | refine WD.one rfl ?_ | refine WD.done ?_ | (refine WD.gTake ?_; first | refine WD.run tab_ok np_ rfl rfl ?_ | (refine WD.at_ rfl ?_; (first | (refine WT.gLoad ?_; first | refine WT.load np_ rfl rfl (by first | exact Ld.own tab_ok rfl rfl pk_ rfl | exact Ld.ownA tab_ok rfl rfl pk_ cut_ | exact Ld.imm tab_ok rfl rfl (by assumption)) ?_ | refine WT.loadG np_ rfl rfl rfl (by first | exact Ld.own tab_ok rfl rfl pk_ rfl | exact Ld.ownA tab_ok rfl rfl pk_ cut_ | exact Ld.imm tab_ok rfl rfl (by assumption)) ?_) | (refine WT.gIdx ?_; first | refine WT.idx tab_ok np_ rfl rfl rfl rfl rfl (by omega) (by omega) ?_ | refine WT.idxG tab_ok np_ rfl rfl rfl rfl rfl rfl (by omega) (by omega) ?_) | (refine WT.gSlice ?_; refine WT.slLo tab_ok np_ rfl rfl rfl rfl rfl (by omega) (by omega) (by omega) ?_) | (refine WT.gBuild ?_; refine WT.build tab_ok np_ rfl rfl spi_ ?_) | refine WT.pure tab_ok np_ rfl rfl ?_)))) | (refine WL.g ?_; first | refine WL.nil ?_ | refine WL.run tab_ok rfl rfl ?_ | (refine WL.gLoad ?_; first | refine WL.ld tab_ok rfl rfl rfl pk_ rfl rfl ?_ | refine WL.ldA tab_ok rfl rfl rfl pk_ cut_ rfl ?_ | refine WL.ldI tab_ok rfl rfl rfl (by assumption) rfl ?_) | (refine WL.gStore ?_; refine WL.st tab_ok rfl rfl rfl pk_ spl_ rfl rfl ?_) | (refine WL.gIdx ?_; refine WL.idx tab_ok rfl rfl rfl rfl (by omega) (by omega) rfl ?_) | (refine WL.gBuild ?_; refine WL.build tab_ok rfl spi_ rfl ?_) | (refine WL.gSlice ?_; first | refine WL.slLo tab_ok rfl rfl rfl rfl (by omega) (by omega) (by omega) rfl ?_ | refine WL.slHi tab_ok rfl rfl rfl rfl (by omega) (by omega) rfl ?_ | refine WL.slLH tab_ok rfl rfl rfl rfl rfl (by omega) (by omega) (by omega) rfl ?_) | (refine WL.gBin ?_; first | refine WL.pure tab_ok (evalP_shl rfl rfl (by omega)) rfl ?_ | refine WL.pure tab_ok (evalP_shr rfl rfl (by omega)) rfl ?_) | refine WL.pure tab_ok rfl rfl ?_ | (refine WL.gGuard ?_; first | refine WL.yes rfl rfl rfl ?_ | refine WL.no rfl rfl rfl rfl rfl ?_)) | (refine WE.g ?_; first | refine WE.then_ ?_ | refine WE.thenX rfl ?_ | refine WE.block_n ?_ | refine WE.block_x ?_ | refine WE.block_y rfl ?_ | refine WE.block_r ?_ | apply WE.drawnL | (apply WE.drawn; exact (by first | exact Env.le.rfl' _ | assumption); exact sub_)))); exact k.out) : p := h ⟨k⟩
section
variable {P : Program} {ops : Array Oper} {Q : Post} {n : Nat} {D : List Deferred} {R : Regs} {Γ : Env} {H : List Blk}
end
abbrev bufc (dw ord fmt nm : Value) (off : Nat) (data err : Value) (post : List Value) : List Value := dw :: ord :: fmt :: nm :: .int .u32 (off : Int) :: data :: err :: post
theorem order_uint16 {Γ : Env} {H : List Blk} {d : Value} {x0 x1 : UInt8} {l : List UInt8} (big : Bool) (hd : Byt Γ d (x0 :: x1 :: l)) :
  Spc Tryz.prog 102 #[.agg #[.bool big], d] Γ H (fun v Γ' H' => v = .int .u16 (num big [x0, x1]) ∧ Γ = Γ' ∧ H = H') := by
 obtain ⟨a, cap, rfl, hc, hA⟩ := hd
 obtain ⟨b, o, rfl, hcell⟩ := hA.cons
 have h0 : Γ.cell b (o + 0) = some (.int .u8 x0.toNat) := hcell 0 _ rfl
 have h1 : Γ.cell b (o + 1) = some (.int .u8 x1.toNat) := hcell 1 _ rfl
 have hlen : (x0 :: x1 :: l).length = l.length + 2 := rfl
 have e1 : num true [x0, x1] = x1.toNat + 256 * x0.toNat := by simp [num, le]
 have e2 : num false [x0, x1] = x0.toNat + 256 * x1.toNat := by simp [num, le]
 refine Spc.body2 Tryz.func102 rfl Tryz.ntmps102 rfl ?_
 refine WC.seq ?_
 refine WC.region ?_
 (refine WL.box rfl spi_ rfl ?_; intro b)
 refine go_ ?_
 cases big with
 | true =>
  refine go_ ?_
  refine WC.draw 11 (.take 0 (.take 1 (.take 2 (.take 3 (.take 4 (.take 5 (.take 6 (.take 7 (.take 8 (.take 9 (.one 10 .done))))))))))) [] mixed sub_ (by decide +kernel) ?_
  refine dr_ ?_
  refine go_ ?_
  refine WE.drop Pick.here ?_
  exact end_1 rfl rfl (Env.le.rfl' _) ⟨by rw [or_u16, e1], rfl, rfl⟩
 | false =>
  refine go_ ?_
  refine WC.draw 11 (.take 0 (.take 1 (.take 2 (.take 3 (.take 4 (.take 5 (.take 6 (.take 7 (.take 8 (.take 9 (.one 10 .done))))))))))) [] mixed sub_ (by decide +kernel) ?_
  refine dr_ ?_
  refine go_ ?_
  refine WE.drop Pick.here ?_
  exact end_1 rfl rfl (Env.le.rfl' _) ⟨by rw [or_u16, e2], rfl, rfl⟩
theorem order_uint32 {Γ : Env} {H : List Blk} {d : Value} {x0 x1 x2 x3 : UInt8} {l : List UInt8} (big : Bool) (hd : Byt Γ d (x0 :: x1 :: x2 :: x3 :: l)) :
  Spc Tryz.prog 105 #[.agg #[.bool big], d] Γ H (fun v Γ' H' => v = .int .u32 (num big [x0, x1, x2, x3]) ∧ Γ = Γ' ∧ H = H') := by
 have hd' := hd
 obtain ⟨a, cap, rfl, hc, hA⟩ := hd
 have hlen : (x0 :: x1 :: x2 :: x3 :: l).length = l.length + 4 := rfl
 have h2 := hd'.drop 2 (by omega)
 refine Spc.body2 Tryz.func105 rfl Tryz.ntmps105 rfl ?_
 refine WC.seq ?_
 refine WC.region ?_
 (refine WL.box rfl spi_ rfl ?_; intro b)
 refine go_ ?_
 cases big with
 | true =>
  refine go_ ?_
  refine WC.draw 12 (.take 0 (.take 1 (.take 5 (.take 6 (.take 7 (.one 2 (.take 3 (.take 4 (.one 8 (.take 9 (.take 10 (.one 11 .done)))))))))))) [(b, _)] mixed sub_ (by decide +kernel) ?_
  refine dr_ ?_
  refine WL.call rfl Tryz.call102 rfl rfl (by exact (order_uint16 true hd')) ?_
  rintro _ _ _ - ⟨rfl, rfl, rfl⟩
  refine dr_ ?_
  refine WL.call rfl Tryz.call102 rfl rfl (by exact (order_uint16 true h2)) ?_
  rintro _ _ _ - ⟨rfl, rfl, rfl⟩
  refine dr_ ?_
  refine go_ ?_
  refine WE.drop Pick.here ?_
  have b0 := x0.toNat_lt
  have b1 := x1.toNat_lt
  have b2 := x2.toNat_lt
  have b3 := x3.toNat_lt
  have e1 : num true [x0, x1, x2, x3] = num true [x2, x3] + 65536 * num true [x0, x1] := by simp [num, le]; omega
  have e2 : num false [x0, x1, x2, x3] = num false [x0, x1] + 65536 * num false [x2, x3] := by simp [num, le]; omega
  have n1 := num_lt true [x0, x1]
  have n2 := num_lt true [x2, x3]
  have n3 := num_lt false [x0, x1]
  have n4 := num_lt false [x2, x3]
  exact end_1 rfl rfl (Env.le.rfl' _) ⟨congrArg (Value.int .u32) ((or_u32 _ _ n1 n2).trans (congrArg Nat.cast e1.symm)), rfl, rfl⟩
 | false =>
  refine go_ ?_
  refine WC.draw 12 (.take 0 (.take 1 (.take 2 (.take 6 (.take 7 (.one 3 (.take 4 (.take 5 (.one 8 (.take 9 (.take 10 (.one 11 .done)))))))))))) [(b, _)] mixed sub_ (by decide +kernel) ?_
  refine dr_ ?_
  refine WL.call rfl Tryz.call102 rfl rfl (by exact (order_uint16 false h2)) ?_
  rintro _ _ _ - ⟨rfl, rfl, rfl⟩
  refine dr_ ?_
  refine WL.call rfl Tryz.call102 rfl rfl (by exact (order_uint16 false hd')) ?_
  rintro _ _ _ - ⟨rfl, rfl, rfl⟩
  refine dr_ ?_
  refine go_ ?_
  refine WE.drop Pick.here ?_
  have b0 := x0.toNat_lt
  have b1 := x1.toNat_lt
  have b2 := x2.toNat_lt
  have b3 := x3.toNat_lt
  have e1 : num true [x0, x1, x2, x3] = num true [x2, x3] + 65536 * num true [x0, x1] := by simp [num, le]; omega
  have e2 : num false [x0, x1, x2, x3] = num false [x0, x1] + 65536 * num false [x2, x3] := by simp [num, le]; omega
  have n1 := num_lt true [x0, x1]
  have n2 := num_lt true [x2, x3]
  have n3 := num_lt false [x0, x1]
  have n4 := num_lt false [x2, x3]
  exact end_1 rfl rfl (Env.le.rfl' _) ⟨congrArg (Value.int .u32) ((or_u32 _ _ n4 n3).trans (congrArg Nat.cast e2.symm)), rfl, rfl⟩
theorem order_uint64 {Γ : Env} {H : List Blk} {d : Value} {x0 x1 x2 x3 x4 x5 x6 x7 : UInt8} {l : List UInt8} (big : Bool) (hd : Byt Γ d (x0 :: x1 :: x2 :: x3 :: x4 :: x5 :: x6 :: x7 :: l)) :
  Spc Tryz.prog 104 #[.agg #[.bool big], d] Γ H (fun v Γ' H' => v = .int .u64 (num big [x0, x1, x2, x3, x4, x5, x6, x7]) ∧ Γ = Γ' ∧ H = H') := by
 have hd' := hd
 obtain ⟨a, cap, rfl, hc, hA⟩ := hd
 have hlen : (x0 :: x1 :: x2 :: x3 :: x4 :: x5 :: x6 :: x7 :: l).length = l.length + 8 := rfl
 have h2 := hd'.drop 4 (by omega)
 refine Spc.body2 Tryz.func104 rfl Tryz.ntmps104 rfl ?_
 refine WC.seq ?_
 refine WC.region ?_
 (refine WL.box rfl spi_ rfl ?_; intro b)
 refine go_ ?_
 cases big with
 | true =>
  refine go_ ?_
  refine WC.draw 12 (.take 0 (.take 1 (.take 5 (.take 6 (.take 7 (.one 2 (.take 3 (.take 4 (.one 8 (.take 9 (.take 10 (.one 11 .done)))))))))))) [(b, _)] mixed sub_ (by decide +kernel) ?_
  refine dr_ ?_
  refine WL.call rfl Tryz.call105 rfl rfl (by exact (order_uint32 true hd')) ?_
  rintro _ _ _ - ⟨rfl, rfl, rfl⟩
  refine dr_ ?_
  refine WL.call rfl Tryz.call105 rfl rfl (by exact (order_uint32 true h2)) ?_
  rintro _ _ _ - ⟨rfl, rfl, rfl⟩
  refine dr_ ?_
  refine go_ ?_
  refine WE.drop Pick.here ?_
  have e1 : num true [x0, x1, x2, x3, x4, x5, x6, x7] = num true [x4, x5, x6, x7] + 4294967296 * num true [x0, x1, x2, x3] := by simp [num, le]; omega
  have e2 : num false [x0, x1, x2, x3, x4, x5, x6, x7] = num false [x0, x1, x2, x3] + 4294967296 * num false [x4, x5, x6, x7] := by simp [num, le]; omega
  have n1 : num true [x0, x1, x2, x3] < 4294967296 := by have := num_lt true [x0, x1, x2, x3]; simpa using this
  have n2 : num true [x4, x5, x6, x7] < 4294967296 := by have := num_lt true [x4, x5, x6, x7]; simpa using this
  have n3 : num false [x0, x1, x2, x3] < 4294967296 := by have := num_lt false [x0, x1, x2, x3]; simpa using this
  have n4 : num false [x4, x5, x6, x7] < 4294967296 := by have := num_lt false [x4, x5, x6, x7]; simpa using this
  exact end_1 rfl rfl (Env.le.rfl' _) ⟨congrArg (Value.int .u64) ((or_u64 _ _ n1 n2).trans (congrArg Nat.cast e1.symm)), rfl, rfl⟩
 | false =>
  refine go_ ?_
  refine WC.draw 12 (.take 0 (.take 1 (.take 2 (.take 6 (.take 7 (.one 3 (.take 4 (.take 5 (.one 8 (.take 9 (.take 10 (.one 11 .done)))))))))))) [(b, _)] mixed sub_ (by decide +kernel) ?_
  refine dr_ ?_
  refine WL.call rfl Tryz.call105 rfl rfl (by exact (order_uint32 false h2)) ?_
  rintro _ _ _ - ⟨rfl, rfl, rfl⟩
  refine dr_ ?_
  refine WL.call rfl Tryz.call105 rfl rfl (by exact (order_uint32 false hd')) ?_
  rintro _ _ _ - ⟨rfl, rfl, rfl⟩
  refine dr_ ?_
  refine go_ ?_
  refine WE.drop Pick.here ?_
  have e1 : num true [x0, x1, x2, x3, x4, x5, x6, x7] = num true [x4, x5, x6, x7] + 4294967296 * num true [x0, x1, x2, x3] := by simp [num, le]; omega
  have e2 : num false [x0, x1, x2, x3, x4, x5, x6, x7] = num false [x0, x1, x2, x3] + 4294967296 * num false [x4, x5, x6, x7] := by simp [num, le]; omega
  have n1 : num true [x0, x1, x2, x3] < 4294967296 := by have := num_lt true [x0, x1, x2, x3]; simpa using this
  have n2 : num true [x4, x5, x6, x7] < 4294967296 := by have := num_lt true [x4, x5, x6, x7]; simpa using this
  have n3 : num false [x0, x1, x2, x3] < 4294967296 := by have := num_lt false [x0, x1, x2, x3]; simpa using this
  have n4 : num false [x4, x5, x6, x7] < 4294967296 := by have := num_lt false [x4, x5, x6, x7]; simpa using this
  exact end_1 rfl rfl (Env.le.rfl' _) ⟨congrArg (Value.int .u64) ((or_u64 _ _ n4 n3).trans (congrArg Nat.cast e2.symm)), rfl, rfl⟩
theorem buf_uint8 {Γ : Env} {H F : List Blk} {p : Nat} {dw ord fmt nm err d : Value} {off : Nat} {post : List Value} {T : TypeId} {x : UInt8} {l : List UInt8}
  (hp : Pick H p (cel (bufc dw ord fmt nm off d err post) T) F) (hd : Byt Γ d (x :: l)) (ho : off + 1 < 4294967296) :
  Spc Tryz.prog 68 #[.pointer (some ⟨p, 0, none⟩)] Γ H (fun v Γ' H' => v = .int .u8 x.toNat ∧ Γ = Γ' ∧ ∃ d', Byt Γ d' l ∧ H' = (p, cel (bufc dw ord fmt nm (off + 1) d' err post) T) :: F) := by
 have hd' := hd
 obtain ⟨a, cap, rfl, hc, hA⟩ := hd
 obtain ⟨b, o, rfl, hcell⟩ := hA.cons
 have h0 : Γ.cell b (o + 0) = some (.int .u8 x.toNat) := hcell 0 _ rfl
 have hlen : (x :: l).length = l.length + 1 := rfl
 have h2 := hd'.drop 1 (by omega)
 refine Spc.perm ?_ hp.perm
 refine Spc.body1 Tryz.func68 rfl Tryz.ntmps68 rfl ?_
 refine go_ ?_
 exact end_1 rfl rfl (Env.le.rfl' _) ⟨rfl, rfl, _, h2, by rw [wu32 _ (by omega) (by omega)]; rfl⟩
theorem buf_bytes {Γ : Env} {H F : List Blk} {p : Nat} {dw ord fmt nm err d : Value} {off : Nat} {post : List Value} {T : TypeId} {x l : List UInt8}
  (hp : Pick H p (cel (bufc dw ord fmt nm off d err post) T) F) (hd : Byt Γ d (x ++ l)) (ho : off + x.length < 4294967296) :
  Spc Tryz.prog 90 #[.pointer (some ⟨p, 0, none⟩), .int .i64 (x.length : Int)] Γ H (fun v Γ' H' => Byt Γ v x ∧ Γ = Γ' ∧ ∃ d', Byt Γ d' l ∧ H' = (p, cel (bufc dw ord fmt nm (off + x.length) d' err post) T) :: F) := by
 have hd' := hd
 obtain ⟨a, cap, rfl, hc, hA⟩ := hd
 have hlen : (x ++ l).length = x.length + l.length := List.length_append
 have h2 := hd'.drop x.length (by omega)
 have h3 := hd'.sub 0 x.length (by omega) (by omega)
 rw [List.drop_left] at h2
 rw [List.take_left, List.drop_zero] at h3
 refine Spc.perm ?_ hp.perm
 refine Spc.body2 Tryz.func90 rfl Tryz.ntmps90 rfl ?_
 refine go_ ?_
 refine WC.condF rfl (by first | rfl | exact decide_eq_false (by omega) | (simp; (first | done | fail)) | (simp; omega)) ?_
 refine go_ ?_
 exact end_1 rfl rfl (Env.le.rfl' _) ⟨h3, rfl, _, h2, by rw [wu32 (x.length : Int) (by omega) (by omega), wu32 _ (by omega) (by omega)]; simp⟩
section
variable {Γ : Env} {H F : List Blk} {p : Nat} {dw fmt nm err d : Value} {off : Nat} {post : List Value} {T : TypeId}
theorem buf_skip {ord : Value} {x l : List UInt8} (hp : Pick H p (cel (bufc dw ord fmt nm off d err post) T) F) (hd : Byt Γ d (x ++ l)) (ho : off + x.length < 4294967296) :
  Spc Tryz.prog 84 #[.pointer (some ⟨p, 0, none⟩), .int .i64 (x.length : Int)] Γ H (fun v Γ' H' => v = .tuple #[] ∧ Γ = Γ' ∧ ∃ d', Byt Γ d' l ∧ H' = (p, cel (bufc dw ord fmt nm (off + x.length) d' err post) T) :: F) := by
 refine Spc.body2 Tryz.func84 rfl Tryz.ntmps84 rfl ?_
 refine go_ ?_
 refine WL.call rfl Tryz.call90 rfl rfl (by exact (buf_bytes hp hd ho)) ?_
 rintro _ _ _ - ⟨-, rfl, d', h1, rfl⟩
 refine go_ ?_
 exact end_0 rfl (Env.le.rfl' _) ⟨rfl, rfl, d', h1, rfl⟩
theorem buf_uint16 {big : Bool} {x0 x1 : UInt8} {l : List UInt8} (hp : Pick H p (cel (bufc dw (.bool big) fmt nm off d err post) T) F) (hd : Byt Γ d (x0 :: x1 :: l)) (ho : off + 2 < 4294967296) :
  Spc Tryz.prog 85 #[.pointer (some ⟨p, 0, none⟩)] Γ H (fun v Γ' H' => v = .int .u16 (num big [x0, x1]) ∧ Γ = Γ' ∧ ∃ d', Byt Γ d' l ∧ H' = (p, cel (bufc dw (.bool big) fmt nm (off + 2) d' err post) T) :: F) := by
 refine Spc.body1 Tryz.func85 rfl Tryz.ntmps85 rfl ?_
 refine go_ ?_
 refine WL.call rfl Tryz.call90 rfl rfl (by exact (buf_bytes (x := [x0, x1]) hp hd ho)) ?_
 rintro _ _ _ - ⟨hv, rfl, d', h1, rfl⟩
 have hv' := hv
 obtain ⟨a, cap, rfl, hc, hA⟩ := hv
 obtain ⟨b, o, rfl, hcell⟩ := hA.cons
 refine go_ ?_
 refine WL.call rfl Tryz.call102 rfl rfl (by exact (order_uint16 big hv')) ?_
 rintro _ _ _ - ⟨rfl, rfl, rfl⟩
 refine go_ ?_
 exact end_1 rfl rfl (Env.le.rfl' _) ⟨rfl, rfl, d', h1, rfl⟩
theorem buf_uint32 {big : Bool} {x0 x1 x2 x3 : UInt8} {l : List UInt8} (hp : Pick H p (cel (bufc dw (.bool big) fmt nm off d err post) T) F) (hd : Byt Γ d (x0 :: x1 :: x2 :: x3 :: l)) (ho : off + 4 < 4294967296) :
  Spc Tryz.prog 88 #[.pointer (some ⟨p, 0, none⟩)] Γ H (fun v Γ' H' => v = .int .u32 (num big [x0, x1, x2, x3]) ∧ Γ = Γ' ∧ ∃ d', Byt Γ d' l ∧ H' = (p, cel (bufc dw (.bool big) fmt nm (off + 4) d' err post) T) :: F) := by
 refine Spc.body1 Tryz.func88 rfl Tryz.ntmps88 rfl ?_
 refine go_ ?_
 refine WL.call rfl Tryz.call90 rfl rfl (by exact (buf_bytes (x := [x0, x1, x2, x3]) hp hd ho)) ?_
 rintro _ _ _ - ⟨hv, rfl, d', h1, rfl⟩
 have hv' := hv
 obtain ⟨a, cap, rfl, hc, hA⟩ := hv
 obtain ⟨b, o, rfl, hcell⟩ := hA.cons
 refine go_ ?_
 refine WL.call rfl Tryz.call105 rfl rfl (by exact (order_uint32 big hv')) ?_
 rintro _ _ _ - ⟨rfl, rfl, rfl⟩
 refine go_ ?_
 exact end_1 rfl rfl (Env.le.rfl' _) ⟨rfl, rfl, d', h1, rfl⟩
theorem buf_uint64 {big : Bool} {x0 x1 x2 x3 x4 x5 x6 x7 : UInt8} {l : List UInt8} (hp : Pick H p (cel (bufc dw (.bool big) fmt nm off d err post) T) F) (hd : Byt Γ d (x0 :: x1 :: x2 :: x3 :: x4 :: x5 :: x6 :: x7 :: l)) (ho : off + 8 < 4294967296) :
  Spc Tryz.prog 87 #[.pointer (some ⟨p, 0, none⟩)] Γ H (fun v Γ' H' => v = .int .u64 (num big [x0, x1, x2, x3, x4, x5, x6, x7]) ∧ Γ = Γ' ∧ ∃ d', Byt Γ d' l ∧ H' = (p, cel (bufc dw (.bool big) fmt nm (off + 8) d' err post) T) :: F) := by
 refine Spc.body1 Tryz.func87 rfl Tryz.ntmps87 rfl ?_
 refine go_ ?_
 refine WL.call rfl Tryz.call90 rfl rfl (by exact (buf_bytes (x := [x0, x1, x2, x3, x4, x5, x6, x7]) hp hd ho)) ?_
 rintro _ _ _ - ⟨hv, rfl, d', h1, rfl⟩
 have hv' := hv
 obtain ⟨a, cap, rfl, hc, hA⟩ := hv
 obtain ⟨b, o, rfl, hcell⟩ := hA.cons
 refine go_ ?_
 refine WL.call rfl Tryz.call104 rfl rfl (by exact (order_uint64 big hv')) ?_
 rintro _ _ _ - ⟨rfl, rfl, rfl⟩
 refine go_ ?_
 exact end_1 rfl rfl (Env.le.rfl' _) ⟨rfl, rfl, d', h1, rfl⟩
theorem buf_varint {ord : Value} {bs l : List UInt8} (hp : Pick H p (cel (bufc dw ord fmt nm off d err post) T) F) (hd : Byt Γ d (bs ++ l)) (hl : IsLeb bs) (h10 : bs.length ≤ 10) (ho : off + bs.length < 4294967296) :
  Spc Tryz.prog 95 #[.pointer (some ⟨p, 0, none⟩)] Γ H (fun v Γ' H' => v = .tuple #[.int .u64 ((lebV bs % 2 ^ 64 : Nat) : Int), .int .u64 ((7 * bs.length : Nat) : Int)] ∧ Γ = Γ' ∧ ∃ d', Byt Γ d' l ∧ H' = (p, cel (bufc dw ord fmt nm (off + bs.length) d' err post) T) :: F) := by
 have hd' := hd
 obtain ⟨a, cap, rfl, hc, hA⟩ := hd
 obtain ⟨hne, hbit⟩ := hl
 have hpos : 0 < bs.length := List.length_pos_iff.2 hne
 have hlen : (bs ++ l).length = bs.length + l.length := List.length_append
 have hx : (bs ++ l)[0]? = some ((bs ++ l)[0]'(by omega)) := List.getElem?_eq_getElem _
 obtain ⟨b, o, rfl, _⟩ := hA 0 _ hx
 have hcell : ∀ i y, bs[i]? = some y → Γ.cell b (o + i) = some (.int .u8 (y.toNat : Int)) := fun i y e => by
  obtain ⟨b', o', h1, h2⟩ := hA i y (by rw [List.getElem?_append_left (List.getElem?_eq_some_iff.1 e).1]; exact e)
  injection h1 with h1; injection h1 with h1 h3; subst h1 h3; exact h2
 refine Spc.perm ?_ hp.perm
 refine Spc.body1 Tryz.func95 rfl Tryz.ntmps95 rfl ?_
 refine go_ ?_
 refine WC.loopR (fun i : Nat => [(0, .pointer (some ⟨p, 0, none⟩)), (2, .int .u64 ((lebV (bs.take i) % 2 ^ 64 : Nat) : Int)), (3, .int .u64 ((7 * i : Nat) : Int)), (4, .int .i64 (i : Int))]) (fun _ => Γ) (fun _ => (p, cel (bufc dw ord fmt nm off (.slice (some ⟨b, o, none⟩) (bs ++ l).length cap) err post) T) :: F)
  (fun i => i < bs.length) (fun i => bs.length - i) 0 hpos sr_ (fun _ h => h) ?_
 intro i hi
 obtain ⟨y, hy⟩ : ∃ y, bs[i]? = some y := ⟨_, List.getElem?_eq_getElem hi⟩
 have hcl := hcell i y hy
 have hcl' : Γ.cell b (o + Int.toNat (i : Int) * 1) = some (.int .u8 (y.toNat : Int)) := by
  rw [Int.toNat_natCast, Nat.mul_one]; exact hcl
 have hw : IntKind.i64.wrap ((i : Int) + 1) = (i : Int) + 1 := w_i64 (by omega) (by omega)
 refine go_ ?_
 refine WC.condT rfl tr_ ?_
 refine go_ ?_
 have hor := leb_or (lebV (bs.take i)) i y (by have := lebV_lt (bs.take i); rw [List.length_take, Nat.min_eq_left (by omega)] at this; exact this) (by omega)
 rw [← lebV_take hy] at hor
 have h7 : IntKind.u64.wrap (((7 * i : Nat) : Int) + 7) = ((7 * (i + 1) : Nat) : Int) := by rw [w_u64 (by omega) (by omega)]; omega
 refine WC.condS rfl (fun hc => ?_) (fun hc => ?_)
 ·rw [u8_and128] at hc
  have hlast : i + 1 = bs.length := (hbit i y hy).1 (of_decide_eq_true hc)
  refine go_ ?_
  have h2 := hd'.drop (IntKind.i64.wrap ((i : Int) + 1)).toNat (by omega)
  have h3 : (IntKind.i64.wrap ((i : Int) + 1)).toNat = bs.length := by omega
  rw [show (bs ++ l).drop (IntKind.i64.wrap ((i : Int) + 1)).toNat = l by rw [h3, List.drop_left]] at h2
  rw [hlast, List.take_length] at hor
  rw [hlast] at h7
  refine end_2 rfl rfl rfl (Env.le.rfl' _) ⟨?_, rfl, _, h2, ?_⟩
  ·rw [hor, h7]
  ·rw [hw, wu32 ((i : Int) + 1) (by omega) (by omega), wu32 _ (by omega) (by omega), show (off : Int) + ((i : Int) + 1) = ((off + bs.length : Nat) : Int) by omega]
 ·rw [u8_and128] at hc
  have hnl : ¬ i + 1 = bs.length := fun e => (of_decide_eq_false hc) ((hbit i y hy).2 e)
  refine go_ ?_
  exact WE.round (i + 1) (by omega) (by omega) ⟨rfl, congrArg (fun z => some (Value.int .u64 z)) hor, congrArg (fun z => some (Value.int .u64 z)) h7, congrArg (fun z => some (Value.int .i64 z)) hw, trivial⟩ (fun _ h => h)
end
section
variable {Γ : Env} {H F : List Blk} {p : Nat} {dw fmt nm err d : Value} {off : Nat} {post : List Value} {T : TypeId}
theorem buf_uint {ord : Value} {bs l : List UInt8} (hp : Pick H p (cel (bufc dw ord fmt nm off d err post) T) F) (hd : Byt Γ d (bs ++ l)) (hl : IsLeb bs) (h10 : bs.length ≤ 10) (ho : off + bs.length < 4294967296) :
  Spc Tryz.prog 69 #[.pointer (some ⟨p, 0, none⟩)] Γ H (fun v Γ' H' => v = .int .u64 ((lebV bs % 2 ^ 64 : Nat) : Int) ∧ Γ = Γ' ∧ ∃ d', Byt Γ d' l ∧ H' = (p, cel (bufc dw ord fmt nm (off + bs.length) d' err post) T) :: F) := by
 have hpos : 0 < bs.length := List.length_pos_iff.2 hl.1
 refine Spc.body1 Tryz.func69 rfl Tryz.ntmps69 rfl ?_
 refine go_ ?_
 refine WL.call rfl Tryz.call95 rfl rfl (by exact (buf_varint hp hd hl h10 ho)) ?_
 rintro _ _ _ - ⟨rfl, rfl, d', h1, rfl⟩
 refine go_ ?_
 refine WC.condF rfl (beq_eq_false_iff_ne.2 (by omega)) ?_
 refine go_ ?_
 exact end_1 rfl rfl (Env.le.rfl' _) ⟨rfl, rfl, d', h1, rfl⟩
theorem buf_int {ord : Value} {bs l : List UInt8} {z : Int} (hp : Pick H p (cel (bufc dw ord fmt nm off d err post) T) F) (hd : Byt Γ d (bs ++ l)) (hl : IsSleb bs z) (h10 : bs.length ≤ 10) (hz0 : -9223372036854775808 ≤ z) (hz1 : z < 9223372036854775808) (ho : off + bs.length < 4294967296) :
  Spc Tryz.prog 106 #[.pointer (some ⟨p, 0, none⟩)] Γ H (fun v Γ' H' => v = .int .i64 z ∧ Γ = Γ' ∧ ∃ d', Byt Γ d' l ∧ H' = (p, cel (bufc dw ord fmt nm (off + bs.length) d' err post) T) :: F) := by
 have hpos : 0 < bs.length := List.length_pos_iff.2 hl.leb.1
 have hsub : IntKind.u64.wrap (((7 * bs.length : Nat) : Int) - 1) = ((7 * bs.length - 1 : Nat) : Int) := by rw [w_u64 (by omega) (by omega)]; omega
 refine Spc.body1 Tryz.func106 rfl Tryz.ntmps106 rfl ?_
 refine go_ ?_
 refine WL.call rfl Tryz.call95 rfl rfl (by exact (buf_varint hp hd hl.leb h10 ho)) ?_
 rintro _ _ _ - ⟨rfl, rfl, d', h1, rfl⟩
 refine go_ ?_
 refine WC.condS rfl (fun hc => ?_) (fun hc => ?_)
 ·rcases Nat.lt_or_ge bs.length 10 with h9 | h9
  ·obtain ⟨e1, e2, e3⟩ := sleb_small hl (by omega)
   rw [e1] at hc
   have e4 := e3 (of_decide_eq_true hc)
   refine go_ ?_
   refine WC.condF rfl (beq_eq_false_iff_ne.2 (by omega)) ?_
   refine go_ ?_
   exact end_1 rfl rfl (Env.le.rfl' _) ⟨congrArg (Value.int .i64) ((congrArg (fun q => bits .or .i64 q _) e2).trans e4), rfl, d', h1, rfl⟩
  ·obtain ⟨e1, e2⟩ := sleb_big hl (by omega) hz0 hz1
   rw [e1] at hc; cases hc
 ·refine go_ ?_
  refine WC.condF rfl (beq_eq_false_iff_ne.2 (by omega)) ?_
  refine go_ ?_
  refine end_1 rfl rfl (Env.le.rfl' _) ⟨congrArg (Value.int .i64) ?_, rfl, d', h1, rfl⟩
  rcases Nat.lt_or_ge bs.length 10 with h9 | h9
  ·obtain ⟨e1, e2, e3⟩ := sleb_small hl (by omega)
   rw [e1] at hc
   have hz : ¬ z < 0 := of_decide_eq_false hc
   rw [e2, hl.eqv, Int.emod_eq_of_lt (by omega)]
   have := hl.hi
   have h2 : (2 : Int) ^ (7 * bs.length - 1) ≤ 2 ^ (7 * bs.length) := by
    have : (2 : Nat) ^ (7 * bs.length - 1) ≤ 2 ^ (7 * bs.length) := Nat.pow_le_pow_right (by decide) (by omega)
    exact_mod_cast this
   omega
  ·exact (sleb_big hl (by omega) hz0 hz1).2
theorem indexByte_at (s r : List UInt8) (h : ∀ x ∈ s, x ≠ 0) : Lib.indexByte (s ++ 0 :: r) 0 = (s.length : Int) := by
 induction s with
 | nil => rfl
 | cons x s ih =>
  have hx : (x == 0) = false := by simpa using h x (List.mem_cons_self ..)
  have := ih fun y hy => h y (List.mem_cons_of_mem _ hy)
  simp only [List.cons_append, Lib.indexByte, hx, this]
  have h2 : ((s.length : Int) == -1) = false := beq_eq_false_iff_ne.2 (by omega)
  simp [h2]
theorem bytesOf_nums (l : List UInt8) : Lib.bytesOf (l.map fun b => (b.toNat : Int)) = l := by
 unfold Lib.bytesOf
 rw [List.map_map]
 have : ((fun n : Int => n.toNat.toUInt8) ∘ fun b : UInt8 => (b.toNat : Int)) = id := by
  funext b; simp
 rw [this]; simp
theorem bytes_IndexByte {s r : List UInt8} (hd : Byt Γ d (s ++ 0 :: r)) (h : ∀ x ∈ s, x ≠ 0) :
  Spc Tryz.prog 133 #[d, .int .u8 0] Γ H (fun v Γ' H' => v = .int .i64 s.length ∧ Γ = Γ' ∧ H = H') := by
 obtain ⟨a, cap, rfl, hc, hA⟩ := hd
 obtain ⟨b, o, rfl, hcell⟩ : ∃ b o, a = some ⟨b, o, none⟩ ∧ ∀ i y, (s ++ 0 :: r)[i]? = some y → Γ.cell b (o + i) = some (.int .u8 (y.toNat : Int)) := by
  cases hl : s ++ 0 :: r with
  | nil => simp at hl
  | cons y l => rw [hl] at hA; exact hA.cons
 refine Spc.body2 Tryz.func133 rfl Tryz.ntmps133 rfl ?_
 refine go_ ?_
 refine WL.extern rfl (run_callFunc_extern Tryz.func136 (by kernel_rfl) (by kernel_rfl) (by kernel_rfl) (e := Extern.BytealgIndexByte.indexByte) (by kernel_rfl)) rfl rfl (v := .int .i64 s.length) (fun w hw => ?_) ?_
 ·have := Lib.run_indexByteSlice (P := Tryz.prog) w b o (s ++ 0 :: r).length cap ((s ++ 0 :: r).map fun b => (b.toNat : Int)) (by simp) (fun i hi => by
   rw [hw.icell (hcell i _ (List.getElem?_eq_getElem hi))]
   rw [List.getD_eq_getElem?_getD, List.getElem?_map, List.getElem?_eq_getElem hi]; rfl) 0
  rw [bytesOf_nums] at this
  exact this.trans (by rw [show (0 : Int).toNat.toUInt8 = 0 from rfl, indexByte_at s r h])
 refine go_ ?_
 exact end_1 rfl rfl (Env.le.rfl' _) ⟨rfl, rfl, rfl⟩
theorem buf_string {ord : Value} {s l : List UInt8} (hp : Pick H p (cel (bufc dw ord fmt nm off d err post) T) F) (hd : Byt Γ d (s ++ 0 :: l)) (h : ∀ x ∈ s, x ≠ 0) (ho : off + s.length + 1 < 4294967296) :
  Spc Tryz.prog 119 #[.pointer (some ⟨p, 0, none⟩)] Γ H (fun v Γ' H' => v = .string ⟨s.toArray⟩ ∧ Γ = Γ' ∧ ∃ d', Byt Γ d' l ∧ H' = (p, cel (bufc dw ord fmt nm (off + s.length + 1) d' err post) T) :: F) := by
 refine Spc.perm ?_ hp.perm
 have hd' := hd
 obtain ⟨a, cap, rfl, hc, hA⟩ := hd
 have hlen : (s ++ 0 :: l).length = s.length + (l.length + 1) := by simp
 have hw : IntKind.i64.wrap ((s.length : Int) + 1) = (s.length : Int) + 1 := w_i64 (by omega) (by omega)
 have h3 := hd'.sub 0 s.length (by omega) (by omega)
 rw [List.take_left, List.drop_zero] at h3
 have h2 := hd'.drop (IntKind.i64.wrap ((s.length : Int) + 1)).toNat (by omega)
 have e2 : (s ++ 0 :: l).drop (IntKind.i64.wrap ((s.length : Int) + 1)).toNat = l := by
  rw [hw, show ((s.length : Int) + 1).toNat = s.length + 1 by omega, show s ++ 0 :: l = (s ++ [0]) ++ l by simp, show s.length + 1 = (s ++ [(0 : UInt8)]).length by simp, List.drop_left]
 rw [e2] at h2
 refine Spc.body1 Tryz.func119 rfl Tryz.ntmps119 rfl ?_
 refine go_ ?_
 refine WL.call rfl Tryz.call133 rfl rfl (by exact (bytes_IndexByte hd' h)) ?_
 rintro _ _ _ - ⟨rfl, rfl, rfl⟩
 refine go_ ?_
 refine WL.b2s tab_ok rfl rfl rfl rfl h3 rfl ?_
 refine go_ ?_
 exact end_1 rfl rfl (Env.le.rfl' _) ⟨rfl, rfl, _, h2, by rw [hw, wu32 ((s.length : Int) + 1) (by omega) (by omega), wu32 _ (by omega) (by omega), show (off : Int) + ((s.length : Int) + 1) = ((off + s.length + 1 : Nat) : Int) by omega]⟩
end
theorem list2 {α : Type} {l : List α} (h : l.length = 2) : ∃ a b, l = [a, b] := by
 match l, h with
 | [a, b], _ => exact ⟨a, b, rfl⟩
theorem list4 {α : Type} {l : List α} (h : l.length = 4) : ∃ a b c d, l = [a, b, c, d] := by
 match l, h with
 | [a, b, c, d], _ => exact ⟨a, b, c, d, rfl⟩
theorem list8 {α : Type} {l : List α} (h : l.length = 8) : ∃ a b c d e f g i, l = [a, b, c, d, e, f, g, i] := by
 match l, h with
 | [a, b, c, d, e, f, g, i], _ => exact ⟨a, b, c, d, e, f, g, i, rfl⟩
section
variable {Γ : Env} {H F : List Blk} {p : Nat} {dw fmt nm err d : Value} {off : Nat} {post : List Value} {T : TypeId} {big : Bool} {k : Nat} {l : List UInt8}
theorem buf_u8 {ord : Value} (hk : k < 256) (hp : Pick H p (cel (bufc dw ord fmt nm off d err post) T) F) (hd : Byt Γ d (fix k 1 big ++ l)) (ho : off + 1 < 4294967296) :
  Spc Tryz.prog 68 #[.pointer (some ⟨p, 0, none⟩)] Γ H (fun v Γ' H' => v = .int .u8 (k : Int) ∧ Γ = Γ' ∧ ∃ d', Byt Γ d' l ∧ H' = (p, cel (bufc dw ord fmt nm (off + 1) d' err post) T) :: F) := by
 have e : fix k 1 big = [UInt8.ofNat k] := by
  have : k % 256 = k := Nat.mod_eq_of_lt hk
  cases big <;> simp only [fix, fixL, cond_true, cond_false, List.reverse_singleton, this]
 rw [e] at hd
 have h1 : (UInt8.ofNat k).toNat = k := by simp; omega
 have := buf_uint8 hp hd ho
 rw [h1] at this
 exact this
theorem buf_u16 (hk : k < 65536) (hp : Pick H p (cel (bufc dw (.bool big) fmt nm off d err post) T) F) (hd : Byt Γ d (fix k 2 big ++ l)) (ho : off + 2 < 4294967296) :
  Spc Tryz.prog 85 #[.pointer (some ⟨p, 0, none⟩)] Γ H (fun v Γ' H' => v = .int .u16 (k : Int) ∧ Γ = Γ' ∧ ∃ d', Byt Γ d' l ∧ H' = (p, cel (bufc dw (.bool big) fmt nm (off + 2) d' err post) T) :: F) := by
 have hn := num_fix (n := k) (s := 2) (by omega) big
 obtain ⟨a, b, e⟩ := list2 (fix_length k 2 big)
 rw [e] at hd hn
 have := buf_uint16 hp hd ho
 rw [hn] at this
 exact this
theorem buf_u32 (hk : k < 4294967296) (hp : Pick H p (cel (bufc dw (.bool big) fmt nm off d err post) T) F) (hd : Byt Γ d (fix k 4 big ++ l)) (ho : off + 4 < 4294967296) :
  Spc Tryz.prog 88 #[.pointer (some ⟨p, 0, none⟩)] Γ H (fun v Γ' H' => v = .int .u32 (k : Int) ∧ Γ = Γ' ∧ ∃ d', Byt Γ d' l ∧ H' = (p, cel (bufc dw (.bool big) fmt nm (off + 4) d' err post) T) :: F) := by
 have hn := num_fix (n := k) (s := 4) (by simpa using hk) big
 obtain ⟨a, b, c, x, e⟩ := list4 (fix_length k 4 big)
 rw [e] at hd hn
 have := buf_uint32 hp hd ho
 rw [hn] at this
 exact this
theorem buf_u64 (hk : k < 18446744073709551616) (hp : Pick H p (cel (bufc dw (.bool big) fmt nm off d err post) T) F) (hd : Byt Γ d (fix k 8 big ++ l)) (ho : off + 8 < 4294967296) :
  Spc Tryz.prog 87 #[.pointer (some ⟨p, 0, none⟩)] Γ H (fun v Γ' H' => v = .int .u64 (k : Int) ∧ Γ = Γ' ∧ ∃ d', Byt Γ d' l ∧ H' = (p, cel (bufc dw (.bool big) fmt nm (off + 8) d' err post) T) :: F) := by
 have hn := num_fix (n := k) (s := 8) (by simpa using hk) big
 obtain ⟨a, b, c, x, y, z, u, v, e⟩ := list8 (fix_length k 8 big)
 rw [e] at hd hn
 have := buf_uint64 hp hd ho
 rw [hn] at this
 exact this
theorem buf_unitLength32 (hk : k < 4294967280) (hp : Pick H p (cel (bufc dw (.bool big) fmt nm off d err post) T) F) (hd : Byt Γ d (fix k 4 big ++ l)) (ho : off + 4 < 4294967296) :
  Spc Tryz.prog 82 #[.pointer (some ⟨p, 0, none⟩)] Γ H (fun v Γ' H' => v = .tuple #[.int .u32 (k : Int), .bool false] ∧ Γ = Γ' ∧ ∃ d', Byt Γ d' l ∧ H' = (p, cel (bufc dw (.bool big) fmt nm (off + 4) d' err post) T) :: F) := by
 refine Spc.body1 Tryz.func82 rfl Tryz.ntmps82 rfl ?_
 refine go_ ?_
 refine WL.call rfl Tryz.call88 rfl rfl (by exact (buf_u32 (by omega) hp hd ho)) ?_
 rintro _ _ _ - ⟨rfl, rfl, d', h1, rfl⟩
 refine go_ ?_
 refine WC.condF rfl (beq_eq_false_iff_ne.2 (by omega)) ?_
 refine go_ ?_
 refine WC.condF rfl (decide_eq_false (by omega)) ?_
 refine go_ ?_
 exact end_2 rfl rfl rfl (Env.le.rfl' _) ⟨rfl, rfl, d', h1, rfl⟩
theorem buf_unitLength64 (hk : k < 4294967296) (hp : Pick H p (cel (bufc dw (.bool big) fmt nm off d err post) T) F) (hd : Byt Γ d ([255, 255, 255, 255] ++ (fix k 8 big ++ l))) (ho : off + 12 < 4294967296) :
  Spc Tryz.prog 82 #[.pointer (some ⟨p, 0, none⟩)] Γ H (fun v Γ' H' => v = .tuple #[.int .u32 (k : Int), .bool true] ∧ Γ = Γ' ∧ ∃ d', Byt Γ d' l ∧ H' = (p, cel (bufc dw (.bool big) fmt nm (off + 12) d' err post) T) :: F) := by
 have e : num big [255, 255, 255, 255] = 4294967295 := by cases big <;> decide
 refine Spc.body1 Tryz.func82 rfl Tryz.ntmps82 rfl ?_
 refine go_ ?_
 have hc := buf_uint32 hp hd (by omega)
 rw [e] at hc
 refine WL.call rfl Tryz.call88 rfl rfl (by exact hc) ?_
 rintro _ _ _ - ⟨rfl, rfl, d', h1, rfl⟩
 refine go_ ?_
 refine WL.call rfl Tryz.call87 rfl rfl (by exact (buf_u64 (by omega) Pick.here h1 (by omega))) ?_
 rintro _ _ _ - ⟨rfl, rfl, d', h2, rfl⟩
 refine go_ ?_
 refine end_2 rfl rfl rfl (Env.le.rfl' _) ⟨by rw [wu32 (k : Int) (by omega) (by omega)], rfl, d', h2, rfl⟩
end
theorem makeBuf_ok {Γ : Env} {H : List Blk} {pd : Nat} {big : Bool} {tf : TypeId} {vf : Value} {nm : ByteArray} {off : Nat} {a : Option Addr} {len cap : Nat} (hd : Rd Γ H pd 14 (.bool big)) :
  Spc Tryz.prog 67 #[.pointer (some ⟨pd, 0, none⟩), .iface tf vf, .string nm, .int .u32 off, .slice a len cap] Γ H (fun v Γ' H' => v = .agg #[.pointer (some ⟨pd, 0, none⟩), .bool big, .iface tf vf, .string nm, .int .u32 off, .slice a len cap, .nilIface] ∧ Γ = Γ' ∧ H = H') := by
 refine Spc.body5 Tryz.func67 rfl Tryz.ntmps67 rfl ?_
 refine WC.seq ?_
 refine WC.region ?_
 (refine WL.alloc tab_ok rfl rfl ?_; intro b)
 refine go_ ?_
 refine WL.ldRA tab_ok rfl rfl rfl (l := [.bool big]) (fun k v e => ?_) rfl rfl ?_
 ·cases k with
  | zero => injection e with e; subst e; exact hd.cons
  | succ k => simp at e
 refine go_ ?_
 exact end_c tab_ok rfl rfl rfl rfl Pick.here rfl (Env.le.rfl' _) ⟨rfl, rfl, rfl⟩
theorem unit_addrsize {Γ : Env} {H : List Blk} {pu ou : Nat} {a : Int} (h : Rd Γ H pu (ou + 5) (.int .i64 a)) :
  Spc Tryz.prog 179 #[.pointer (some ⟨pu, ou, none⟩)] Γ H (fun v Γ' H' => v = .int .i64 a ∧ Γ = Γ' ∧ H = H') := by
 refine Spc.body1 Tryz.func179 rfl Tryz.ntmps179 rfl ?_
 refine go_ ?_
 refine WL.ldR tab_ok rfl rfl rfl (by assumption) rfl ?_
 refine go_ ?_
 exact end_1 rfl rfl (Env.le.rfl' _) ⟨rfl, rfl, rfl⟩
theorem unit_version {Γ : Env} {H : List Blk} {pu ou : Nat} {a : Int} (h : Rd Γ H pu (ou + 6) (.int .i64 a)) :
  Spc Tryz.prog 181 #[.pointer (some ⟨pu, ou, none⟩)] Γ H (fun v Γ' H' => v = .int .i64 a ∧ Γ = Γ' ∧ H = H') := by
 refine Spc.body1 Tryz.func181 rfl Tryz.ntmps181 rfl ?_
 refine go_ ?_
 refine WL.ldR tab_ok rfl rfl rfl (by assumption) rfl ?_
 refine go_ ?_
 exact end_1 rfl rfl (Env.le.rfl' _) ⟨rfl, rfl, rfl⟩
theorem unit_dwarf64 {Γ : Env} {H : List Blk} {pu ou : Nat} {a : Bool} (h : Rd Γ H pu (ou + 7) (.bool a)) :
  Spc Tryz.prog 180 #[.pointer (some ⟨pu, ou, none⟩)] Γ H (fun v Γ' H' => v = .tuple #[.bool a, .bool true] ∧ Γ = Γ' ∧ H = H') := by
 refine Spc.body1 Tryz.func180 rfl Tryz.ntmps180 rfl ?_
 refine go_ ?_
 refine WL.ldR tab_ok rfl rfl rfl (by assumption) rfl ?_
 refine go_ ?_
 exact end_2 rfl rfl rfl (Env.le.rfl' _) ⟨rfl, rfl, rfl⟩
section
variable {Γ : Env} {H F : List Blk} {p : Nat} {dw nm err d : Value} {off : Nat} {post : List Value} {T : TypeId} {big : Bool} {k : Nat} {l : List UInt8}
abbrev ufmt (pu ou : Nat) : Value := .iface 274 (.pointer (some ⟨pu, ou, none⟩))
theorem buf_addr {pu ou s : Nat} (hs : s = 4 ∨ s = 8) (hk : k < 256 ^ s) (hp : Pick H p (cel (bufc dw (.bool big) (ufmt pu ou) nm off d err post) T) F) (hu : Rd Γ F pu (ou + 5) (.int .i64 (s : Int))) (hd : Byt Γ d (fix k s big ++ l)) (ho : off + s < 4294967296) :
  Spc Tryz.prog 122 #[.pointer (some ⟨p, 0, none⟩)] Γ H (fun v Γ' H' => v = .int .u64 (k : Int) ∧ Γ = Γ' ∧ ∃ d', Byt Γ d' l ∧ H' = (p, cel (bufc dw (.bool big) (ufmt pu ou) nm (off + s) d' err post) T) :: F) := by
 refine Spc.perm ?_ hp.perm
 refine Spc.body1 Tryz.func122 rfl Tryz.ntmps122 rfl ?_
 refine go_ ?_
 have hu' : Rd Γ ((p, cel (bufc dw (.bool big) (ufmt pu ou) nm off d err post) T) :: F) pu (ou + 5) (.int .i64 (s : Int)) := hu.cons
 refine WL.invoke rfl (fun w => run_method_ptr Tryz.underlying274 (by kernel_rfl) _ _ w) Tryz.call179 rfl rfl (by exact (unit_addrsize hu')) ?_
 rintro _ _ _ - ⟨rfl, rfl, rfl⟩
 rcases hs with rfl | rfl
 ·refine go_ ?_
  refine WL.call rfl Tryz.call88 rfl rfl (by exact (buf_u32 (by simpa using hk) Pick.here hd ho)) ?_
  rintro _ _ _ - ⟨rfl, rfl, d', h1, rfl⟩
  refine go_ ?_
  exact end_1 rfl rfl (Env.le.rfl' _) ⟨by rw [w_u64 (by omega) (by simp at hk; omega)], rfl, d', h1, rfl⟩
 ·refine go_ ?_
  refine WL.call rfl Tryz.call87 rfl rfl (by exact (buf_u64 (by simpa using hk) Pick.here hd ho)) ?_
  rintro _ _ _ - ⟨rfl, rfl, d', h1, rfl⟩
  refine go_ ?_
  exact end_1 rfl rfl (Env.le.rfl' _) ⟨rfl, rfl, d', h1, rfl⟩
end
end Go.Proofs.YtbgkbgoonjkghaaGreatDoor
