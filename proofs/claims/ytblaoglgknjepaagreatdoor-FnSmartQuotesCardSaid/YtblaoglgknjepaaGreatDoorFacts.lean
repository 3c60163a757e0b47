/- The facts of the program's tables (kinds of types, sizes, zero values, places of fields, bodies of functions, methods) as the engine looks them up. No conditions. -/
import Derived.Test.YtblaoglgknjepaaGreatDoorProg
import Derived.Test.YtblaoglgknjepaaGreatDoorEngB
import Derived.KernelRfl
namespace Go.Proofs
open Go Go.Eng
instance mixed : Mixed Tryz.prog := ⟨by kernel_rfl⟩
instance uint2 : UInt Tryz.prog 2 Go.IntKind.i64 := ⟨Tryz.underlying2⟩
instance conc2 : Conc Tryz.prog 2 := ⟨⟨_, Tryz.underlying2, rfl⟩⟩
instance flat2 : Flat Tryz.prog 2 := ⟨⟨_, Tryz.underlying2, rfl⟩⟩
instance siz2 : Siz Tryz.prog 2 1 := ⟨Tryz.sizeOf2⟩
instance uint3 : UInt Tryz.prog 3 Go.IntKind.i64 := ⟨Tryz.underlying3⟩
instance conc3 : Conc Tryz.prog 3 := ⟨⟨_, Tryz.underlying3, rfl⟩⟩
instance flat3 : Flat Tryz.prog 3 := ⟨⟨_, Tryz.underlying3, rfl⟩⟩
instance siz3 : Siz Tryz.prog 3 1 := ⟨Tryz.sizeOf3⟩
instance conc4 : Conc Tryz.prog 4 := ⟨⟨_, Tryz.underlying4, rfl⟩⟩
instance flat4 : Flat Tryz.prog 4 := ⟨⟨_, Tryz.underlying4, rfl⟩⟩
instance siz4 : Siz Tryz.prog 4 1 := ⟨Tryz.sizeOf4⟩
instance uint5 : UInt Tryz.prog 5 Go.IntKind.u8 := ⟨Tryz.underlying5⟩
instance conc5 : Conc Tryz.prog 5 := ⟨⟨_, Tryz.underlying5, rfl⟩⟩
instance flat5 : Flat Tryz.prog 5 := ⟨⟨_, Tryz.underlying5, rfl⟩⟩
instance siz5 : Siz Tryz.prog 5 1 := ⟨Tryz.sizeOf5⟩
instance ustr9 : UStr Tryz.prog 9 := ⟨Tryz.underlying9⟩
instance conc9 : Conc Tryz.prog 9 := ⟨⟨_, Tryz.underlying9, rfl⟩⟩
instance flat9 : Flat Tryz.prog 9 := ⟨⟨_, Tryz.underlying9, rfl⟩⟩
instance siz9 : Siz Tryz.prog 9 1 := ⟨Tryz.sizeOf9⟩
instance uiface20 : UIface Tryz.prog 20 := ⟨⟨_, Tryz.underlying20⟩⟩
instance flat20 : Flat Tryz.prog 20 := ⟨⟨_, Tryz.underlying20, rfl⟩⟩
instance siz20 : Siz Tryz.prog 20 1 := ⟨Tryz.sizeOf20⟩
instance uint21 : UInt Tryz.prog 21 Go.IntKind.i32 := ⟨Tryz.underlying21⟩
instance conc21 : Conc Tryz.prog 21 := ⟨⟨_, Tryz.underlying21, rfl⟩⟩
instance flat21 : Flat Tryz.prog 21 := ⟨⟨_, Tryz.underlying21, rfl⟩⟩
instance siz21 : Siz Tryz.prog 21 1 := ⟨Tryz.sizeOf21⟩
instance conc28 : Conc Tryz.prog 28 := ⟨⟨_, Tryz.underlying28, rfl⟩⟩
instance aggr28 : Aggr Tryz.prog 28 := ⟨⟨_, Tryz.underlying28, rfl⟩⟩
instance siz28 : Siz Tryz.prog 28 10 := ⟨Tryz.sizeOf28⟩
instance conc31 : Conc Tryz.prog 31 := ⟨⟨_, Tryz.underlying31, rfl⟩⟩
instance ufunc31 : UFunc Tryz.prog 31 := ⟨⟨_, _, _, Tryz.underlying31⟩⟩
instance flat31 : Flat Tryz.prog 31 := ⟨⟨_, Tryz.underlying31, rfl⟩⟩
instance siz31 : Siz Tryz.prog 31 1 := ⟨Tryz.sizeOf31⟩
instance uptr36 : UPtr Tryz.prog 36 331 := ⟨Tryz.underlying36⟩
instance conc36 : Conc Tryz.prog 36 := ⟨⟨_, Tryz.underlying36, rfl⟩⟩
instance flat36 : Flat Tryz.prog 36 := ⟨⟨_, Tryz.underlying36, rfl⟩⟩
instance siz36 : Siz Tryz.prog 36 1 := ⟨Tryz.sizeOf36⟩
instance uptr37 : UPtr Tryz.prog 37 51 := ⟨Tryz.underlying37⟩
instance conc37 : Conc Tryz.prog 37 := ⟨⟨_, Tryz.underlying37, rfl⟩⟩
instance flat37 : Flat Tryz.prog 37 := ⟨⟨_, Tryz.underlying37, rfl⟩⟩
instance siz37 : Siz Tryz.prog 37 1 := ⟨Tryz.sizeOf37⟩
instance uslice40 : USlice Tryz.prog 40 5 := ⟨Tryz.underlying40⟩
instance conc40 : Conc Tryz.prog 40 := ⟨⟨_, Tryz.underlying40, rfl⟩⟩
instance flat40 : Flat Tryz.prog 40 := ⟨⟨_, Tryz.underlying40, rfl⟩⟩
instance siz40 : Siz Tryz.prog 40 1 := ⟨Tryz.sizeOf40⟩
instance uiface42 : UIface Tryz.prog 42 := ⟨⟨_, Tryz.underlying42⟩⟩
instance flat42 : Flat Tryz.prog 42 := ⟨⟨_, Tryz.underlying42, rfl⟩⟩
instance siz42 : Siz Tryz.prog 42 1 := ⟨Tryz.sizeOf42⟩
instance uint44 : UInt Tryz.prog 44 Go.IntKind.i8 := ⟨Tryz.underlying44⟩
instance conc44 : Conc Tryz.prog 44 := ⟨⟨_, Tryz.underlying44, rfl⟩⟩
instance flat44 : Flat Tryz.prog 44 := ⟨⟨_, Tryz.underlying44, rfl⟩⟩
instance siz44 : Siz Tryz.prog 44 1 := ⟨Tryz.sizeOf44⟩
instance conc46 : Conc Tryz.prog 46 := ⟨⟨_, Tryz.underlying46, rfl⟩⟩
instance aggr46 : Aggr Tryz.prog 46 := ⟨⟨_, Tryz.underlying46, rfl⟩⟩
instance siz46 : Siz Tryz.prog 46 3 := ⟨Tryz.sizeOf46⟩
instance uptr48 : UPtr Tryz.prog 48 46 := ⟨Tryz.underlying48⟩
instance conc48 : Conc Tryz.prog 48 := ⟨⟨_, Tryz.underlying48, rfl⟩⟩
instance flat48 : Flat Tryz.prog 48 := ⟨⟨_, Tryz.underlying48, rfl⟩⟩
instance siz48 : Siz Tryz.prog 48 1 := ⟨Tryz.sizeOf48⟩
instance conc51 : Conc Tryz.prog 51 := ⟨⟨_, Tryz.underlying51, rfl⟩⟩
instance aggr51 : Aggr Tryz.prog 51 := ⟨⟨_, Tryz.underlying51, rfl⟩⟩
instance siz51 : Siz Tryz.prog 51 10 := ⟨Tryz.sizeOf51⟩
instance conc54 : Conc Tryz.prog 54 := ⟨⟨_, Tryz.underlying54, rfl⟩⟩
instance flat54 : Flat Tryz.prog 54 := ⟨⟨_, Tryz.underlying54, rfl⟩⟩
instance siz54 : Siz Tryz.prog 54 1 := ⟨Tryz.sizeOf54⟩
instance uslice55 : USlice Tryz.prog 55 88 := ⟨Tryz.underlying55⟩
instance conc55 : Conc Tryz.prog 55 := ⟨⟨_, Tryz.underlying55, rfl⟩⟩
instance flat55 : Flat Tryz.prog 55 := ⟨⟨_, Tryz.underlying55, rfl⟩⟩
instance siz55 : Siz Tryz.prog 55 1 := ⟨Tryz.sizeOf55⟩
instance uslice56 : USlice Tryz.prog 56 99 := ⟨Tryz.underlying56⟩
instance conc56 : Conc Tryz.prog 56 := ⟨⟨_, Tryz.underlying56, rfl⟩⟩
instance flat56 : Flat Tryz.prog 56 := ⟨⟨_, Tryz.underlying56, rfl⟩⟩
instance siz56 : Siz Tryz.prog 56 1 := ⟨Tryz.sizeOf56⟩
instance uslice57 : USlice Tryz.prog 57 81 := ⟨Tryz.underlying57⟩
instance conc57 : Conc Tryz.prog 57 := ⟨⟨_, Tryz.underlying57, rfl⟩⟩
instance flat57 : Flat Tryz.prog 57 := ⟨⟨_, Tryz.underlying57, rfl⟩⟩
instance siz57 : Siz Tryz.prog 57 1 := ⟨Tryz.sizeOf57⟩
instance uslice58 : USlice Tryz.prog 58 75 := ⟨Tryz.underlying58⟩
instance conc58 : Conc Tryz.prog 58 := ⟨⟨_, Tryz.underlying58, rfl⟩⟩
instance flat58 : Flat Tryz.prog 58 := ⟨⟨_, Tryz.underlying58, rfl⟩⟩
instance siz58 : Siz Tryz.prog 58 1 := ⟨Tryz.sizeOf58⟩
instance conc59 : Conc Tryz.prog 59 := ⟨⟨_, Tryz.underlying59, rfl⟩⟩
instance aggr59 : Aggr Tryz.prog 59 := ⟨⟨_, Tryz.underlying59, rfl⟩⟩
instance siz59 : Siz Tryz.prog 59 80 := ⟨Tryz.sizeOf59⟩
instance conc61 : Conc Tryz.prog 61 := ⟨⟨_, Tryz.underlying61, rfl⟩⟩
instance aggr61 : Aggr Tryz.prog 61 := ⟨⟨_, Tryz.underlying61, rfl⟩⟩
instance siz61 : Siz Tryz.prog 61 81 := ⟨Tryz.sizeOf61⟩
instance conc63 : Conc Tryz.prog 63 := ⟨⟨_, Tryz.underlying63, rfl⟩⟩
instance aggr63 : Aggr Tryz.prog 63 := ⟨⟨_, Tryz.underlying63, rfl⟩⟩
instance siz63 : Siz Tryz.prog 63 93 := ⟨Tryz.sizeOf63⟩
instance uptr67 : UPtr Tryz.prog 67 69 := ⟨Tryz.underlying67⟩
instance conc67 : Conc Tryz.prog 67 := ⟨⟨_, Tryz.underlying67, rfl⟩⟩
instance flat67 : Flat Tryz.prog 67 := ⟨⟨_, Tryz.underlying67, rfl⟩⟩
instance siz67 : Siz Tryz.prog 67 1 := ⟨Tryz.sizeOf67⟩
instance conc69 : Conc Tryz.prog 69 := ⟨⟨_, Tryz.underlying69, rfl⟩⟩
instance aggr69 : Aggr Tryz.prog 69 := ⟨⟨_, Tryz.underlying69, rfl⟩⟩
instance siz69 : Siz Tryz.prog 69 0 := ⟨Tryz.sizeOf69⟩
instance conc73 : Conc Tryz.prog 73 := ⟨⟨_, Tryz.underlying73, rfl⟩⟩
instance aggr73 : Aggr Tryz.prog 73 := ⟨⟨_, Tryz.underlying73, rfl⟩⟩
instance siz73 : Siz Tryz.prog 73 5 := ⟨Tryz.sizeOf73⟩
instance uptr75 : UPtr Tryz.prog 75 80 := ⟨Tryz.underlying75⟩
instance conc75 : Conc Tryz.prog 75 := ⟨⟨_, Tryz.underlying75, rfl⟩⟩
instance flat75 : Flat Tryz.prog 75 := ⟨⟨_, Tryz.underlying75, rfl⟩⟩
instance siz75 : Siz Tryz.prog 75 1 := ⟨Tryz.sizeOf75⟩
instance conc78 : Conc Tryz.prog 78 := ⟨⟨_, Tryz.underlying78, rfl⟩⟩
instance aggr78 : Aggr Tryz.prog 78 := ⟨⟨_, Tryz.underlying78, rfl⟩⟩
instance siz78 : Siz Tryz.prog 78 2 := ⟨Tryz.sizeOf78⟩
instance conc80 : Conc Tryz.prog 80 := ⟨⟨_, Tryz.underlying80, rfl⟩⟩
instance aggr80 : Aggr Tryz.prog 80 := ⟨⟨_, Tryz.underlying80, rfl⟩⟩
instance siz80 : Siz Tryz.prog 80 4 := ⟨Tryz.sizeOf80⟩
instance uptr81 : UPtr Tryz.prog 81 116 := ⟨Tryz.underlying81⟩
instance conc81 : Conc Tryz.prog 81 := ⟨⟨_, Tryz.underlying81, rfl⟩⟩
instance flat81 : Flat Tryz.prog 81 := ⟨⟨_, Tryz.underlying81, rfl⟩⟩
instance siz81 : Siz Tryz.prog 81 1 := ⟨Tryz.sizeOf81⟩
instance uptr83 : UPtr Tryz.prog 83 63 := ⟨Tryz.underlying83⟩
instance conc83 : Conc Tryz.prog 83 := ⟨⟨_, Tryz.underlying83, rfl⟩⟩
instance flat83 : Flat Tryz.prog 83 := ⟨⟨_, Tryz.underlying83, rfl⟩⟩
instance siz83 : Siz Tryz.prog 83 1 := ⟨Tryz.sizeOf83⟩
instance uiface85 : UIface Tryz.prog 85 := ⟨⟨_, Tryz.underlying85⟩⟩
instance flat85 : Flat Tryz.prog 85 := ⟨⟨_, Tryz.underlying85, rfl⟩⟩
instance siz85 : Siz Tryz.prog 85 1 := ⟨Tryz.sizeOf85⟩
instance uslice86 : USlice Tryz.prog 86 42 := ⟨Tryz.underlying86⟩
instance conc86 : Conc Tryz.prog 86 := ⟨⟨_, Tryz.underlying86, rfl⟩⟩
instance flat86 : Flat Tryz.prog 86 := ⟨⟨_, Tryz.underlying86, rfl⟩⟩
instance siz86 : Siz Tryz.prog 86 1 := ⟨Tryz.sizeOf86⟩
instance conc88 : Conc Tryz.prog 88 := ⟨⟨_, Tryz.underlying88, rfl⟩⟩
instance aggr88 : Aggr Tryz.prog 88 := ⟨⟨_, Tryz.underlying88, rfl⟩⟩
instance siz88 : Siz Tryz.prog 88 4 := ⟨Tryz.sizeOf88⟩
instance conc91 : Conc Tryz.prog 91 := ⟨⟨_, Tryz.underlying91, rfl⟩⟩
instance ufunc91 : UFunc Tryz.prog 91 := ⟨⟨_, _, _, Tryz.underlying91⟩⟩
instance flat91 : Flat Tryz.prog 91 := ⟨⟨_, Tryz.underlying91, rfl⟩⟩
instance siz91 : Siz Tryz.prog 91 1 := ⟨Tryz.sizeOf91⟩
instance uslice93 : USlice Tryz.prog 93 91 := ⟨Tryz.underlying93⟩
instance conc93 : Conc Tryz.prog 93 := ⟨⟨_, Tryz.underlying93, rfl⟩⟩
instance flat93 : Flat Tryz.prog 93 := ⟨⟨_, Tryz.underlying93, rfl⟩⟩
instance siz93 : Siz Tryz.prog 93 1 := ⟨Tryz.sizeOf93⟩
instance uslice96 : USlice Tryz.prog 96 3 := ⟨Tryz.underlying96⟩
instance conc96 : Conc Tryz.prog 96 := ⟨⟨_, Tryz.underlying96, rfl⟩⟩
instance flat96 : Flat Tryz.prog 96 := ⟨⟨_, Tryz.underlying96, rfl⟩⟩
instance siz96 : Siz Tryz.prog 96 1 := ⟨Tryz.sizeOf96⟩
instance conc97 : Conc Tryz.prog 97 := ⟨⟨_, Tryz.underlying97, rfl⟩⟩
instance ufunc97 : UFunc Tryz.prog 97 := ⟨⟨_, _, _, Tryz.underlying97⟩⟩
instance flat97 : Flat Tryz.prog 97 := ⟨⟨_, Tryz.underlying97, rfl⟩⟩
instance siz97 : Siz Tryz.prog 97 1 := ⟨Tryz.sizeOf97⟩
instance uiface99 : UIface Tryz.prog 99 := ⟨⟨_, Tryz.underlying99⟩⟩
instance flat99 : Flat Tryz.prog 99 := ⟨⟨_, Tryz.underlying99, rfl⟩⟩
instance siz99 : Siz Tryz.prog 99 1 := ⟨Tryz.sizeOf99⟩
instance uptr101 : UPtr Tryz.prog 101 106 := ⟨Tryz.underlying101⟩
instance conc101 : Conc Tryz.prog 101 := ⟨⟨_, Tryz.underlying101, rfl⟩⟩
instance flat101 : Flat Tryz.prog 101 := ⟨⟨_, Tryz.underlying101, rfl⟩⟩
instance siz101 : Siz Tryz.prog 101 1 := ⟨Tryz.sizeOf101⟩
instance conc104 : Conc Tryz.prog 104 := ⟨⟨_, Tryz.underlying104, rfl⟩⟩
instance aggr104 : Aggr Tryz.prog 104 := ⟨⟨_, Tryz.underlying104, rfl⟩⟩
instance siz104 : Siz Tryz.prog 104 1 := ⟨Tryz.sizeOf104⟩
instance conc106 : Conc Tryz.prog 106 := ⟨⟨_, Tryz.underlying106, rfl⟩⟩
instance aggr106 : Aggr Tryz.prog 106 := ⟨⟨_, Tryz.underlying106, rfl⟩⟩
instance siz106 : Siz Tryz.prog 106 2 := ⟨Tryz.sizeOf106⟩
instance uptr107 : UPtr Tryz.prog 107 111 := ⟨Tryz.underlying107⟩
instance conc107 : Conc Tryz.prog 107 := ⟨⟨_, Tryz.underlying107, rfl⟩⟩
instance flat107 : Flat Tryz.prog 107 := ⟨⟨_, Tryz.underlying107, rfl⟩⟩
instance siz107 : Siz Tryz.prog 107 1 := ⟨Tryz.sizeOf107⟩
instance conc111 : Conc Tryz.prog 111 := ⟨⟨_, Tryz.underlying111, rfl⟩⟩
instance aggr111 : Aggr Tryz.prog 111 := ⟨⟨_, Tryz.underlying111, rfl⟩⟩
instance siz111 : Siz Tryz.prog 111 5 := ⟨Tryz.sizeOf111⟩
instance uptr113 : UPtr Tryz.prog 113 341 := ⟨Tryz.underlying113⟩
instance conc113 : Conc Tryz.prog 113 := ⟨⟨_, Tryz.underlying113, rfl⟩⟩
instance flat113 : Flat Tryz.prog 113 := ⟨⟨_, Tryz.underlying113, rfl⟩⟩
instance siz113 : Siz Tryz.prog 113 1 := ⟨Tryz.sizeOf113⟩
instance conc116 : Conc Tryz.prog 116 := ⟨⟨_, Tryz.underlying116, rfl⟩⟩
instance aggr116 : Aggr Tryz.prog 116 := ⟨⟨_, Tryz.underlying116, rfl⟩⟩
instance siz116 : Siz Tryz.prog 116 6 := ⟨Tryz.sizeOf116⟩
instance uptr117 : UPtr Tryz.prog 117 119 := ⟨Tryz.underlying117⟩
instance conc117 : Conc Tryz.prog 117 := ⟨⟨_, Tryz.underlying117, rfl⟩⟩
instance flat117 : Flat Tryz.prog 117 := ⟨⟨_, Tryz.underlying117, rfl⟩⟩
instance siz117 : Siz Tryz.prog 117 1 := ⟨Tryz.sizeOf117⟩
instance conc119 : Conc Tryz.prog 119 := ⟨⟨_, Tryz.underlying119, rfl⟩⟩
instance aggr119 : Aggr Tryz.prog 119 := ⟨⟨_, Tryz.underlying119, rfl⟩⟩
instance siz119 : Siz Tryz.prog 119 4 := ⟨Tryz.sizeOf119⟩
instance uptr120 : UPtr Tryz.prog 120 122 := ⟨Tryz.underlying120⟩
instance conc120 : Conc Tryz.prog 120 := ⟨⟨_, Tryz.underlying120, rfl⟩⟩
instance flat120 : Flat Tryz.prog 120 := ⟨⟨_, Tryz.underlying120, rfl⟩⟩
instance siz120 : Siz Tryz.prog 120 1 := ⟨Tryz.sizeOf120⟩
instance conc122 : Conc Tryz.prog 122 := ⟨⟨_, Tryz.underlying122, rfl⟩⟩
instance aggr122 : Aggr Tryz.prog 122 := ⟨⟨_, Tryz.underlying122, rfl⟩⟩
instance siz122 : Siz Tryz.prog 122 3 := ⟨Tryz.sizeOf122⟩
instance uptr123 : UPtr Tryz.prog 123 104 := ⟨Tryz.underlying123⟩
instance conc123 : Conc Tryz.prog 123 := ⟨⟨_, Tryz.underlying123, rfl⟩⟩
instance flat123 : Flat Tryz.prog 123 := ⟨⟨_, Tryz.underlying123, rfl⟩⟩
instance siz123 : Siz Tryz.prog 123 1 := ⟨Tryz.sizeOf123⟩
instance uptr125 : UPtr Tryz.prog 125 127 := ⟨Tryz.underlying125⟩
instance conc125 : Conc Tryz.prog 125 := ⟨⟨_, Tryz.underlying125, rfl⟩⟩
instance flat125 : Flat Tryz.prog 125 := ⟨⟨_, Tryz.underlying125, rfl⟩⟩
instance siz125 : Siz Tryz.prog 125 1 := ⟨Tryz.sizeOf125⟩
instance conc127 : Conc Tryz.prog 127 := ⟨⟨_, Tryz.underlying127, rfl⟩⟩
instance aggr127 : Aggr Tryz.prog 127 := ⟨⟨_, Tryz.underlying127, rfl⟩⟩
instance siz127 : Siz Tryz.prog 127 1 := ⟨Tryz.sizeOf127⟩
instance uptr129 : UPtr Tryz.prog 129 134 := ⟨Tryz.underlying129⟩
instance conc129 : Conc Tryz.prog 129 := ⟨⟨_, Tryz.underlying129, rfl⟩⟩
instance flat129 : Flat Tryz.prog 129 := ⟨⟨_, Tryz.underlying129, rfl⟩⟩
instance siz129 : Siz Tryz.prog 129 1 := ⟨Tryz.sizeOf129⟩
instance uslice131 : USlice Tryz.prog 131 9 := ⟨Tryz.underlying131⟩
instance conc131 : Conc Tryz.prog 131 := ⟨⟨_, Tryz.underlying131, rfl⟩⟩
instance flat131 : Flat Tryz.prog 131 := ⟨⟨_, Tryz.underlying131, rfl⟩⟩
instance siz131 : Siz Tryz.prog 131 1 := ⟨Tryz.sizeOf131⟩
instance uptr132 : UPtr Tryz.prog 132 139 := ⟨Tryz.underlying132⟩
instance conc132 : Conc Tryz.prog 132 := ⟨⟨_, Tryz.underlying132, rfl⟩⟩
instance flat132 : Flat Tryz.prog 132 := ⟨⟨_, Tryz.underlying132, rfl⟩⟩
instance siz132 : Siz Tryz.prog 132 1 := ⟨Tryz.sizeOf132⟩
instance conc134 : Conc Tryz.prog 134 := ⟨⟨_, Tryz.underlying134, rfl⟩⟩
instance aggr134 : Aggr Tryz.prog 134 := ⟨⟨_, Tryz.underlying134, rfl⟩⟩
instance siz134 : Siz Tryz.prog 134 2 := ⟨Tryz.sizeOf134⟩
instance ustr136 : UStr Tryz.prog 136 := ⟨Tryz.underlying136⟩
instance conc136 : Conc Tryz.prog 136 := ⟨⟨_, Tryz.underlying136, rfl⟩⟩
instance flat136 : Flat Tryz.prog 136 := ⟨⟨_, Tryz.underlying136, rfl⟩⟩
instance siz136 : Siz Tryz.prog 136 1 := ⟨Tryz.sizeOf136⟩
instance uslice137 : USlice Tryz.prog 137 136 := ⟨Tryz.underlying137⟩
instance conc137 : Conc Tryz.prog 137 := ⟨⟨_, Tryz.underlying137, rfl⟩⟩
instance flat137 : Flat Tryz.prog 137 := ⟨⟨_, Tryz.underlying137, rfl⟩⟩
instance siz137 : Siz Tryz.prog 137 1 := ⟨Tryz.sizeOf137⟩
instance conc139 : Conc Tryz.prog 139 := ⟨⟨_, Tryz.underlying139, rfl⟩⟩
instance aggr139 : Aggr Tryz.prog 139 := ⟨⟨_, Tryz.underlying139, rfl⟩⟩
instance siz139 : Siz Tryz.prog 139 3 := ⟨Tryz.sizeOf139⟩
instance uptr145 : UPtr Tryz.prog 145 147 := ⟨Tryz.underlying145⟩
instance conc145 : Conc Tryz.prog 145 := ⟨⟨_, Tryz.underlying145, rfl⟩⟩
instance flat145 : Flat Tryz.prog 145 := ⟨⟨_, Tryz.underlying145, rfl⟩⟩
instance siz145 : Siz Tryz.prog 145 1 := ⟨Tryz.sizeOf145⟩
instance conc147 : Conc Tryz.prog 147 := ⟨⟨_, Tryz.underlying147, rfl⟩⟩
instance aggr147 : Aggr Tryz.prog 147 := ⟨⟨_, Tryz.underlying147, rfl⟩⟩
instance siz147 : Siz Tryz.prog 147 1 := ⟨Tryz.sizeOf147⟩
instance uptr148 : UPtr Tryz.prog 148 149 := ⟨Tryz.underlying148⟩
instance conc148 : Conc Tryz.prog 148 := ⟨⟨_, Tryz.underlying148, rfl⟩⟩
instance flat148 : Flat Tryz.prog 148 := ⟨⟨_, Tryz.underlying148, rfl⟩⟩
instance siz148 : Siz Tryz.prog 148 1 := ⟨Tryz.sizeOf148⟩
instance conc149 : Conc Tryz.prog 149 := ⟨⟨_, Tryz.underlying149, rfl⟩⟩
instance aggr149 : Aggr Tryz.prog 149 := ⟨⟨_, Tryz.underlying149, rfl⟩⟩
instance siz149 : Siz Tryz.prog 149 0 := ⟨Tryz.sizeOf149⟩
instance uptr151 : UPtr Tryz.prog 151 152 := ⟨Tryz.underlying151⟩
instance conc151 : Conc Tryz.prog 151 := ⟨⟨_, Tryz.underlying151, rfl⟩⟩
instance flat151 : Flat Tryz.prog 151 := ⟨⟨_, Tryz.underlying151, rfl⟩⟩
instance siz151 : Siz Tryz.prog 151 1 := ⟨Tryz.sizeOf151⟩
instance conc152 : Conc Tryz.prog 152 := ⟨⟨_, Tryz.underlying152, rfl⟩⟩
instance aggr152 : Aggr Tryz.prog 152 := ⟨⟨_, Tryz.underlying152, rfl⟩⟩
instance siz152 : Siz Tryz.prog 152 1 := ⟨Tryz.sizeOf152⟩
instance uptr159 : UPtr Tryz.prog 159 161 := ⟨Tryz.underlying159⟩
instance conc159 : Conc Tryz.prog 159 := ⟨⟨_, Tryz.underlying159, rfl⟩⟩
instance flat159 : Flat Tryz.prog 159 := ⟨⟨_, Tryz.underlying159, rfl⟩⟩
instance siz159 : Siz Tryz.prog 159 1 := ⟨Tryz.sizeOf159⟩
instance conc161 : Conc Tryz.prog 161 := ⟨⟨_, Tryz.underlying161, rfl⟩⟩
instance aggr161 : Aggr Tryz.prog 161 := ⟨⟨_, Tryz.underlying161, rfl⟩⟩
instance siz161 : Siz Tryz.prog 161 5 := ⟨Tryz.sizeOf161⟩
instance uptr162 : UPtr Tryz.prog 162 163 := ⟨Tryz.underlying162⟩
instance conc162 : Conc Tryz.prog 162 := ⟨⟨_, Tryz.underlying162, rfl⟩⟩
instance flat162 : Flat Tryz.prog 162 := ⟨⟨_, Tryz.underlying162, rfl⟩⟩
instance siz162 : Siz Tryz.prog 162 1 := ⟨Tryz.sizeOf162⟩
instance conc163 : Conc Tryz.prog 163 := ⟨⟨_, Tryz.underlying163, rfl⟩⟩
instance aggr163 : Aggr Tryz.prog 163 := ⟨⟨_, Tryz.underlying163, rfl⟩⟩
instance siz163 : Siz Tryz.prog 163 0 := ⟨Tryz.sizeOf163⟩
instance uiface165 : UIface Tryz.prog 165 := ⟨⟨_, Tryz.underlying165⟩⟩
instance flat165 : Flat Tryz.prog 165 := ⟨⟨_, Tryz.underlying165, rfl⟩⟩
instance siz165 : Siz Tryz.prog 165 1 := ⟨Tryz.sizeOf165⟩
instance uptr172 : UPtr Tryz.prog 172 174 := ⟨Tryz.underlying172⟩
instance conc172 : Conc Tryz.prog 172 := ⟨⟨_, Tryz.underlying172, rfl⟩⟩
instance flat172 : Flat Tryz.prog 172 := ⟨⟨_, Tryz.underlying172, rfl⟩⟩
instance siz172 : Siz Tryz.prog 172 1 := ⟨Tryz.sizeOf172⟩
instance conc174 : Conc Tryz.prog 174 := ⟨⟨_, Tryz.underlying174, rfl⟩⟩
instance aggr174 : Aggr Tryz.prog 174 := ⟨⟨_, Tryz.underlying174, rfl⟩⟩
instance siz174 : Siz Tryz.prog 174 2 := ⟨Tryz.sizeOf174⟩
instance uslice182 : USlice Tryz.prog 182 159 := ⟨Tryz.underlying182⟩
instance conc182 : Conc Tryz.prog 182 := ⟨⟨_, Tryz.underlying182, rfl⟩⟩
instance flat182 : Flat Tryz.prog 182 := ⟨⟨_, Tryz.underlying182, rfl⟩⟩
instance siz182 : Siz Tryz.prog 182 1 := ⟨Tryz.sizeOf182⟩
instance conc183 : Conc Tryz.prog 183 := ⟨⟨_, Tryz.underlying183, rfl⟩⟩
instance aggr183 : Aggr Tryz.prog 183 := ⟨⟨_, Tryz.underlying183, rfl⟩⟩
instance siz183 : Siz Tryz.prog 183 5 := ⟨Tryz.sizeOf183⟩
instance uptr187 : UPtr Tryz.prog 187 189 := ⟨Tryz.underlying187⟩
instance conc187 : Conc Tryz.prog 187 := ⟨⟨_, Tryz.underlying187, rfl⟩⟩
instance flat187 : Flat Tryz.prog 187 := ⟨⟨_, Tryz.underlying187, rfl⟩⟩
instance siz187 : Siz Tryz.prog 187 1 := ⟨Tryz.sizeOf187⟩
instance conc189 : Conc Tryz.prog 189 := ⟨⟨_, Tryz.underlying189, rfl⟩⟩
instance aggr189 : Aggr Tryz.prog 189 := ⟨⟨_, Tryz.underlying189, rfl⟩⟩
instance siz189 : Siz Tryz.prog 189 2 := ⟨Tryz.sizeOf189⟩
instance uptr190 : UPtr Tryz.prog 190 195 := ⟨Tryz.underlying190⟩
instance conc190 : Conc Tryz.prog 190 := ⟨⟨_, Tryz.underlying190, rfl⟩⟩
instance flat190 : Flat Tryz.prog 190 := ⟨⟨_, Tryz.underlying190, rfl⟩⟩
instance siz190 : Siz Tryz.prog 190 1 := ⟨Tryz.sizeOf190⟩
instance uptr191 : UPtr Tryz.prog 191 194 := ⟨Tryz.underlying191⟩
instance conc191 : Conc Tryz.prog 191 := ⟨⟨_, Tryz.underlying191, rfl⟩⟩
instance flat191 : Flat Tryz.prog 191 := ⟨⟨_, Tryz.underlying191, rfl⟩⟩
instance siz191 : Siz Tryz.prog 191 1 := ⟨Tryz.sizeOf191⟩
instance conc194 : Conc Tryz.prog 194 := ⟨⟨_, Tryz.underlying194, rfl⟩⟩
instance aggr194 : Aggr Tryz.prog 194 := ⟨⟨_, Tryz.underlying194, rfl⟩⟩
instance siz194 : Siz Tryz.prog 194 2 := ⟨Tryz.sizeOf194⟩
instance conc195 : Conc Tryz.prog 195 := ⟨⟨_, Tryz.underlying195, rfl⟩⟩
instance aggr195 : Aggr Tryz.prog 195 := ⟨⟨_, Tryz.underlying195, rfl⟩⟩
instance siz195 : Siz Tryz.prog 195 2 := ⟨Tryz.sizeOf195⟩
instance uptr197 : UPtr Tryz.prog 197 198 := ⟨Tryz.underlying197⟩
instance conc197 : Conc Tryz.prog 197 := ⟨⟨_, Tryz.underlying197, rfl⟩⟩
instance flat197 : Flat Tryz.prog 197 := ⟨⟨_, Tryz.underlying197, rfl⟩⟩
instance siz197 : Siz Tryz.prog 197 1 := ⟨Tryz.sizeOf197⟩
instance conc198 : Conc Tryz.prog 198 := ⟨⟨_, Tryz.underlying198, rfl⟩⟩
instance aggr198 : Aggr Tryz.prog 198 := ⟨⟨_, Tryz.underlying198, rfl⟩⟩
instance siz198 : Siz Tryz.prog 198 0 := ⟨Tryz.sizeOf198⟩
instance uptr205 : UPtr Tryz.prog 205 208 := ⟨Tryz.underlying205⟩
instance conc205 : Conc Tryz.prog 205 := ⟨⟨_, Tryz.underlying205, rfl⟩⟩
instance flat205 : Flat Tryz.prog 205 := ⟨⟨_, Tryz.underlying205, rfl⟩⟩
instance siz205 : Siz Tryz.prog 205 1 := ⟨Tryz.sizeOf205⟩
instance conc208 : Conc Tryz.prog 208 := ⟨⟨_, Tryz.underlying208, rfl⟩⟩
instance aggr208 : Aggr Tryz.prog 208 := ⟨⟨_, Tryz.underlying208, rfl⟩⟩
instance siz208 : Siz Tryz.prog 208 5 := ⟨Tryz.sizeOf208⟩
instance uptr212 : UPtr Tryz.prog 212 214 := ⟨Tryz.underlying212⟩
instance conc212 : Conc Tryz.prog 212 := ⟨⟨_, Tryz.underlying212, rfl⟩⟩
instance flat212 : Flat Tryz.prog 212 := ⟨⟨_, Tryz.underlying212, rfl⟩⟩
instance siz212 : Siz Tryz.prog 212 1 := ⟨Tryz.sizeOf212⟩
instance conc214 : Conc Tryz.prog 214 := ⟨⟨_, Tryz.underlying214, rfl⟩⟩
instance aggr214 : Aggr Tryz.prog 214 := ⟨⟨_, Tryz.underlying214, rfl⟩⟩
instance siz214 : Siz Tryz.prog 214 3 := ⟨Tryz.sizeOf214⟩
instance uptr215 : UPtr Tryz.prog 215 220 := ⟨Tryz.underlying215⟩
instance conc215 : Conc Tryz.prog 215 := ⟨⟨_, Tryz.underlying215, rfl⟩⟩
instance flat215 : Flat Tryz.prog 215 := ⟨⟨_, Tryz.underlying215, rfl⟩⟩
instance siz215 : Siz Tryz.prog 215 1 := ⟨Tryz.sizeOf215⟩
instance uptr217 : UPtr Tryz.prog 217 262 := ⟨Tryz.underlying217⟩
instance conc217 : Conc Tryz.prog 217 := ⟨⟨_, Tryz.underlying217, rfl⟩⟩
instance flat217 : Flat Tryz.prog 217 := ⟨⟨_, Tryz.underlying217, rfl⟩⟩
instance siz217 : Siz Tryz.prog 217 1 := ⟨Tryz.sizeOf217⟩
instance conc218 : Conc Tryz.prog 218 := ⟨⟨_, Tryz.underlying218, rfl⟩⟩
instance ufunc218 : UFunc Tryz.prog 218 := ⟨⟨_, _, _, Tryz.underlying218⟩⟩
instance flat218 : Flat Tryz.prog 218 := ⟨⟨_, Tryz.underlying218, rfl⟩⟩
instance siz218 : Siz Tryz.prog 218 1 := ⟨Tryz.sizeOf218⟩
instance conc220 : Conc Tryz.prog 220 := ⟨⟨_, Tryz.underlying220, rfl⟩⟩
instance aggr220 : Aggr Tryz.prog 220 := ⟨⟨_, Tryz.underlying220, rfl⟩⟩
instance siz220 : Siz Tryz.prog 220 5 := ⟨Tryz.sizeOf220⟩
instance uptr224 : UPtr Tryz.prog 224 226 := ⟨Tryz.underlying224⟩
instance conc224 : Conc Tryz.prog 224 := ⟨⟨_, Tryz.underlying224, rfl⟩⟩
instance flat224 : Flat Tryz.prog 224 := ⟨⟨_, Tryz.underlying224, rfl⟩⟩
instance siz224 : Siz Tryz.prog 224 1 := ⟨Tryz.sizeOf224⟩
instance conc226 : Conc Tryz.prog 226 := ⟨⟨_, Tryz.underlying226, rfl⟩⟩
instance aggr226 : Aggr Tryz.prog 226 := ⟨⟨_, Tryz.underlying226, rfl⟩⟩
instance siz226 : Siz Tryz.prog 226 4 := ⟨Tryz.sizeOf226⟩
instance uptr228 : UPtr Tryz.prog 228 230 := ⟨Tryz.underlying228⟩
instance conc228 : Conc Tryz.prog 228 := ⟨⟨_, Tryz.underlying228, rfl⟩⟩
instance flat228 : Flat Tryz.prog 228 := ⟨⟨_, Tryz.underlying228, rfl⟩⟩
instance siz228 : Siz Tryz.prog 228 1 := ⟨Tryz.sizeOf228⟩
instance conc230 : Conc Tryz.prog 230 := ⟨⟨_, Tryz.underlying230, rfl⟩⟩
instance aggr230 : Aggr Tryz.prog 230 := ⟨⟨_, Tryz.underlying230, rfl⟩⟩
instance siz230 : Siz Tryz.prog 230 2 := ⟨Tryz.sizeOf230⟩
instance uptr234 : UPtr Tryz.prog 234 361 := ⟨Tryz.underlying234⟩
instance conc234 : Conc Tryz.prog 234 := ⟨⟨_, Tryz.underlying234, rfl⟩⟩
instance flat234 : Flat Tryz.prog 234 := ⟨⟨_, Tryz.underlying234, rfl⟩⟩
instance siz234 : Siz Tryz.prog 234 1 := ⟨Tryz.sizeOf234⟩
instance uptr235 : UPtr Tryz.prog 235 237 := ⟨Tryz.underlying235⟩
instance conc235 : Conc Tryz.prog 235 := ⟨⟨_, Tryz.underlying235, rfl⟩⟩
instance flat235 : Flat Tryz.prog 235 := ⟨⟨_, Tryz.underlying235, rfl⟩⟩
instance siz235 : Siz Tryz.prog 235 1 := ⟨Tryz.sizeOf235⟩
instance conc237 : Conc Tryz.prog 237 := ⟨⟨_, Tryz.underlying237, rfl⟩⟩
instance aggr237 : Aggr Tryz.prog 237 := ⟨⟨_, Tryz.underlying237, rfl⟩⟩
instance siz237 : Siz Tryz.prog 237 2 := ⟨Tryz.sizeOf237⟩
instance uint240 : UInt Tryz.prog 240 Go.IntKind.u64 := ⟨Tryz.underlying240⟩
instance conc240 : Conc Tryz.prog 240 := ⟨⟨_, Tryz.underlying240, rfl⟩⟩
instance flat240 : Flat Tryz.prog 240 := ⟨⟨_, Tryz.underlying240, rfl⟩⟩
instance siz240 : Siz Tryz.prog 240 1 := ⟨Tryz.sizeOf240⟩
instance uptr243 : UPtr Tryz.prog 243 245 := ⟨Tryz.underlying243⟩
instance conc243 : Conc Tryz.prog 243 := ⟨⟨_, Tryz.underlying243, rfl⟩⟩
instance flat243 : Flat Tryz.prog 243 := ⟨⟨_, Tryz.underlying243, rfl⟩⟩
instance siz243 : Siz Tryz.prog 243 1 := ⟨Tryz.sizeOf243⟩
instance conc245 : Conc Tryz.prog 245 := ⟨⟨_, Tryz.underlying245, rfl⟩⟩
instance aggr245 : Aggr Tryz.prog 245 := ⟨⟨_, Tryz.underlying245, rfl⟩⟩
instance siz245 : Siz Tryz.prog 245 2 := ⟨Tryz.sizeOf245⟩
instance conc248 : Conc Tryz.prog 248 := ⟨⟨_, Tryz.underlying248, rfl⟩⟩
instance aggr248 : Aggr Tryz.prog 248 := ⟨⟨_, Tryz.underlying248, rfl⟩⟩
instance siz248 : Siz Tryz.prog 248 2 := ⟨Tryz.sizeOf248⟩
instance conc249 : Conc Tryz.prog 249 := ⟨⟨_, Tryz.underlying249, rfl⟩⟩
instance aggr249 : Aggr Tryz.prog 249 := ⟨⟨_, Tryz.underlying249, rfl⟩⟩
instance siz249 : Siz Tryz.prog 249 24 := ⟨Tryz.sizeOf249⟩
instance conc250 : Conc Tryz.prog 250 := ⟨⟨_, Tryz.underlying250, rfl⟩⟩
instance aggr250 : Aggr Tryz.prog 250 := ⟨⟨_, Tryz.underlying250, rfl⟩⟩
instance siz250 : Siz Tryz.prog 250 0 := ⟨Tryz.sizeOf250⟩
instance conc255 : Conc Tryz.prog 255 := ⟨⟨_, Tryz.underlying255, rfl⟩⟩
instance aggr255 : Aggr Tryz.prog 255 := ⟨⟨_, Tryz.underlying255, rfl⟩⟩
instance siz255 : Siz Tryz.prog 255 2 := ⟨Tryz.sizeOf255⟩
instance conc262 : Conc Tryz.prog 262 := ⟨⟨_, Tryz.underlying262, rfl⟩⟩
instance aggr262 : Aggr Tryz.prog 262 := ⟨⟨_, Tryz.underlying262, rfl⟩⟩
instance siz262 : Siz Tryz.prog 262 3 := ⟨Tryz.sizeOf262⟩
instance uptr263 : UPtr Tryz.prog 263 265 := ⟨Tryz.underlying263⟩
instance conc263 : Conc Tryz.prog 263 := ⟨⟨_, Tryz.underlying263, rfl⟩⟩
instance flat263 : Flat Tryz.prog 263 := ⟨⟨_, Tryz.underlying263, rfl⟩⟩
instance siz263 : Siz Tryz.prog 263 1 := ⟨Tryz.sizeOf263⟩
instance conc265 : Conc Tryz.prog 265 := ⟨⟨_, Tryz.underlying265, rfl⟩⟩
instance aggr265 : Aggr Tryz.prog 265 := ⟨⟨_, Tryz.underlying265, rfl⟩⟩
instance siz265 : Siz Tryz.prog 265 3 := ⟨Tryz.sizeOf265⟩
instance uptr267 : UPtr Tryz.prog 267 268 := ⟨Tryz.underlying267⟩
instance conc267 : Conc Tryz.prog 267 := ⟨⟨_, Tryz.underlying267, rfl⟩⟩
instance flat267 : Flat Tryz.prog 267 := ⟨⟨_, Tryz.underlying267, rfl⟩⟩
instance siz267 : Siz Tryz.prog 267 1 := ⟨Tryz.sizeOf267⟩
instance conc268 : Conc Tryz.prog 268 := ⟨⟨_, Tryz.underlying268, rfl⟩⟩
instance aggr268 : Aggr Tryz.prog 268 := ⟨⟨_, Tryz.underlying268, rfl⟩⟩
instance siz268 : Siz Tryz.prog 268 1 := ⟨Tryz.sizeOf268⟩
instance conc270 : Conc Tryz.prog 270 := ⟨⟨_, Tryz.underlying270, rfl⟩⟩
instance aggr270 : Aggr Tryz.prog 270 := ⟨⟨_, Tryz.underlying270, rfl⟩⟩
instance siz270 : Siz Tryz.prog 270 256 := ⟨Tryz.sizeOf270⟩
instance conc272 : Conc Tryz.prog 272 := ⟨⟨_, Tryz.underlying272, rfl⟩⟩
instance aggr272 : Aggr Tryz.prog 272 := ⟨⟨_, Tryz.underlying272, rfl⟩⟩
instance siz272 : Siz Tryz.prog 272 2 := ⟨Tryz.sizeOf272⟩
instance conc273 : Conc Tryz.prog 273 := ⟨⟨_, Tryz.underlying273, rfl⟩⟩
instance aggr273 : Aggr Tryz.prog 273 := ⟨⟨_, Tryz.underlying273, rfl⟩⟩
instance siz273 : Siz Tryz.prog 273 32 := ⟨Tryz.sizeOf273⟩
instance conc274 : Conc Tryz.prog 274 := ⟨⟨_, Tryz.underlying274, rfl⟩⟩
instance aggr274 : Aggr Tryz.prog 274 := ⟨⟨_, Tryz.underlying274, rfl⟩⟩
instance siz274 : Siz Tryz.prog 274 3 := ⟨Tryz.sizeOf274⟩
instance conc275 : Conc Tryz.prog 275 := ⟨⟨_, Tryz.underlying275, rfl⟩⟩
instance aggr275 : Aggr Tryz.prog 275 := ⟨⟨_, Tryz.underlying275, rfl⟩⟩
instance siz275 : Siz Tryz.prog 275 522 := ⟨Tryz.sizeOf275⟩
instance uint276 : UInt Tryz.prog 276 Go.IntKind.u32 := ⟨Tryz.underlying276⟩
instance conc276 : Conc Tryz.prog 276 := ⟨⟨_, Tryz.underlying276, rfl⟩⟩
instance flat276 : Flat Tryz.prog 276 := ⟨⟨_, Tryz.underlying276, rfl⟩⟩
instance siz276 : Siz Tryz.prog 276 1 := ⟨Tryz.sizeOf276⟩
instance uint279 : UInt Tryz.prog 279 Go.IntKind.u64 := ⟨Tryz.underlying279⟩
instance conc279 : Conc Tryz.prog 279 := ⟨⟨_, Tryz.underlying279, rfl⟩⟩
instance flat279 : Flat Tryz.prog 279 := ⟨⟨_, Tryz.underlying279, rfl⟩⟩
instance siz279 : Siz Tryz.prog 279 1 := ⟨Tryz.sizeOf279⟩
instance uptr282 : UPtr Tryz.prog 282 5 := ⟨Tryz.underlying282⟩
instance conc282 : Conc Tryz.prog 282 := ⟨⟨_, Tryz.underlying282, rfl⟩⟩
instance flat282 : Flat Tryz.prog 282 := ⟨⟨_, Tryz.underlying282, rfl⟩⟩
instance siz282 : Siz Tryz.prog 282 1 := ⟨Tryz.sizeOf282⟩
instance uint283 : UInt Tryz.prog 283 Go.IntKind.i64 := ⟨Tryz.underlying283⟩
instance conc283 : Conc Tryz.prog 283 := ⟨⟨_, Tryz.underlying283, rfl⟩⟩
instance flat283 : Flat Tryz.prog 283 := ⟨⟨_, Tryz.underlying283, rfl⟩⟩
instance siz283 : Siz Tryz.prog 283 1 := ⟨Tryz.sizeOf283⟩
instance uptr286 : UPtr Tryz.prog 286 296 := ⟨Tryz.underlying286⟩
instance conc286 : Conc Tryz.prog 286 := ⟨⟨_, Tryz.underlying286, rfl⟩⟩
instance flat286 : Flat Tryz.prog 286 := ⟨⟨_, Tryz.underlying286, rfl⟩⟩
instance siz286 : Siz Tryz.prog 286 1 := ⟨Tryz.sizeOf286⟩
instance conc291 : Conc Tryz.prog 291 := ⟨⟨_, Tryz.underlying291, rfl⟩⟩
instance flat291 : Flat Tryz.prog 291 := ⟨⟨_, Tryz.underlying291, rfl⟩⟩
instance siz291 : Siz Tryz.prog 291 1 := ⟨Tryz.sizeOf291⟩
instance conc296 : Conc Tryz.prog 296 := ⟨⟨_, Tryz.underlying296, rfl⟩⟩
instance aggr296 : Aggr Tryz.prog 296 := ⟨⟨_, Tryz.underlying296, rfl⟩⟩
instance siz296 : Siz Tryz.prog 296 3 := ⟨Tryz.sizeOf296⟩
instance uptr300 : UPtr Tryz.prog 300 302 := ⟨Tryz.underlying300⟩
instance conc300 : Conc Tryz.prog 300 := ⟨⟨_, Tryz.underlying300, rfl⟩⟩
instance flat300 : Flat Tryz.prog 300 := ⟨⟨_, Tryz.underlying300, rfl⟩⟩
instance siz300 : Siz Tryz.prog 300 1 := ⟨Tryz.sizeOf300⟩
instance conc302 : Conc Tryz.prog 302 := ⟨⟨_, Tryz.underlying302, rfl⟩⟩
instance aggr302 : Aggr Tryz.prog 302 := ⟨⟨_, Tryz.underlying302, rfl⟩⟩
instance siz302 : Siz Tryz.prog 302 1 := ⟨Tryz.sizeOf302⟩
instance conc304 : Conc Tryz.prog 304 := ⟨⟨_, Tryz.underlying304, rfl⟩⟩
instance aggr304 : Aggr Tryz.prog 304 := ⟨⟨_, Tryz.underlying304, rfl⟩⟩
instance siz304 : Siz Tryz.prog 304 24 := ⟨Tryz.sizeOf304⟩
instance conc311 : Conc Tryz.prog 311 := ⟨⟨_, Tryz.underlying311, rfl⟩⟩
instance aggr311 : Aggr Tryz.prog 311 := ⟨⟨_, Tryz.underlying311, rfl⟩⟩
instance siz311 : Siz Tryz.prog 311 20 := ⟨Tryz.sizeOf311⟩
instance conc312 : Conc Tryz.prog 312 := ⟨⟨_, Tryz.underlying312, rfl⟩⟩
instance aggr312 : Aggr Tryz.prog 312 := ⟨⟨_, Tryz.underlying312, rfl⟩⟩
instance siz312 : Siz Tryz.prog 312 65 := ⟨Tryz.sizeOf312⟩
instance conc316 : Conc Tryz.prog 316 := ⟨⟨_, Tryz.underlying316, rfl⟩⟩
instance aggr316 : Aggr Tryz.prog 316 := ⟨⟨_, Tryz.underlying316, rfl⟩⟩
instance siz316 : Siz Tryz.prog 316 32 := ⟨Tryz.sizeOf316⟩
instance conc317 : Conc Tryz.prog 317 := ⟨⟨_, Tryz.underlying317, rfl⟩⟩
instance aggr317 : Aggr Tryz.prog 317 := ⟨⟨_, Tryz.underlying317, rfl⟩⟩
instance siz317 : Siz Tryz.prog 317 64 := ⟨Tryz.sizeOf317⟩
instance conc331 : Conc Tryz.prog 331 := ⟨⟨_, Tryz.underlying331, rfl⟩⟩
instance aggr331 : Aggr Tryz.prog 331 := ⟨⟨_, Tryz.underlying331, rfl⟩⟩
instance siz331 : Siz Tryz.prog 331 4 := ⟨Tryz.sizeOf331⟩
instance uiface335 : UIface Tryz.prog 335 := ⟨⟨_, Tryz.underlying335⟩⟩
instance flat335 : Flat Tryz.prog 335 := ⟨⟨_, Tryz.underlying335, rfl⟩⟩
instance siz335 : Siz Tryz.prog 335 1 := ⟨Tryz.sizeOf335⟩
instance uslice338 : USlice Tryz.prog 338 9 := ⟨Tryz.underlying338⟩
instance conc338 : Conc Tryz.prog 338 := ⟨⟨_, Tryz.underlying338, rfl⟩⟩
instance flat338 : Flat Tryz.prog 338 := ⟨⟨_, Tryz.underlying338, rfl⟩⟩
instance siz338 : Siz Tryz.prog 338 1 := ⟨Tryz.sizeOf338⟩
instance conc341 : Conc Tryz.prog 341 := ⟨⟨_, Tryz.underlying341, rfl⟩⟩
instance aggr341 : Aggr Tryz.prog 341 := ⟨⟨_, Tryz.underlying341, rfl⟩⟩
instance siz341 : Siz Tryz.prog 341 5 := ⟨Tryz.sizeOf341⟩
instance uptr345 : UPtr Tryz.prog 345 347 := ⟨Tryz.underlying345⟩
instance conc345 : Conc Tryz.prog 345 := ⟨⟨_, Tryz.underlying345, rfl⟩⟩
instance flat345 : Flat Tryz.prog 345 := ⟨⟨_, Tryz.underlying345, rfl⟩⟩
instance siz345 : Siz Tryz.prog 345 1 := ⟨Tryz.sizeOf345⟩
instance conc347 : Conc Tryz.prog 347 := ⟨⟨_, Tryz.underlying347, rfl⟩⟩
instance aggr347 : Aggr Tryz.prog 347 := ⟨⟨_, Tryz.underlying347, rfl⟩⟩
instance siz347 : Siz Tryz.prog 347 2 := ⟨Tryz.sizeOf347⟩
instance uptr348 : UPtr Tryz.prog 348 351 := ⟨Tryz.underlying348⟩
instance conc348 : Conc Tryz.prog 348 := ⟨⟨_, Tryz.underlying348, rfl⟩⟩
instance flat348 : Flat Tryz.prog 348 := ⟨⟨_, Tryz.underlying348, rfl⟩⟩
instance siz348 : Siz Tryz.prog 348 1 := ⟨Tryz.sizeOf348⟩
instance uslice349 : USlice Tryz.prog 349 58 := ⟨Tryz.underlying349⟩
instance conc349 : Conc Tryz.prog 349 := ⟨⟨_, Tryz.underlying349, rfl⟩⟩
instance flat349 : Flat Tryz.prog 349 := ⟨⟨_, Tryz.underlying349, rfl⟩⟩
instance siz349 : Siz Tryz.prog 349 1 := ⟨Tryz.sizeOf349⟩
instance conc351 : Conc Tryz.prog 351 := ⟨⟨_, Tryz.underlying351, rfl⟩⟩
instance aggr351 : Aggr Tryz.prog 351 := ⟨⟨_, Tryz.underlying351, rfl⟩⟩
instance siz351 : Siz Tryz.prog 351 5 := ⟨Tryz.sizeOf351⟩
instance uptr357 : UPtr Tryz.prog 357 359 := ⟨Tryz.underlying357⟩
instance conc357 : Conc Tryz.prog 357 := ⟨⟨_, Tryz.underlying357, rfl⟩⟩
instance flat357 : Flat Tryz.prog 357 := ⟨⟨_, Tryz.underlying357, rfl⟩⟩
instance siz357 : Siz Tryz.prog 357 1 := ⟨Tryz.sizeOf357⟩
instance conc359 : Conc Tryz.prog 359 := ⟨⟨_, Tryz.underlying359, rfl⟩⟩
instance aggr359 : Aggr Tryz.prog 359 := ⟨⟨_, Tryz.underlying359, rfl⟩⟩
instance siz359 : Siz Tryz.prog 359 3 := ⟨Tryz.sizeOf359⟩
instance conc361 : Conc Tryz.prog 361 := ⟨⟨_, Tryz.underlying361, rfl⟩⟩
instance aggr361 : Aggr Tryz.prog 361 := ⟨⟨_, Tryz.underlying361, rfl⟩⟩
instance siz361 : Siz Tryz.prog 361 5 := ⟨Tryz.sizeOf361⟩
instance uptr362 : UPtr Tryz.prog 362 364 := ⟨Tryz.underlying362⟩
instance conc362 : Conc Tryz.prog 362 := ⟨⟨_, Tryz.underlying362, rfl⟩⟩
instance flat362 : Flat Tryz.prog 362 := ⟨⟨_, Tryz.underlying362, rfl⟩⟩
instance siz362 : Siz Tryz.prog 362 1 := ⟨Tryz.sizeOf362⟩
instance conc364 : Conc Tryz.prog 364 := ⟨⟨_, Tryz.underlying364, rfl⟩⟩
instance aggr364 : Aggr Tryz.prog 364 := ⟨⟨_, Tryz.underlying364, rfl⟩⟩
instance siz364 : Siz Tryz.prog 364 3 := ⟨Tryz.sizeOf364⟩
instance zer3 : Zer Tryz.prog 3 (Go.Value.int Go.IntKind.i64 0) := ⟨Tryz.zeroValue3⟩
instance zer5 : Zer Tryz.prog 5 (Go.Value.int Go.IntKind.u8 0) := ⟨Tryz.zeroValue5⟩
instance zer9 : Zer Tryz.prog 9 (Go.Value.string ⟨([] : List UInt8).toArray⟩) := ⟨Tryz.zeroValue9⟩
instance zer28 : Zer Tryz.prog 28 (.agg ([(Go.Value.bool Bool.false), (Go.Value.bool Bool.false), (Go.Value.bool Bool.false), (Go.Value.bool Bool.false), (Go.Value.bool Bool.false), (Go.Value.bool Bool.false), (Go.Value.bool Bool.false), (Go.Value.bool Bool.false), (Go.Value.bool Bool.false), (Go.Value.bool Bool.false)] : List Value).toArray) := ⟨Tryz.zeroValue28⟩
instance zer36 : Zer Tryz.prog 36 (Go.Value.pointer (Option.none)) := ⟨Tryz.zeroValue36⟩
instance zer42 : Zer Tryz.prog 42 Go.Value.nilIface := ⟨Tryz.zeroValue42⟩
instance zer46 : Zer Tryz.prog 46 (.agg ([(Go.Value.slice (Option.none) 0 0), (Go.Value.int Go.IntKind.i64 0), (Go.Value.int Go.IntKind.i8 0)] : List Value).toArray) := ⟨Tryz.zeroValue46⟩
instance zer51 : Zer Tryz.prog 51 (.agg ([(Go.Value.bool Bool.false), (Go.Value.bool Bool.false), (Go.Value.bool Bool.false), (Go.Value.bool Bool.false), (Go.Value.bool Bool.false), (Go.Value.bool Bool.false), (Go.Value.bool Bool.false), (Go.Value.bool Bool.false), (Go.Value.bool Bool.false), (Go.Value.bool Bool.false)] : List Value).toArray) := ⟨Tryz.zeroValue51⟩
instance zer58 : Zer Tryz.prog 58 (Go.Value.slice (Option.none) 0 0) := ⟨Tryz.zeroValue58⟩
instance zer69 : Zer Tryz.prog 69 (.agg ([] : List Value).toArray) := ⟨Tryz.zeroValue69⟩
instance zer73 : Zer Tryz.prog 73 (.agg ([(Go.Value.int Go.IntKind.i64 0), (Go.Value.int Go.IntKind.i64 0), (Go.Value.int Go.IntKind.i64 0), (Go.Value.string ⟨([] : List UInt8).toArray⟩), (Go.Value.int Go.IntKind.u8 0)] : List Value).toArray) := ⟨Tryz.zeroValue73⟩
instance zer75 : Zer Tryz.prog 75 (Go.Value.pointer (Option.none)) := ⟨Tryz.zeroValue75⟩
instance zer78 : Zer Tryz.prog 78 (.agg ([(Go.Value.int Go.IntKind.i64 0), (Go.Value.int Go.IntKind.i64 0)] : List Value).toArray) := ⟨Tryz.zeroValue78⟩
instance zer80 : Zer Tryz.prog 80 (.agg ([(Go.Value.int Go.IntKind.i64 0), (Go.Value.int Go.IntKind.i64 0), (Go.Value.slice (Option.none) 0 0), (Go.Value.string ⟨([] : List UInt8).toArray⟩)] : List Value).toArray) := ⟨Tryz.zeroValue80⟩
instance zer81 : Zer Tryz.prog 81 (Go.Value.pointer (Option.none)) := ⟨Tryz.zeroValue81⟩
instance zer83 : Zer Tryz.prog 83 (Go.Value.pointer (Option.none)) := ⟨Tryz.zeroValue83⟩
instance zer88 : Zer Tryz.prog 88 (.agg ([Go.Value.nilIface, (Go.Value.slice (Option.none) 0 0), (Go.Value.int Go.IntKind.i64 0), (Go.Value.int Go.IntKind.i64 0)] : List Value).toArray) := ⟨Tryz.zeroValue88⟩
instance zer91 : Zer Tryz.prog 91 Go.Value.nilFunc := ⟨Tryz.zeroValue91⟩
instance zer99 : Zer Tryz.prog 99 Go.Value.nilIface := ⟨Tryz.zeroValue99⟩
instance zer101 : Zer Tryz.prog 101 (Go.Value.pointer (Option.none)) := ⟨Tryz.zeroValue101⟩
instance zer104 : Zer Tryz.prog 104 (.agg ([(Go.Value.string ⟨([] : List UInt8).toArray⟩)] : List Value).toArray) := ⟨Tryz.zeroValue104⟩
instance zer106 : Zer Tryz.prog 106 (.agg ([(Go.Value.string ⟨([] : List UInt8).toArray⟩), (Go.Value.int Go.IntKind.i64 0)] : List Value).toArray) := ⟨Tryz.zeroValue106⟩
instance zer111 : Zer Tryz.prog 111 (.agg ([(Go.Value.slice (Option.none) 0 0), (Go.Value.string ⟨([] : List UInt8).toArray⟩), (Go.Value.string ⟨([] : List UInt8).toArray⟩), (Go.Value.int Go.IntKind.u8 0), (Go.Value.bool Bool.false)] : List Value).toArray) := ⟨Tryz.zeroValue111⟩
instance zer116 : Zer Tryz.prog 116 (.agg ([(Go.Value.int Go.IntKind.i64 0), (Go.Value.int Go.IntKind.i64 0), (Go.Value.int Go.IntKind.i32 0), (Go.Value.int Go.IntKind.i64 0), (Go.Value.bool Bool.false), (Go.Value.slice (Option.none) 0 0)] : List Value).toArray) := ⟨Tryz.zeroValue116⟩
instance zer117 : Zer Tryz.prog 117 (Go.Value.pointer (Option.none)) := ⟨Tryz.zeroValue117⟩
instance zer119 : Zer Tryz.prog 119 (.agg ([(Go.Value.int Go.IntKind.i64 0), (Go.Value.int Go.IntKind.i64 0), (Go.Value.slice (Option.none) 0 0), (Go.Value.int Go.IntKind.i64 0)] : List Value).toArray) := ⟨Tryz.zeroValue119⟩
instance zer120 : Zer Tryz.prog 120 (Go.Value.pointer (Option.none)) := ⟨Tryz.zeroValue120⟩
instance zer122 : Zer Tryz.prog 122 (.agg ([(Go.Value.int Go.IntKind.i64 0), (Go.Value.int Go.IntKind.i64 0), (Go.Value.pointer (Option.none))] : List Value).toArray) := ⟨Tryz.zeroValue122⟩
instance zer123 : Zer Tryz.prog 123 (Go.Value.pointer (Option.none)) := ⟨Tryz.zeroValue123⟩
instance zer127 : Zer Tryz.prog 127 (.agg ([(Go.Value.bool Bool.false)] : List Value).toArray) := ⟨Tryz.zeroValue127⟩
instance zer129 : Zer Tryz.prog 129 (Go.Value.pointer (Option.none)) := ⟨Tryz.zeroValue129⟩
instance zer134 : Zer Tryz.prog 134 (.agg ([(Go.Value.slice (Option.none) 0 0), (Go.Value.pointer (Option.none))] : List Value).toArray) := ⟨Tryz.zeroValue134⟩
instance zer136 : Zer Tryz.prog 136 (Go.Value.string ⟨([] : List UInt8).toArray⟩) := ⟨Tryz.zeroValue136⟩
instance zer139 : Zer Tryz.prog 139 (.agg ([(Go.Value.string ⟨([] : List UInt8).toArray⟩), (Go.Value.string ⟨([] : List UInt8).toArray⟩), (Go.Value.slice (Option.none) 0 0)] : List Value).toArray) := ⟨Tryz.zeroValue139⟩
instance zer147 : Zer Tryz.prog 147 (.agg ([(Go.Value.string ⟨([] : List UInt8).toArray⟩)] : List Value).toArray) := ⟨Tryz.zeroValue147⟩
instance zer149 : Zer Tryz.prog 149 (.agg ([] : List Value).toArray) := ⟨Tryz.zeroValue149⟩
instance zer152 : Zer Tryz.prog 152 (.agg ([(Go.Value.string ⟨([] : List UInt8).toArray⟩)] : List Value).toArray) := ⟨Tryz.zeroValue152⟩
instance zer159 : Zer Tryz.prog 159 (Go.Value.pointer (Option.none)) := ⟨Tryz.zeroValue159⟩
instance zer161 : Zer Tryz.prog 161 (.agg ([(Go.Value.string ⟨([] : List UInt8).toArray⟩), (Go.Value.bool Bool.false), (Go.Value.bool Bool.false), (Go.Value.int Go.IntKind.i64 0), (Go.Value.int Go.IntKind.i64 0)] : List Value).toArray) := ⟨Tryz.zeroValue161⟩
instance zer163 : Zer Tryz.prog 163 (.agg ([] : List Value).toArray) := ⟨Tryz.zeroValue163⟩
instance zer174 : Zer Tryz.prog 174 (.agg ([(Go.Value.string ⟨([] : List UInt8).toArray⟩), (Go.Value.string ⟨([] : List UInt8).toArray⟩)] : List Value).toArray) := ⟨Tryz.zeroValue174⟩
instance zer183 : Zer Tryz.prog 183 (.agg ([(Go.Value.slice (Option.none) 0 0), (Go.Value.slice (Option.none) 0 0), (Go.Value.slice (Option.none) 0 0), (Go.Value.slice (Option.none) 0 0), (Go.Value.slice (Option.none) 0 0)] : List Value).toArray) := ⟨Tryz.zeroValue183⟩
instance zer187 : Zer Tryz.prog 187 (Go.Value.pointer (Option.none)) := ⟨Tryz.zeroValue187⟩
instance zer189 : Zer Tryz.prog 189 (.agg ([(Go.Value.string ⟨([] : List UInt8).toArray⟩), (Go.Value.slice (Option.none) 0 0)] : List Value).toArray) := ⟨Tryz.zeroValue189⟩
instance zer190 : Zer Tryz.prog 190 (Go.Value.pointer (Option.none)) := ⟨Tryz.zeroValue190⟩
instance zer191 : Zer Tryz.prog 191 (Go.Value.pointer (Option.none)) := ⟨Tryz.zeroValue191⟩
instance zer198 : Zer Tryz.prog 198 (.agg ([] : List Value).toArray) := ⟨Tryz.zeroValue198⟩
instance zer208 : Zer Tryz.prog 208 (.agg ([(Go.Value.int Go.IntKind.i64 0), (Go.Value.int Go.IntKind.i64 0), (Go.Value.int Go.IntKind.i64 0), (Go.Value.pointer (Option.none)), (Go.Value.string ⟨([] : List UInt8).toArray⟩)] : List Value).toArray) := ⟨Tryz.zeroValue208⟩
instance zer212 : Zer Tryz.prog 212 (Go.Value.pointer (Option.none)) := ⟨Tryz.zeroValue212⟩
instance zer214 : Zer Tryz.prog 214 (.agg ([(Go.Value.int Go.IntKind.i64 0), (Go.Value.int Go.IntKind.i64 0), (Go.Value.string ⟨([] : List UInt8).toArray⟩)] : List Value).toArray) := ⟨Tryz.zeroValue214⟩
instance zer215 : Zer Tryz.prog 215 (Go.Value.pointer (Option.none)) := ⟨Tryz.zeroValue215⟩
instance zer217 : Zer Tryz.prog 217 (Go.Value.pointer (Option.none)) := ⟨Tryz.zeroValue217⟩
instance zer220 : Zer Tryz.prog 220 (.agg ([(Go.Value.int Go.IntKind.i32 0), (Go.Value.int Go.IntKind.i64 0), (Go.Value.bool Bool.false), (Go.Value.pointer (Option.none)), Go.Value.nilFunc] : List Value).toArray) := ⟨Tryz.zeroValue220⟩
instance zer226 : Zer Tryz.prog 226 (.agg ([(Go.Value.string ⟨([] : List UInt8).toArray⟩), (Go.Value.string ⟨([] : List UInt8).toArray⟩), (Go.Value.int Go.IntKind.i64 0), (Go.Value.slice (Option.none) 0 0)] : List Value).toArray) := ⟨Tryz.zeroValue226⟩
instance zer230 : Zer Tryz.prog 230 (.agg ([(Go.Value.string ⟨([] : List UInt8).toArray⟩), (Go.Value.slice (Option.none) 0 0)] : List Value).toArray) := ⟨Tryz.zeroValue230⟩
instance zer234 : Zer Tryz.prog 234 (Go.Value.pointer (Option.none)) := ⟨Tryz.zeroValue234⟩
instance zer237 : Zer Tryz.prog 237 (.agg ([(Go.Value.string ⟨([] : List UInt8).toArray⟩), (Go.Value.string ⟨([] : List UInt8).toArray⟩)] : List Value).toArray) := ⟨Tryz.zeroValue237⟩
instance zer245 : Zer Tryz.prog 245 (.agg ([(Go.Value.pointer (Option.none)), (Go.Value.slice (Option.none) 0 0)] : List Value).toArray) := ⟨Tryz.zeroValue245⟩
instance zer248 : Zer Tryz.prog 248 (.agg ([(Go.Value.string ⟨([] : List UInt8).toArray⟩), (Go.Value.string ⟨([] : List UInt8).toArray⟩)] : List Value).toArray) := ⟨Tryz.zeroValue248⟩
instance zer249 : Zer Tryz.prog 249 (.agg ([(Go.Value.string ⟨([] : List UInt8).toArray⟩), (Go.Value.string ⟨([] : List UInt8).toArray⟩), (Go.Value.string ⟨([] : List UInt8).toArray⟩), (Go.Value.string ⟨([] : List UInt8).toArray⟩), (Go.Value.string ⟨([] : List UInt8).toArray⟩), (Go.Value.string ⟨([] : List UInt8).toArray⟩), (Go.Value.string ⟨([] : List UInt8).toArray⟩), (Go.Value.string ⟨([] : List UInt8).toArray⟩), (Go.Value.string ⟨([] : List UInt8).toArray⟩), (Go.Value.string ⟨([] : List UInt8).toArray⟩), (Go.Value.string ⟨([] : List UInt8).toArray⟩), (Go.Value.string ⟨([] : List UInt8).toArray⟩), (Go.Value.string ⟨([] : List UInt8).toArray⟩), (Go.Value.string ⟨([] : List UInt8).toArray⟩), (Go.Value.string ⟨([] : List UInt8).toArray⟩), (Go.Value.string ⟨([] : List UInt8).toArray⟩), (Go.Value.string ⟨([] : List UInt8).toArray⟩), (Go.Value.string ⟨([] : List UInt8).toArray⟩), (Go.Value.string ⟨([] : List UInt8).toArray⟩), (Go.Value.string ⟨([] : List UInt8).toArray⟩), (Go.Value.string ⟨([] : List UInt8).toArray⟩), (Go.Value.string ⟨([] : List UInt8).toArray⟩), (Go.Value.string ⟨([] : List UInt8).toArray⟩), (Go.Value.string ⟨([] : List UInt8).toArray⟩)] : List Value).toArray) := ⟨Tryz.zeroValue249⟩
instance zer250 : Zer Tryz.prog 250 (.agg ([] : List Value).toArray) := ⟨Tryz.zeroValue250⟩
instance zer255 : Zer Tryz.prog 255 (.agg ([(Go.Value.string ⟨([] : List UInt8).toArray⟩), (Go.Value.int Go.IntKind.i64 0)] : List Value).toArray) := ⟨Tryz.zeroValue255⟩
instance zer262 : Zer Tryz.prog 262 (.agg ([(Go.Value.pointer (Option.none)), (Go.Value.int Go.IntKind.i64 0), (Go.Value.bool Bool.false)] : List Value).toArray) := ⟨Tryz.zeroValue262⟩
instance zer265 : Zer Tryz.prog 265 (.agg ([(Go.Value.bool Bool.false), (Go.Value.slice (Option.none) 0 0), Go.Value.nilFunc] : List Value).toArray) := ⟨Tryz.zeroValue265⟩
instance zer267 : Zer Tryz.prog 267 (Go.Value.pointer (Option.none)) := ⟨Tryz.zeroValue267⟩
instance zer268 : Zer Tryz.prog 268 (.agg ([(Go.Value.string ⟨([] : List UInt8).toArray⟩)] : List Value).toArray) := ⟨Tryz.zeroValue268⟩
instance zer272 : Zer Tryz.prog 272 (.agg ([(Go.Value.int Go.IntKind.u8 0), (Go.Value.int Go.IntKind.u8 0)] : List Value).toArray) := ⟨Tryz.zeroValue272⟩
instance zer273 : Zer Tryz.prog 273 (.agg ([(Go.Value.int Go.IntKind.u8 0), (Go.Value.int Go.IntKind.u8 0), (Go.Value.int Go.IntKind.u8 0), (Go.Value.int Go.IntKind.u8 0), (Go.Value.int Go.IntKind.u8 0), (Go.Value.int Go.IntKind.u8 0), (Go.Value.int Go.IntKind.u8 0), (Go.Value.int Go.IntKind.u8 0), (Go.Value.int Go.IntKind.u8 0), (Go.Value.int Go.IntKind.u8 0), (Go.Value.int Go.IntKind.u8 0), (Go.Value.int Go.IntKind.u8 0), (Go.Value.int Go.IntKind.u8 0), (Go.Value.int Go.IntKind.u8 0), (Go.Value.int Go.IntKind.u8 0), (Go.Value.int Go.IntKind.u8 0), (Go.Value.int Go.IntKind.u8 0), (Go.Value.int Go.IntKind.u8 0), (Go.Value.int Go.IntKind.u8 0), (Go.Value.int Go.IntKind.u8 0), (Go.Value.int Go.IntKind.u8 0), (Go.Value.int Go.IntKind.u8 0), (Go.Value.int Go.IntKind.u8 0), (Go.Value.int Go.IntKind.u8 0), (Go.Value.int Go.IntKind.u8 0), (Go.Value.int Go.IntKind.u8 0), (Go.Value.int Go.IntKind.u8 0), (Go.Value.int Go.IntKind.u8 0), (Go.Value.int Go.IntKind.u8 0), (Go.Value.int Go.IntKind.u8 0), (Go.Value.int Go.IntKind.u8 0), (Go.Value.int Go.IntKind.u8 0)] : List Value).toArray) := ⟨Tryz.zeroValue273⟩
instance zer274 : Zer Tryz.prog 274 (.agg ([(Go.Value.int Go.IntKind.i32 0), (Go.Value.int Go.IntKind.i32 0), (Go.Value.int Go.IntKind.i32 0)] : List Value).toArray) := ⟨Tryz.zeroValue274⟩
instance zer296 : Zer Tryz.prog 296 (.agg ([(Go.Value.string ⟨([] : List UInt8).toArray⟩), (Go.Value.string ⟨([] : List UInt8).toArray⟩), Go.Value.nilIface] : List Value).toArray) := ⟨Tryz.zeroValue296⟩
instance zer302 : Zer Tryz.prog 302 (.agg ([(Go.Value.string ⟨([] : List UInt8).toArray⟩)] : List Value).toArray) := ⟨Tryz.zeroValue302⟩
instance zer304 : Zer Tryz.prog 304 (.agg ([(Go.Value.int Go.IntKind.u8 0), (Go.Value.int Go.IntKind.u8 0), (Go.Value.int Go.IntKind.u8 0), (Go.Value.int Go.IntKind.u8 0), (Go.Value.int Go.IntKind.u8 0), (Go.Value.int Go.IntKind.u8 0), (Go.Value.int Go.IntKind.u8 0), (Go.Value.int Go.IntKind.u8 0), (Go.Value.int Go.IntKind.u8 0), (Go.Value.int Go.IntKind.u8 0), (Go.Value.int Go.IntKind.u8 0), (Go.Value.int Go.IntKind.u8 0), (Go.Value.int Go.IntKind.u8 0), (Go.Value.int Go.IntKind.u8 0), (Go.Value.int Go.IntKind.u8 0), (Go.Value.int Go.IntKind.u8 0), (Go.Value.int Go.IntKind.u8 0), (Go.Value.int Go.IntKind.u8 0), (Go.Value.int Go.IntKind.u8 0), (Go.Value.int Go.IntKind.u8 0), (Go.Value.int Go.IntKind.u8 0), (Go.Value.int Go.IntKind.u8 0), (Go.Value.int Go.IntKind.u8 0), (Go.Value.int Go.IntKind.u8 0)] : List Value).toArray) := ⟨Tryz.zeroValue304⟩
instance zer311 : Zer Tryz.prog 311 (.agg ([(Go.Value.int Go.IntKind.u64 0), (Go.Value.int Go.IntKind.u64 0), (Go.Value.int Go.IntKind.u64 0), (Go.Value.int Go.IntKind.u64 0), (Go.Value.int Go.IntKind.u64 0), (Go.Value.int Go.IntKind.u64 0), (Go.Value.int Go.IntKind.u64 0), (Go.Value.int Go.IntKind.u64 0), (Go.Value.int Go.IntKind.u64 0), (Go.Value.int Go.IntKind.u64 0), (Go.Value.int Go.IntKind.u64 0), (Go.Value.int Go.IntKind.u64 0), (Go.Value.int Go.IntKind.u64 0), (Go.Value.int Go.IntKind.u64 0), (Go.Value.int Go.IntKind.u64 0), (Go.Value.int Go.IntKind.u64 0), (Go.Value.int Go.IntKind.u64 0), (Go.Value.int Go.IntKind.u64 0), (Go.Value.int Go.IntKind.u64 0), (Go.Value.int Go.IntKind.u64 0)] : List Value).toArray) := ⟨Tryz.zeroValue311⟩
instance zer316 : Zer Tryz.prog 316 (.agg ([(Go.Value.int Go.IntKind.u8 0), (Go.Value.int Go.IntKind.u8 0), (Go.Value.int Go.IntKind.u8 0), (Go.Value.int Go.IntKind.u8 0), (Go.Value.int Go.IntKind.u8 0), (Go.Value.int Go.IntKind.u8 0), (Go.Value.int Go.IntKind.u8 0), (Go.Value.int Go.IntKind.u8 0), (Go.Value.int Go.IntKind.u8 0), (Go.Value.int Go.IntKind.u8 0), (Go.Value.int Go.IntKind.u8 0), (Go.Value.int Go.IntKind.u8 0), (Go.Value.int Go.IntKind.u8 0), (Go.Value.int Go.IntKind.u8 0), (Go.Value.int Go.IntKind.u8 0), (Go.Value.int Go.IntKind.u8 0), (Go.Value.int Go.IntKind.u8 0), (Go.Value.int Go.IntKind.u8 0), (Go.Value.int Go.IntKind.u8 0), (Go.Value.int Go.IntKind.u8 0), (Go.Value.int Go.IntKind.u8 0), (Go.Value.int Go.IntKind.u8 0), (Go.Value.int Go.IntKind.u8 0), (Go.Value.int Go.IntKind.u8 0), (Go.Value.int Go.IntKind.u8 0), (Go.Value.int Go.IntKind.u8 0), (Go.Value.int Go.IntKind.u8 0), (Go.Value.int Go.IntKind.u8 0), (Go.Value.int Go.IntKind.u8 0), (Go.Value.int Go.IntKind.u8 0), (Go.Value.int Go.IntKind.u8 0), (Go.Value.int Go.IntKind.u8 0)] : List Value).toArray) := ⟨Tryz.zeroValue316⟩
instance zer317 : Zer Tryz.prog 317 (.agg ([(Go.Value.int Go.IntKind.u8 0), (Go.Value.int Go.IntKind.u8 0), (Go.Value.int Go.IntKind.u8 0), (Go.Value.int Go.IntKind.u8 0), (Go.Value.int Go.IntKind.u8 0), (Go.Value.int Go.IntKind.u8 0), (Go.Value.int Go.IntKind.u8 0), (Go.Value.int Go.IntKind.u8 0), (Go.Value.int Go.IntKind.u8 0), (Go.Value.int Go.IntKind.u8 0), (Go.Value.int Go.IntKind.u8 0), (Go.Value.int Go.IntKind.u8 0), (Go.Value.int Go.IntKind.u8 0), (Go.Value.int Go.IntKind.u8 0), (Go.Value.int Go.IntKind.u8 0), (Go.Value.int Go.IntKind.u8 0), (Go.Value.int Go.IntKind.u8 0), (Go.Value.int Go.IntKind.u8 0), (Go.Value.int Go.IntKind.u8 0), (Go.Value.int Go.IntKind.u8 0), (Go.Value.int Go.IntKind.u8 0), (Go.Value.int Go.IntKind.u8 0), (Go.Value.int Go.IntKind.u8 0), (Go.Value.int Go.IntKind.u8 0), (Go.Value.int Go.IntKind.u8 0), (Go.Value.int Go.IntKind.u8 0), (Go.Value.int Go.IntKind.u8 0), (Go.Value.int Go.IntKind.u8 0), (Go.Value.int Go.IntKind.u8 0), (Go.Value.int Go.IntKind.u8 0), (Go.Value.int Go.IntKind.u8 0), (Go.Value.int Go.IntKind.u8 0), (Go.Value.int Go.IntKind.u8 0), (Go.Value.int Go.IntKind.u8 0), (Go.Value.int Go.IntKind.u8 0), (Go.Value.int Go.IntKind.u8 0), (Go.Value.int Go.IntKind.u8 0), (Go.Value.int Go.IntKind.u8 0), (Go.Value.int Go.IntKind.u8 0), (Go.Value.int Go.IntKind.u8 0), (Go.Value.int Go.IntKind.u8 0), (Go.Value.int Go.IntKind.u8 0), (Go.Value.int Go.IntKind.u8 0), (Go.Value.int Go.IntKind.u8 0), (Go.Value.int Go.IntKind.u8 0), (Go.Value.int Go.IntKind.u8 0), (Go.Value.int Go.IntKind.u8 0), (Go.Value.int Go.IntKind.u8 0), (Go.Value.int Go.IntKind.u8 0), (Go.Value.int Go.IntKind.u8 0), (Go.Value.int Go.IntKind.u8 0), (Go.Value.int Go.IntKind.u8 0), (Go.Value.int Go.IntKind.u8 0), (Go.Value.int Go.IntKind.u8 0), (Go.Value.int Go.IntKind.u8 0), (Go.Value.int Go.IntKind.u8 0), (Go.Value.int Go.IntKind.u8 0), (Go.Value.int Go.IntKind.u8 0), (Go.Value.int Go.IntKind.u8 0), (Go.Value.int Go.IntKind.u8 0), (Go.Value.int Go.IntKind.u8 0), (Go.Value.int Go.IntKind.u8 0), (Go.Value.int Go.IntKind.u8 0), (Go.Value.int Go.IntKind.u8 0)] : List Value).toArray) := ⟨Tryz.zeroValue317⟩
instance zer331 : Zer Tryz.prog 331 (.agg ([(Go.Value.int Go.IntKind.i64 0), (Go.Value.int Go.IntKind.i64 0), (Go.Value.slice (Option.none) 0 0), (Go.Value.map (Option.none))] : List Value).toArray) := ⟨Tryz.zeroValue331⟩
instance zer347 : Zer Tryz.prog 347 (.agg ([(Go.Value.int Go.IntKind.i64 0), (Go.Value.int Go.IntKind.i64 0)] : List Value).toArray) := ⟨Tryz.zeroValue347⟩
instance zer351 : Zer Tryz.prog 351 (.agg ([(Go.Value.int Go.IntKind.i64 0), (Go.Value.int Go.IntKind.i64 0), (Go.Value.slice (Option.none) 0 0), (Go.Value.slice (Option.none) 0 0), (Go.Value.slice (Option.none) 0 0)] : List Value).toArray) := ⟨Tryz.zeroValue351⟩
instance zer359 : Zer Tryz.prog 359 (.agg ([(Go.Value.int Go.IntKind.i64 0), (Go.Value.int Go.IntKind.i64 0), (Go.Value.slice (Option.none) 0 0)] : List Value).toArray) := ⟨Tryz.zeroValue359⟩
instance zer361 : Zer Tryz.prog 361 (.agg ([(Go.Value.int Go.IntKind.i64 0), (Go.Value.int Go.IntKind.i64 0), (Go.Value.string ⟨([] : List UInt8).toArray⟩), (Go.Value.string ⟨([] : List UInt8).toArray⟩), (Go.Value.slice (Option.none) 0 0)] : List Value).toArray) := ⟨Tryz.zeroValue361⟩
instance zer364 : Zer Tryz.prog 364 (.agg ([(Go.Value.int Go.IntKind.i64 0), (Go.Value.int Go.IntKind.i64 0), (Go.Value.slice (Option.none) 0 0)] : List Value).toArray) := ⟨Tryz.zeroValue364⟩
instance pla28 : Places Tryz.prog 28 [(0, 1), (1, 1), (2, 1), (3, 1), (4, 1), (5, 1), (6, 1), (7, 1), (8, 1), (9, 1)] := ⟨⟨_, Tryz.underlying28, fun w => by kernel_rfl⟩⟩
instance pla51 : Places Tryz.prog 51 [(0, 1), (1, 1), (2, 1), (3, 1), (4, 1), (5, 1), (6, 1), (7, 1), (8, 1), (9, 1)] := ⟨⟨_, Tryz.underlying51, fun w => by kernel_rfl⟩⟩
instance pla61 : Places Tryz.prog 61 [(0, 80), (80, 1)] := ⟨⟨_, Tryz.underlying61, fun w => by kernel_rfl⟩⟩
instance pla69 : Places Tryz.prog 69 [] := ⟨⟨_, Tryz.underlying69, fun w => by kernel_rfl⟩⟩
instance pla73 : Places Tryz.prog 73 [(0, 1), (1, 1), (2, 1), (3, 1), (4, 1)] := ⟨⟨_, Tryz.underlying73, fun w => by kernel_rfl⟩⟩
instance pla78 : Places Tryz.prog 78 [(0, 1), (1, 1)] := ⟨⟨_, Tryz.underlying78, fun w => by kernel_rfl⟩⟩
instance pla80 : Places Tryz.prog 80 [(0, 2), (2, 1), (3, 1)] := ⟨⟨_, Tryz.underlying80, fun w => by kernel_rfl⟩⟩
instance pla88 : Places Tryz.prog 88 [(0, 1), (1, 1), (2, 2)] := ⟨⟨_, Tryz.underlying88, fun w => by kernel_rfl⟩⟩
instance pla104 : Places Tryz.prog 104 [(0, 1)] := ⟨⟨_, Tryz.underlying104, fun w => by kernel_rfl⟩⟩
instance pla106 : Places Tryz.prog 106 [(0, 1), (1, 1)] := ⟨⟨_, Tryz.underlying106, fun w => by kernel_rfl⟩⟩
instance pla111 : Places Tryz.prog 111 [(0, 1), (1, 1), (2, 1), (3, 1), (4, 1)] := ⟨⟨_, Tryz.underlying111, fun w => by kernel_rfl⟩⟩
instance pla116 : Places Tryz.prog 116 [(0, 2), (2, 1), (3, 1), (4, 1), (5, 1)] := ⟨⟨_, Tryz.underlying116, fun w => by kernel_rfl⟩⟩
instance pla119 : Places Tryz.prog 119 [(0, 2), (2, 1), (3, 1)] := ⟨⟨_, Tryz.underlying119, fun w => by kernel_rfl⟩⟩
instance pla122 : Places Tryz.prog 122 [(0, 2), (2, 1)] := ⟨⟨_, Tryz.underlying122, fun w => by kernel_rfl⟩⟩
instance pla127 : Places Tryz.prog 127 [(0, 1)] := ⟨⟨_, Tryz.underlying127, fun w => by kernel_rfl⟩⟩
instance pla147 : Places Tryz.prog 147 [(0, 1)] := ⟨⟨_, Tryz.underlying147, fun w => by kernel_rfl⟩⟩
instance pla149 : Places Tryz.prog 149 [] := ⟨⟨_, Tryz.underlying149, fun w => by kernel_rfl⟩⟩
instance pla152 : Places Tryz.prog 152 [(0, 1)] := ⟨⟨_, Tryz.underlying152, fun w => by kernel_rfl⟩⟩
instance pla161 : Places Tryz.prog 161 [(0, 1), (1, 1), (2, 1), (3, 1), (4, 1)] := ⟨⟨_, Tryz.underlying161, fun w => by kernel_rfl⟩⟩
instance pla163 : Places Tryz.prog 163 [] := ⟨⟨_, Tryz.underlying163, fun w => by kernel_rfl⟩⟩
instance pla174 : Places Tryz.prog 174 [(0, 1), (1, 1)] := ⟨⟨_, Tryz.underlying174, fun w => by kernel_rfl⟩⟩
instance pla189 : Places Tryz.prog 189 [(0, 1), (1, 1)] := ⟨⟨_, Tryz.underlying189, fun w => by kernel_rfl⟩⟩
instance pla208 : Places Tryz.prog 208 [(0, 2), (2, 1), (3, 1), (4, 1)] := ⟨⟨_, Tryz.underlying208, fun w => by kernel_rfl⟩⟩
instance pla214 : Places Tryz.prog 214 [(0, 2), (2, 1)] := ⟨⟨_, Tryz.underlying214, fun w => by kernel_rfl⟩⟩
instance pla220 : Places Tryz.prog 220 [(0, 1), (1, 1), (2, 1), (3, 1), (4, 1)] := ⟨⟨_, Tryz.underlying220, fun w => by kernel_rfl⟩⟩
instance pla226 : Places Tryz.prog 226 [(0, 1), (1, 1), (2, 1), (3, 1)] := ⟨⟨_, Tryz.underlying226, fun w => by kernel_rfl⟩⟩
instance pla230 : Places Tryz.prog 230 [(0, 1), (1, 1)] := ⟨⟨_, Tryz.underlying230, fun w => by kernel_rfl⟩⟩
instance pla237 : Places Tryz.prog 237 [(0, 1), (1, 1)] := ⟨⟨_, Tryz.underlying237, fun w => by kernel_rfl⟩⟩
instance pla250 : Places Tryz.prog 250 [] := ⟨⟨_, Tryz.underlying250, fun w => by kernel_rfl⟩⟩
instance pla255 : Places Tryz.prog 255 [(0, 1), (1, 1)] := ⟨⟨_, Tryz.underlying255, fun w => by kernel_rfl⟩⟩
instance pla262 : Places Tryz.prog 262 [(0, 1), (1, 1), (2, 1)] := ⟨⟨_, Tryz.underlying262, fun w => by kernel_rfl⟩⟩
instance pla265 : Places Tryz.prog 265 [(0, 1), (1, 1), (2, 1)] := ⟨⟨_, Tryz.underlying265, fun w => by kernel_rfl⟩⟩
instance pla268 : Places Tryz.prog 268 [(0, 1)] := ⟨⟨_, Tryz.underlying268, fun w => by kernel_rfl⟩⟩
instance pla272 : Places Tryz.prog 272 [(0, 1), (1, 1)] := ⟨⟨_, Tryz.underlying272, fun w => by kernel_rfl⟩⟩
instance pla296 : Places Tryz.prog 296 [(0, 1), (1, 1), (2, 1)] := ⟨⟨_, Tryz.underlying296, fun w => by kernel_rfl⟩⟩
instance pla302 : Places Tryz.prog 302 [(0, 1)] := ⟨⟨_, Tryz.underlying302, fun w => by kernel_rfl⟩⟩
instance pla331 : Places Tryz.prog 331 [(0, 2), (2, 1), (3, 1)] := ⟨⟨_, Tryz.underlying331, fun w => by kernel_rfl⟩⟩
instance pla347 : Places Tryz.prog 347 [(0, 2)] := ⟨⟨_, Tryz.underlying347, fun w => by kernel_rfl⟩⟩
instance pla351 : Places Tryz.prog 351 [(0, 2), (2, 1), (3, 1), (4, 1)] := ⟨⟨_, Tryz.underlying351, fun w => by kernel_rfl⟩⟩
instance pla359 : Places Tryz.prog 359 [(0, 2), (2, 1)] := ⟨⟨_, Tryz.underlying359, fun w => by kernel_rfl⟩⟩
instance pla361 : Places Tryz.prog 361 [(0, 2), (2, 1), (3, 1), (4, 1)] := ⟨⟨_, Tryz.underlying361, fun w => by kernel_rfl⟩⟩
instance pla364 : Places Tryz.prog 364 [(0, 2), (2, 1)] := ⟨⟨_, Tryz.underlying364, fun w => by kernel_rfl⟩⟩
instance fat28_0 : FAt Tryz.prog 28 0 0 := ⟨FieldAt.mk Tryz.underlying28 rfl rfl Tryz.sizeOf4 rfl⟩
instance fat28_1 : FAt Tryz.prog 28 1 1 := ⟨FieldAt.mk Tryz.underlying28 rfl rfl Tryz.sizeOf4 rfl⟩
instance fat28_2 : FAt Tryz.prog 28 2 2 := ⟨FieldAt.mk Tryz.underlying28 rfl rfl Tryz.sizeOf4 rfl⟩
instance fat28_3 : FAt Tryz.prog 28 3 3 := ⟨FieldAt.mk Tryz.underlying28 rfl rfl Tryz.sizeOf4 rfl⟩
instance fat28_4 : FAt Tryz.prog 28 4 4 := ⟨FieldAt.mk Tryz.underlying28 rfl rfl Tryz.sizeOf4 rfl⟩
instance fat28_5 : FAt Tryz.prog 28 5 5 := ⟨FieldAt.mk Tryz.underlying28 rfl rfl Tryz.sizeOf4 rfl⟩
instance fat28_6 : FAt Tryz.prog 28 6 6 := ⟨FieldAt.mk Tryz.underlying28 rfl rfl Tryz.sizeOf4 rfl⟩
instance fat28_7 : FAt Tryz.prog 28 7 7 := ⟨FieldAt.mk Tryz.underlying28 rfl rfl Tryz.sizeOf4 rfl⟩
instance fat28_8 : FAt Tryz.prog 28 8 8 := ⟨FieldAt.mk Tryz.underlying28 rfl rfl Tryz.sizeOf4 rfl⟩
instance fat28_9 : FAt Tryz.prog 28 9 9 := ⟨FieldAt.mk Tryz.underlying28 rfl rfl Tryz.sizeOf4 rfl⟩
instance fat46_0 : FAt Tryz.prog 46 0 0 := ⟨FieldAt.mk Tryz.underlying46 rfl rfl Tryz.sizeOf40 rfl⟩
instance fat46_1 : FAt Tryz.prog 46 1 1 := ⟨FieldAt.mk Tryz.underlying46 rfl rfl Tryz.sizeOf3 rfl⟩
instance fat46_2 : FAt Tryz.prog 46 2 2 := ⟨FieldAt.mk Tryz.underlying46 rfl rfl Tryz.sizeOf44 rfl⟩
instance fat51_0 : FAt Tryz.prog 51 0 0 := ⟨FieldAt.mk Tryz.underlying51 rfl rfl Tryz.sizeOf4 rfl⟩
instance fat51_1 : FAt Tryz.prog 51 1 1 := ⟨FieldAt.mk Tryz.underlying51 rfl rfl Tryz.sizeOf4 rfl⟩
instance fat51_2 : FAt Tryz.prog 51 2 2 := ⟨FieldAt.mk Tryz.underlying51 rfl rfl Tryz.sizeOf4 rfl⟩
instance fat51_3 : FAt Tryz.prog 51 3 3 := ⟨FieldAt.mk Tryz.underlying51 rfl rfl Tryz.sizeOf4 rfl⟩
instance fat51_4 : FAt Tryz.prog 51 4 4 := ⟨FieldAt.mk Tryz.underlying51 rfl rfl Tryz.sizeOf4 rfl⟩
instance fat51_5 : FAt Tryz.prog 51 5 5 := ⟨FieldAt.mk Tryz.underlying51 rfl rfl Tryz.sizeOf4 rfl⟩
instance fat51_6 : FAt Tryz.prog 51 6 6 := ⟨FieldAt.mk Tryz.underlying51 rfl rfl Tryz.sizeOf4 rfl⟩
instance fat51_7 : FAt Tryz.prog 51 7 7 := ⟨FieldAt.mk Tryz.underlying51 rfl rfl Tryz.sizeOf4 rfl⟩
instance fat51_8 : FAt Tryz.prog 51 8 8 := ⟨FieldAt.mk Tryz.underlying51 rfl rfl Tryz.sizeOf4 rfl⟩
instance fat51_9 : FAt Tryz.prog 51 9 9 := ⟨FieldAt.mk Tryz.underlying51 rfl rfl Tryz.sizeOf4 rfl⟩
instance fat61_0 : FAt Tryz.prog 61 0 0 := ⟨FieldAt.mk Tryz.underlying61 rfl rfl Tryz.sizeOf59 rfl⟩
instance fat61_1 : FAt Tryz.prog 61 1 80 := ⟨FieldAt.mk Tryz.underlying61 rfl rfl Tryz.sizeOf4 rfl⟩
instance fat63_0 : FAt Tryz.prog 63 0 0 := ⟨FieldAt.mk Tryz.underlying63 rfl rfl Tryz.sizeOf37 rfl⟩
instance fat63_1 : FAt Tryz.prog 63 1 1 := ⟨FieldAt.mk Tryz.underlying63 rfl rfl Tryz.sizeOf36 rfl⟩
instance fat63_2 : FAt Tryz.prog 63 2 2 := ⟨FieldAt.mk Tryz.underlying63 rfl rfl Tryz.sizeOf54 rfl⟩
instance fat63_3 : FAt Tryz.prog 63 3 3 := ⟨FieldAt.mk Tryz.underlying63 rfl rfl Tryz.sizeOf3 rfl⟩
instance fat63_4 : FAt Tryz.prog 63 4 4 := ⟨FieldAt.mk Tryz.underlying63 rfl rfl Tryz.sizeOf55 rfl⟩
instance fat63_5 : FAt Tryz.prog 63 5 5 := ⟨FieldAt.mk Tryz.underlying63 rfl rfl Tryz.sizeOf3 rfl⟩
instance fat63_6 : FAt Tryz.prog 63 6 6 := ⟨FieldAt.mk Tryz.underlying63 rfl rfl Tryz.sizeOf4 rfl⟩
instance fat63_7 : FAt Tryz.prog 63 7 7 := ⟨FieldAt.mk Tryz.underlying63 rfl rfl Tryz.sizeOf9 rfl⟩
instance fat63_8 : FAt Tryz.prog 63 8 8 := ⟨FieldAt.mk Tryz.underlying63 rfl rfl Tryz.sizeOf3 rfl⟩
instance fat63_9 : FAt Tryz.prog 63 9 9 := ⟨FieldAt.mk Tryz.underlying63 rfl rfl Tryz.sizeOf56 rfl⟩
instance fat63_10 : FAt Tryz.prog 63 10 10 := ⟨FieldAt.mk Tryz.underlying63 rfl rfl Tryz.sizeOf57 rfl⟩
instance fat63_11 : FAt Tryz.prog 63 11 11 := ⟨FieldAt.mk Tryz.underlying63 rfl rfl Tryz.sizeOf58 rfl⟩
instance fat63_12 : FAt Tryz.prog 63 12 12 := ⟨FieldAt.mk Tryz.underlying63 rfl rfl Tryz.sizeOf61 rfl⟩
instance fat73_0 : FAt Tryz.prog 73 0 0 := ⟨FieldAt.mk Tryz.underlying73 rfl rfl Tryz.sizeOf3 rfl⟩
instance fat73_1 : FAt Tryz.prog 73 1 1 := ⟨FieldAt.mk Tryz.underlying73 rfl rfl Tryz.sizeOf3 rfl⟩
instance fat73_2 : FAt Tryz.prog 73 2 2 := ⟨FieldAt.mk Tryz.underlying73 rfl rfl Tryz.sizeOf3 rfl⟩
instance fat73_3 : FAt Tryz.prog 73 3 3 := ⟨FieldAt.mk Tryz.underlying73 rfl rfl Tryz.sizeOf9 rfl⟩
instance fat73_4 : FAt Tryz.prog 73 4 4 := ⟨FieldAt.mk Tryz.underlying73 rfl rfl Tryz.sizeOf5 rfl⟩
instance fat78_0 : FAt Tryz.prog 78 0 0 := ⟨FieldAt.mk Tryz.underlying78 rfl rfl Tryz.sizeOf3 rfl⟩
instance fat78_1 : FAt Tryz.prog 78 1 1 := ⟨FieldAt.mk Tryz.underlying78 rfl rfl Tryz.sizeOf3 rfl⟩
instance fat80_1 : FAt Tryz.prog 80 1 2 := ⟨FieldAt.mk Tryz.underlying80 rfl rfl Tryz.sizeOf56 rfl⟩
instance fat80_2 : FAt Tryz.prog 80 2 3 := ⟨FieldAt.mk Tryz.underlying80 rfl rfl Tryz.sizeOf9 rfl⟩
instance fat88_0 : FAt Tryz.prog 88 0 0 := ⟨FieldAt.mk Tryz.underlying88 rfl rfl Tryz.sizeOf85 rfl⟩
instance fat88_1 : FAt Tryz.prog 88 1 1 := ⟨FieldAt.mk Tryz.underlying88 rfl rfl Tryz.sizeOf86 rfl⟩
instance fat88_2 : FAt Tryz.prog 88 2 2 := ⟨FieldAt.mk Tryz.underlying88 rfl rfl Tryz.sizeOf78 rfl⟩
instance fat104_0 : FAt Tryz.prog 104 0 0 := ⟨FieldAt.mk Tryz.underlying104 rfl rfl Tryz.sizeOf9 rfl⟩
instance fat106_0 : FAt Tryz.prog 106 0 0 := ⟨FieldAt.mk Tryz.underlying106 rfl rfl Tryz.sizeOf104 rfl⟩
instance fat106_1 : FAt Tryz.prog 106 1 1 := ⟨FieldAt.mk Tryz.underlying106 rfl rfl Tryz.sizeOf3 rfl⟩
instance fat111_0 : FAt Tryz.prog 111 0 0 := ⟨FieldAt.mk Tryz.underlying111 rfl rfl Tryz.sizeOf56 rfl⟩
instance fat111_1 : FAt Tryz.prog 111 1 1 := ⟨FieldAt.mk Tryz.underlying111 rfl rfl Tryz.sizeOf9 rfl⟩
instance fat111_2 : FAt Tryz.prog 111 2 2 := ⟨FieldAt.mk Tryz.underlying111 rfl rfl Tryz.sizeOf9 rfl⟩
instance fat111_4 : FAt Tryz.prog 111 4 4 := ⟨FieldAt.mk Tryz.underlying111 rfl rfl Tryz.sizeOf4 rfl⟩
instance fat116_1 : FAt Tryz.prog 116 1 2 := ⟨FieldAt.mk Tryz.underlying116 rfl rfl Tryz.sizeOf21 rfl⟩
instance fat116_2 : FAt Tryz.prog 116 2 3 := ⟨FieldAt.mk Tryz.underlying116 rfl rfl Tryz.sizeOf3 rfl⟩
instance fat116_4 : FAt Tryz.prog 116 4 5 := ⟨FieldAt.mk Tryz.underlying116 rfl rfl Tryz.sizeOf86 rfl⟩
instance fat119_0 : FAt Tryz.prog 119 0 0 := ⟨FieldAt.mk Tryz.underlying119 rfl rfl Tryz.sizeOf78 rfl⟩
instance fat119_1 : FAt Tryz.prog 119 1 2 := ⟨FieldAt.mk Tryz.underlying119 rfl rfl Tryz.sizeOf86 rfl⟩
instance fat122_0 : FAt Tryz.prog 122 0 0 := ⟨FieldAt.mk Tryz.underlying122 rfl rfl Tryz.sizeOf78 rfl⟩
instance fat122_1 : FAt Tryz.prog 122 1 2 := ⟨FieldAt.mk Tryz.underlying122 rfl rfl Tryz.sizeOf75 rfl⟩
instance fat127_0 : FAt Tryz.prog 127 0 0 := ⟨FieldAt.mk Tryz.underlying127 rfl rfl Tryz.sizeOf4 rfl⟩
instance fat134_0 : FAt Tryz.prog 134 0 0 := ⟨FieldAt.mk Tryz.underlying134 rfl rfl Tryz.sizeOf131 rfl⟩
instance fat134_1 : FAt Tryz.prog 134 1 1 := ⟨FieldAt.mk Tryz.underlying134 rfl rfl Tryz.sizeOf132 rfl⟩
instance fat139_0 : FAt Tryz.prog 139 0 0 := ⟨FieldAt.mk Tryz.underlying139 rfl rfl Tryz.sizeOf136 rfl⟩
instance fat139_1 : FAt Tryz.prog 139 1 1 := ⟨FieldAt.mk Tryz.underlying139 rfl rfl Tryz.sizeOf136 rfl⟩
instance fat139_2 : FAt Tryz.prog 139 2 2 := ⟨FieldAt.mk Tryz.underlying139 rfl rfl Tryz.sizeOf137 rfl⟩
instance fat152_0 : FAt Tryz.prog 152 0 0 := ⟨FieldAt.mk Tryz.underlying152 rfl rfl Tryz.sizeOf9 rfl⟩
instance fat161_0 : FAt Tryz.prog 161 0 0 := ⟨FieldAt.mk Tryz.underlying161 rfl rfl Tryz.sizeOf104 rfl⟩
instance fat161_1 : FAt Tryz.prog 161 1 1 := ⟨FieldAt.mk Tryz.underlying161 rfl rfl Tryz.sizeOf4 rfl⟩
instance fat161_2 : FAt Tryz.prog 161 2 2 := ⟨FieldAt.mk Tryz.underlying161 rfl rfl Tryz.sizeOf4 rfl⟩
instance fat161_3 : FAt Tryz.prog 161 3 3 := ⟨FieldAt.mk Tryz.underlying161 rfl rfl Tryz.sizeOf3 rfl⟩
instance fat161_4 : FAt Tryz.prog 161 4 4 := ⟨FieldAt.mk Tryz.underlying161 rfl rfl Tryz.sizeOf3 rfl⟩
instance fat174_1 : FAt Tryz.prog 174 1 1 := ⟨FieldAt.mk Tryz.underlying174 rfl rfl Tryz.sizeOf9 rfl⟩
instance fat189_1 : FAt Tryz.prog 189 1 1 := ⟨FieldAt.mk Tryz.underlying189 rfl rfl Tryz.sizeOf56 rfl⟩
instance fat194_1 : FAt Tryz.prog 194 1 1 := ⟨FieldAt.mk Tryz.underlying194 rfl rfl Tryz.sizeOf56 rfl⟩
instance fat195_1 : FAt Tryz.prog 195 1 1 := ⟨FieldAt.mk Tryz.underlying195 rfl rfl Tryz.sizeOf56 rfl⟩
instance fat208_1 : FAt Tryz.prog 208 1 2 := ⟨FieldAt.mk Tryz.underlying208 rfl rfl Tryz.sizeOf3 rfl⟩
instance fat208_2 : FAt Tryz.prog 208 2 3 := ⟨FieldAt.mk Tryz.underlying208 rfl rfl Tryz.sizeOf75 rfl⟩
instance fat208_3 : FAt Tryz.prog 208 3 4 := ⟨FieldAt.mk Tryz.underlying208 rfl rfl Tryz.sizeOf9 rfl⟩
instance fat220_0 : FAt Tryz.prog 220 0 0 := ⟨FieldAt.mk Tryz.underlying220 rfl rfl Tryz.sizeOf21 rfl⟩
instance fat220_1 : FAt Tryz.prog 220 1 1 := ⟨FieldAt.mk Tryz.underlying220 rfl rfl Tryz.sizeOf3 rfl⟩
instance fat220_2 : FAt Tryz.prog 220 2 2 := ⟨FieldAt.mk Tryz.underlying220 rfl rfl Tryz.sizeOf4 rfl⟩
instance fat220_3 : FAt Tryz.prog 220 3 3 := ⟨FieldAt.mk Tryz.underlying220 rfl rfl Tryz.sizeOf217 rfl⟩
instance fat220_4 : FAt Tryz.prog 220 4 4 := ⟨FieldAt.mk Tryz.underlying220 rfl rfl Tryz.sizeOf218 rfl⟩
instance fat226_0 : FAt Tryz.prog 226 0 0 := ⟨FieldAt.mk Tryz.underlying226 rfl rfl Tryz.sizeOf9 rfl⟩
instance fat226_1 : FAt Tryz.prog 226 1 1 := ⟨FieldAt.mk Tryz.underlying226 rfl rfl Tryz.sizeOf9 rfl⟩
instance fat226_2 : FAt Tryz.prog 226 2 2 := ⟨FieldAt.mk Tryz.underlying226 rfl rfl Tryz.sizeOf3 rfl⟩
instance fat226_3 : FAt Tryz.prog 226 3 3 := ⟨FieldAt.mk Tryz.underlying226 rfl rfl Tryz.sizeOf131 rfl⟩
instance fat230_1 : FAt Tryz.prog 230 1 1 := ⟨FieldAt.mk Tryz.underlying230 rfl rfl Tryz.sizeOf131 rfl⟩
instance fat237_0 : FAt Tryz.prog 237 0 0 := ⟨FieldAt.mk Tryz.underlying237 rfl rfl Tryz.sizeOf9 rfl⟩
instance fat237_1 : FAt Tryz.prog 237 1 1 := ⟨FieldAt.mk Tryz.underlying237 rfl rfl Tryz.sizeOf9 rfl⟩
instance fat245_0 : FAt Tryz.prog 245 0 0 := ⟨FieldAt.mk Tryz.underlying245 rfl rfl Tryz.sizeOf243 rfl⟩
instance fat245_1 : FAt Tryz.prog 245 1 1 := ⟨FieldAt.mk Tryz.underlying245 rfl rfl Tryz.sizeOf40 rfl⟩
instance fat255_0 : FAt Tryz.prog 255 0 0 := ⟨FieldAt.mk Tryz.underlying255 rfl rfl Tryz.sizeOf9 rfl⟩
instance fat255_1 : FAt Tryz.prog 255 1 1 := ⟨FieldAt.mk Tryz.underlying255 rfl rfl Tryz.sizeOf3 rfl⟩
instance fat262_0 : FAt Tryz.prog 262 0 0 := ⟨FieldAt.mk Tryz.underlying262 rfl rfl Tryz.sizeOf215 rfl⟩
instance fat262_1 : FAt Tryz.prog 262 1 1 := ⟨FieldAt.mk Tryz.underlying262 rfl rfl Tryz.sizeOf3 rfl⟩
instance fat262_2 : FAt Tryz.prog 262 2 2 := ⟨FieldAt.mk Tryz.underlying262 rfl rfl Tryz.sizeOf4 rfl⟩
instance fat265_0 : FAt Tryz.prog 265 0 0 := ⟨FieldAt.mk Tryz.underlying265 rfl rfl Tryz.sizeOf4 rfl⟩
instance fat265_1 : FAt Tryz.prog 265 1 1 := ⟨FieldAt.mk Tryz.underlying265 rfl rfl Tryz.sizeOf131 rfl⟩
instance fat265_2 : FAt Tryz.prog 265 2 2 := ⟨FieldAt.mk Tryz.underlying265 rfl rfl Tryz.sizeOf31 rfl⟩
instance fat268_0 : FAt Tryz.prog 268 0 0 := ⟨FieldAt.mk Tryz.underlying268 rfl rfl Tryz.sizeOf9 rfl⟩
instance fat272_0 : FAt Tryz.prog 272 0 0 := ⟨FieldAt.mk Tryz.underlying272 rfl rfl Tryz.sizeOf5 rfl⟩
instance fat272_1 : FAt Tryz.prog 272 1 1 := ⟨FieldAt.mk Tryz.underlying272 rfl rfl Tryz.sizeOf5 rfl⟩
instance fat331_1 : FAt Tryz.prog 331 1 2 := ⟨FieldAt.mk Tryz.underlying331 rfl rfl Tryz.sizeOf86 rfl⟩
instance fat341_0 : FAt Tryz.prog 341 0 0 := ⟨FieldAt.mk Tryz.underlying341 rfl rfl Tryz.sizeOf56 rfl⟩
instance fat341_1 : FAt Tryz.prog 341 1 1 := ⟨FieldAt.mk Tryz.underlying341 rfl rfl Tryz.sizeOf9 rfl⟩
instance fat341_2 : FAt Tryz.prog 341 2 2 := ⟨FieldAt.mk Tryz.underlying341 rfl rfl Tryz.sizeOf9 rfl⟩
instance fat351_1 : FAt Tryz.prog 351 1 2 := ⟨FieldAt.mk Tryz.underlying351 rfl rfl Tryz.sizeOf58 rfl⟩
instance fat351_2 : FAt Tryz.prog 351 2 3 := ⟨FieldAt.mk Tryz.underlying351 rfl rfl Tryz.sizeOf131 rfl⟩
instance fat351_3 : FAt Tryz.prog 351 3 4 := ⟨FieldAt.mk Tryz.underlying351 rfl rfl Tryz.sizeOf349 rfl⟩
instance fat359_1 : FAt Tryz.prog 359 1 2 := ⟨FieldAt.mk Tryz.underlying359 rfl rfl Tryz.sizeOf86 rfl⟩
instance fat361_1 : FAt Tryz.prog 361 1 2 := ⟨FieldAt.mk Tryz.underlying361 rfl rfl Tryz.sizeOf9 rfl⟩
instance fat361_2 : FAt Tryz.prog 361 2 3 := ⟨FieldAt.mk Tryz.underlying361 rfl rfl Tryz.sizeOf9 rfl⟩
instance fat361_3 : FAt Tryz.prog 361 3 4 := ⟨FieldAt.mk Tryz.underlying361 rfl rfl Tryz.sizeOf131 rfl⟩
instance fat364_1 : FAt Tryz.prog 364 1 2 := ⟨FieldAt.mk Tryz.underlying364 rfl rfl Tryz.sizeOf131 rfl⟩
instance cal2 : Cal Tryz.prog 2 := ⟨Tryz.call2⟩
instance fun2 : Fun Tryz.prog 2 Tryz.f2 := ⟨Tryz.func2⟩
instance cal3 : Cal Tryz.prog 3 := ⟨Tryz.call3⟩
instance fun3 : Fun Tryz.prog 3 Tryz.f3 := ⟨Tryz.func3⟩
instance cal4 : Cal Tryz.prog 4 := ⟨Tryz.call4⟩
instance fun4 : Fun Tryz.prog 4 Tryz.f4 := ⟨Tryz.func4⟩
instance cal5 : Cal Tryz.prog 5 := ⟨Tryz.call5⟩
instance fun5 : Fun Tryz.prog 5 Tryz.f5 := ⟨Tryz.func5⟩
instance cal6 : Cal Tryz.prog 6 := ⟨Tryz.call6⟩
instance fun6 : Fun Tryz.prog 6 Tryz.f6 := ⟨Tryz.func6⟩
instance cal7 : Cal Tryz.prog 7 := ⟨Tryz.call7⟩
instance fun7 : Fun Tryz.prog 7 Tryz.f7 := ⟨Tryz.func7⟩
instance cal8 : Cal Tryz.prog 8 := ⟨Tryz.call8⟩
instance fun8 : Fun Tryz.prog 8 Tryz.f8 := ⟨Tryz.func8⟩
instance cal9 : Cal Tryz.prog 9 := ⟨Tryz.call9⟩
instance fun9 : Fun Tryz.prog 9 Tryz.f9 := ⟨Tryz.func9⟩
instance cal10 : Cal Tryz.prog 10 := ⟨Tryz.call10⟩
instance fun10 : Fun Tryz.prog 10 Tryz.f10 := ⟨Tryz.func10⟩
instance cal11 : Cal Tryz.prog 11 := ⟨Tryz.call11⟩
instance fun11 : Fun Tryz.prog 11 Tryz.f11 := ⟨Tryz.func11⟩
instance cal12 : Cal Tryz.prog 12 := ⟨Tryz.call12⟩
instance fun12 : Fun Tryz.prog 12 Tryz.f12 := ⟨Tryz.func12⟩
instance cal13 : Cal Tryz.prog 13 := ⟨Tryz.call13⟩
instance fun13 : Fun Tryz.prog 13 Tryz.f13 := ⟨Tryz.func13⟩
instance cal14 : Cal Tryz.prog 14 := ⟨Tryz.call14⟩
instance fun14 : Fun Tryz.prog 14 Tryz.f14 := ⟨Tryz.func14⟩
instance cal15 : Cal Tryz.prog 15 := ⟨Tryz.call15⟩
instance fun15 : Fun Tryz.prog 15 Tryz.f15 := ⟨Tryz.func15⟩
instance cal16 : Cal Tryz.prog 16 := ⟨Tryz.call16⟩
instance fun16 : Fun Tryz.prog 16 Tryz.f16 := ⟨Tryz.func16⟩
instance cal17 : Cal Tryz.prog 17 := ⟨Tryz.call17⟩
instance fun17 : Fun Tryz.prog 17 Tryz.f17 := ⟨Tryz.func17⟩
instance cal18 : Cal Tryz.prog 18 := ⟨Tryz.call18⟩
instance fun18 : Fun Tryz.prog 18 Tryz.f18 := ⟨Tryz.func18⟩
instance cal19 : Cal Tryz.prog 19 := ⟨Tryz.call19⟩
instance fun19 : Fun Tryz.prog 19 Tryz.f19 := ⟨Tryz.func19⟩
instance cal20 : Cal Tryz.prog 20 := ⟨Tryz.call20⟩
instance fun20 : Fun Tryz.prog 20 Tryz.f20 := ⟨Tryz.func20⟩
instance cal21 : Cal Tryz.prog 21 := ⟨Tryz.call21⟩
instance fun21 : Fun Tryz.prog 21 Tryz.f21 := ⟨Tryz.func21⟩
instance cal22 : Cal Tryz.prog 22 := ⟨Tryz.call22⟩
instance fun22 : Fun Tryz.prog 22 Tryz.f22 := ⟨Tryz.func22⟩
instance cal23 : Cal Tryz.prog 23 := ⟨Tryz.call23⟩
instance fun23 : Fun Tryz.prog 23 Tryz.f23 := ⟨Tryz.func23⟩
instance cal24 : Cal Tryz.prog 24 := ⟨Tryz.call24⟩
instance fun24 : Fun Tryz.prog 24 Tryz.f24 := ⟨Tryz.func24⟩
instance cal25 : Cal Tryz.prog 25 := ⟨Tryz.call25⟩
instance fun25 : Fun Tryz.prog 25 Tryz.f25 := ⟨Tryz.func25⟩
instance cal26 : Cal Tryz.prog 26 := ⟨Tryz.call26⟩
instance fun26 : Fun Tryz.prog 26 Tryz.f26 := ⟨Tryz.func26⟩
instance cal27 : Cal Tryz.prog 27 := ⟨Tryz.call27⟩
instance fun27 : Fun Tryz.prog 27 Tryz.f27 := ⟨Tryz.func27⟩
instance cal28 : Cal Tryz.prog 28 := ⟨Tryz.call28⟩
instance fun28 : Fun Tryz.prog 28 Tryz.f28 := ⟨Tryz.func28⟩
instance cal29 : Cal Tryz.prog 29 := ⟨Tryz.call29⟩
instance fun29 : Fun Tryz.prog 29 Tryz.f29 := ⟨Tryz.func29⟩
instance cal30 : Cal Tryz.prog 30 := ⟨Tryz.call30⟩
instance fun30 : Fun Tryz.prog 30 Tryz.f30 := ⟨Tryz.func30⟩
instance cal31 : Cal Tryz.prog 31 := ⟨Tryz.call31⟩
instance fun31 : Fun Tryz.prog 31 Tryz.f31 := ⟨Tryz.func31⟩
instance cal33 : Cal Tryz.prog 33 := ⟨Tryz.call33⟩
instance fun33 : Fun Tryz.prog 33 Tryz.f33 := ⟨Tryz.func33⟩
instance cal34 : Cal Tryz.prog 34 := ⟨Tryz.call34⟩
instance fun34 : Fun Tryz.prog 34 Tryz.f34 := ⟨Tryz.func34⟩
instance cal35 : Cal Tryz.prog 35 := ⟨Tryz.call35⟩
instance fun35 : Fun Tryz.prog 35 Tryz.f35 := ⟨Tryz.func35⟩
instance cal36 : Cal Tryz.prog 36 := ⟨Tryz.call36⟩
instance fun36 : Fun Tryz.prog 36 Tryz.f36 := ⟨Tryz.func36⟩
instance cal37 : Cal Tryz.prog 37 := ⟨Tryz.call37⟩
instance fun37 : Fun Tryz.prog 37 Tryz.f37 := ⟨Tryz.func37⟩
instance cal38 : Cal Tryz.prog 38 := ⟨Tryz.call38⟩
instance fun38 : Fun Tryz.prog 38 Tryz.f38 := ⟨Tryz.func38⟩
instance cal39 : Cal Tryz.prog 39 := ⟨Tryz.call39⟩
instance fun39 : Fun Tryz.prog 39 Tryz.f39 := ⟨Tryz.func39⟩
instance cal40 : Cal Tryz.prog 40 := ⟨Tryz.call40⟩
instance fun40 : Fun Tryz.prog 40 Tryz.f40 := ⟨Tryz.func40⟩
instance cal41 : Cal Tryz.prog 41 := ⟨Tryz.call41⟩
instance fun41 : Fun Tryz.prog 41 Tryz.f41 := ⟨Tryz.func41⟩
instance cal42 : Cal Tryz.prog 42 := ⟨Tryz.call42⟩
instance fun42 : Fun Tryz.prog 42 Tryz.f42 := ⟨Tryz.func42⟩
instance cal43 : Cal Tryz.prog 43 := ⟨Tryz.call43⟩
instance fun43 : Fun Tryz.prog 43 Tryz.f43 := ⟨Tryz.func43⟩
instance cal44 : Cal Tryz.prog 44 := ⟨Tryz.call44⟩
instance fun44 : Fun Tryz.prog 44 Tryz.f44 := ⟨Tryz.func44⟩
instance cal45 : Cal Tryz.prog 45 := ⟨Tryz.call45⟩
instance fun45 : Fun Tryz.prog 45 Tryz.f45 := ⟨Tryz.func45⟩
instance cal46 : Cal Tryz.prog 46 := ⟨Tryz.call46⟩
instance fun46 : Fun Tryz.prog 46 Tryz.f46 := ⟨Tryz.func46⟩
instance cal47 : Cal Tryz.prog 47 := ⟨Tryz.call47⟩
instance fun47 : Fun Tryz.prog 47 Tryz.f47 := ⟨Tryz.func47⟩
instance cal48 : Cal Tryz.prog 48 := ⟨Tryz.call48⟩
instance fun48 : Fun Tryz.prog 48 Tryz.f48 := ⟨Tryz.func48⟩
instance cal49 : Cal Tryz.prog 49 := ⟨Tryz.call49⟩
instance fun49 : Fun Tryz.prog 49 Tryz.f49 := ⟨Tryz.func49⟩
instance cal50 : Cal Tryz.prog 50 := ⟨Tryz.call50⟩
instance fun50 : Fun Tryz.prog 50 Tryz.f50 := ⟨Tryz.func50⟩
instance cal51 : Cal Tryz.prog 51 := ⟨Tryz.call51⟩
instance fun51 : Fun Tryz.prog 51 Tryz.f51 := ⟨Tryz.func51⟩
instance cal52 : Cal Tryz.prog 52 := ⟨Tryz.call52⟩
instance fun52 : Fun Tryz.prog 52 Tryz.f52 := ⟨Tryz.func52⟩
instance cal53 : Cal Tryz.prog 53 := ⟨Tryz.call53⟩
instance fun53 : Fun Tryz.prog 53 Tryz.f53 := ⟨Tryz.func53⟩
instance cal54 : Cal Tryz.prog 54 := ⟨Tryz.call54⟩
instance fun54 : Fun Tryz.prog 54 Tryz.f54 := ⟨Tryz.func54⟩
instance cal55 : Cal Tryz.prog 55 := ⟨Tryz.call55⟩
instance fun55 : Fun Tryz.prog 55 Tryz.f55 := ⟨Tryz.func55⟩
instance cal56 : Cal Tryz.prog 56 := ⟨Tryz.call56⟩
instance fun56 : Fun Tryz.prog 56 Tryz.f56 := ⟨Tryz.func56⟩
instance cal57 : Cal Tryz.prog 57 := ⟨Tryz.call57⟩
instance fun57 : Fun Tryz.prog 57 Tryz.f57 := ⟨Tryz.func57⟩
instance cal58 : Cal Tryz.prog 58 := ⟨Tryz.call58⟩
instance fun58 : Fun Tryz.prog 58 Tryz.f58 := ⟨Tryz.func58⟩
instance cal59 : Cal Tryz.prog 59 := ⟨Tryz.call59⟩
instance fun59 : Fun Tryz.prog 59 Tryz.f59 := ⟨Tryz.func59⟩
instance cal60 : Cal Tryz.prog 60 := ⟨Tryz.call60⟩
instance fun60 : Fun Tryz.prog 60 Tryz.f60 := ⟨Tryz.func60⟩
instance cal61 : Cal Tryz.prog 61 := ⟨Tryz.call61⟩
instance fun61 : Fun Tryz.prog 61 Tryz.f61 := ⟨Tryz.func61⟩
instance cal62 : Cal Tryz.prog 62 := ⟨Tryz.call62⟩
instance fun62 : Fun Tryz.prog 62 Tryz.f62 := ⟨Tryz.func62⟩
instance cal63 : Cal Tryz.prog 63 := ⟨Tryz.call63⟩
instance fun63 : Fun Tryz.prog 63 Tryz.f63 := ⟨Tryz.func63⟩
instance cal64 : Cal Tryz.prog 64 := ⟨Tryz.call64⟩
instance fun64 : Fun Tryz.prog 64 Tryz.f64 := ⟨Tryz.func64⟩
instance cal65 : Cal Tryz.prog 65 := ⟨Tryz.call65⟩
instance fun65 : Fun Tryz.prog 65 Tryz.f65 := ⟨Tryz.func65⟩
instance cal66 : Cal Tryz.prog 66 := ⟨Tryz.call66⟩
instance fun66 : Fun Tryz.prog 66 Tryz.f66 := ⟨Tryz.func66⟩
instance cal67 : Cal Tryz.prog 67 := ⟨Tryz.call67⟩
instance fun67 : Fun Tryz.prog 67 Tryz.f67 := ⟨Tryz.func67⟩
instance cal68 : Cal Tryz.prog 68 := ⟨Tryz.call68⟩
instance fun68 : Fun Tryz.prog 68 Tryz.f68 := ⟨Tryz.func68⟩
instance cal69 : Cal Tryz.prog 69 := ⟨Tryz.call69⟩
instance fun69 : Fun Tryz.prog 69 Tryz.f69 := ⟨Tryz.func69⟩
instance cal70 : Cal Tryz.prog 70 := ⟨Tryz.call70⟩
instance fun70 : Fun Tryz.prog 70 Tryz.f70 := ⟨Tryz.func70⟩
instance cal71 : Cal Tryz.prog 71 := ⟨Tryz.call71⟩
instance fun71 : Fun Tryz.prog 71 Tryz.f71 := ⟨Tryz.func71⟩
instance cal72 : Cal Tryz.prog 72 := ⟨Tryz.call72⟩
instance fun72 : Fun Tryz.prog 72 Tryz.f72 := ⟨Tryz.func72⟩
instance cal73 : Cal Tryz.prog 73 := ⟨Tryz.call73⟩
instance fun73 : Fun Tryz.prog 73 Tryz.f73 := ⟨Tryz.func73⟩
instance cal74 : Cal Tryz.prog 74 := ⟨Tryz.call74⟩
instance fun74 : Fun Tryz.prog 74 Tryz.f74 := ⟨Tryz.func74⟩
instance cal75 : Cal Tryz.prog 75 := ⟨Tryz.call75⟩
instance fun75 : Fun Tryz.prog 75 Tryz.f75 := ⟨Tryz.func75⟩
instance cal76 : Cal Tryz.prog 76 := ⟨Tryz.call76⟩
instance fun76 : Fun Tryz.prog 76 Tryz.f76 := ⟨Tryz.func76⟩
instance cal77 : Cal Tryz.prog 77 := ⟨Tryz.call77⟩
instance fun77 : Fun Tryz.prog 77 Tryz.f77 := ⟨Tryz.func77⟩
instance cal78 : Cal Tryz.prog 78 := ⟨Tryz.call78⟩
instance fun78 : Fun Tryz.prog 78 Tryz.f78 := ⟨Tryz.func78⟩
instance cal79 : Cal Tryz.prog 79 := ⟨Tryz.call79⟩
instance fun79 : Fun Tryz.prog 79 Tryz.f79 := ⟨Tryz.func79⟩
instance cal80 : Cal Tryz.prog 80 := ⟨Tryz.call80⟩
instance fun80 : Fun Tryz.prog 80 Tryz.f80 := ⟨Tryz.func80⟩
instance cal81 : Cal Tryz.prog 81 := ⟨Tryz.call81⟩
instance fun81 : Fun Tryz.prog 81 Tryz.f81 := ⟨Tryz.func81⟩
instance cal82 : Cal Tryz.prog 82 := ⟨Tryz.call82⟩
instance fun82 : Fun Tryz.prog 82 Tryz.f82 := ⟨Tryz.func82⟩
instance cal83 : Cal Tryz.prog 83 := ⟨Tryz.call83⟩
instance fun83 : Fun Tryz.prog 83 Tryz.f83 := ⟨Tryz.func83⟩
instance cal84 : Cal Tryz.prog 84 := ⟨Tryz.call84⟩
instance fun84 : Fun Tryz.prog 84 Tryz.f84 := ⟨Tryz.func84⟩
instance cal85 : Cal Tryz.prog 85 := ⟨Tryz.call85⟩
instance fun85 : Fun Tryz.prog 85 Tryz.f85 := ⟨Tryz.func85⟩
instance cal86 : Cal Tryz.prog 86 := ⟨Tryz.call86⟩
instance fun86 : Fun Tryz.prog 86 Tryz.f86 := ⟨Tryz.func86⟩
instance cal87 : Cal Tryz.prog 87 := ⟨Tryz.call87⟩
instance fun87 : Fun Tryz.prog 87 Tryz.f87 := ⟨Tryz.func87⟩
instance cal88 : Cal Tryz.prog 88 := ⟨Tryz.call88⟩
instance fun88 : Fun Tryz.prog 88 Tryz.f88 := ⟨Tryz.func88⟩
instance cal89 : Cal Tryz.prog 89 := ⟨Tryz.call89⟩
instance fun89 : Fun Tryz.prog 89 Tryz.f89 := ⟨Tryz.func89⟩
instance cal90 : Cal Tryz.prog 90 := ⟨Tryz.call90⟩
instance fun90 : Fun Tryz.prog 90 Tryz.f90 := ⟨Tryz.func90⟩
instance cal91 : Cal Tryz.prog 91 := ⟨Tryz.call91⟩
instance fun91 : Fun Tryz.prog 91 Tryz.f91 := ⟨Tryz.func91⟩
instance cal92 : Cal Tryz.prog 92 := ⟨Tryz.call92⟩
instance fun92 : Fun Tryz.prog 92 Tryz.f92 := ⟨Tryz.func92⟩
instance cal93 : Cal Tryz.prog 93 := ⟨Tryz.call93⟩
instance fun93 : Fun Tryz.prog 93 Tryz.f93 := ⟨Tryz.func93⟩
instance cal94 : Cal Tryz.prog 94 := ⟨Tryz.call94⟩
instance fun94 : Fun Tryz.prog 94 Tryz.f94 := ⟨Tryz.func94⟩
instance cal95 : Cal Tryz.prog 95 := ⟨Tryz.call95⟩
instance fun95 : Fun Tryz.prog 95 Tryz.f95 := ⟨Tryz.func95⟩
instance cal96 : Cal Tryz.prog 96 := ⟨Tryz.call96⟩
instance fun96 : Fun Tryz.prog 96 Tryz.f96 := ⟨Tryz.func96⟩
instance cal97 : Cal Tryz.prog 97 := ⟨Tryz.call97⟩
instance fun97 : Fun Tryz.prog 97 Tryz.f97 := ⟨Tryz.func97⟩
instance cal98 : Cal Tryz.prog 98 := ⟨Tryz.call98⟩
instance fun98 : Fun Tryz.prog 98 Tryz.f98 := ⟨Tryz.func98⟩
instance cal99 : Cal Tryz.prog 99 := ⟨Tryz.call99⟩
instance fun99 : Fun Tryz.prog 99 Tryz.f99 := ⟨Tryz.func99⟩
instance cal100 : Cal Tryz.prog 100 := ⟨Tryz.call100⟩
instance fun100 : Fun Tryz.prog 100 Tryz.f100 := ⟨Tryz.func100⟩
instance cal101 : Cal Tryz.prog 101 := ⟨Tryz.call101⟩
instance fun101 : Fun Tryz.prog 101 Tryz.f101 := ⟨Tryz.func101⟩
instance cal102 : Cal Tryz.prog 102 := ⟨Tryz.call102⟩
instance fun102 : Fun Tryz.prog 102 Tryz.f102 := ⟨Tryz.func102⟩
instance cal103 : Cal Tryz.prog 103 := ⟨Tryz.call103⟩
instance fun103 : Fun Tryz.prog 103 Tryz.f103 := ⟨Tryz.func103⟩
instance cal104 : Cal Tryz.prog 104 := ⟨Tryz.call104⟩
instance fun104 : Fun Tryz.prog 104 Tryz.f104 := ⟨Tryz.func104⟩
instance cal105 : Cal Tryz.prog 105 := ⟨Tryz.call105⟩
instance fun105 : Fun Tryz.prog 105 Tryz.f105 := ⟨Tryz.func105⟩
instance cal106 : Cal Tryz.prog 106 := ⟨Tryz.call106⟩
instance fun106 : Fun Tryz.prog 106 Tryz.f106 := ⟨Tryz.func106⟩
instance cal107 : Cal Tryz.prog 107 := ⟨Tryz.call107⟩
instance fun107 : Fun Tryz.prog 107 Tryz.f107 := ⟨Tryz.func107⟩
instance cal108 : Cal Tryz.prog 108 := ⟨Tryz.call108⟩
instance fun108 : Fun Tryz.prog 108 Tryz.f108 := ⟨Tryz.func108⟩
instance cal109 : Cal Tryz.prog 109 := ⟨Tryz.call109⟩
instance fun109 : Fun Tryz.prog 109 Tryz.f109 := ⟨Tryz.func109⟩
instance cal110 : Cal Tryz.prog 110 := ⟨Tryz.call110⟩
instance fun110 : Fun Tryz.prog 110 Tryz.f110 := ⟨Tryz.func110⟩
instance cal111 : Cal Tryz.prog 111 := ⟨Tryz.call111⟩
instance fun111 : Fun Tryz.prog 111 Tryz.f111 := ⟨Tryz.func111⟩
instance cal112 : Cal Tryz.prog 112 := ⟨Tryz.call112⟩
instance fun112 : Fun Tryz.prog 112 Tryz.f112 := ⟨Tryz.func112⟩
instance cal113 : Cal Tryz.prog 113 := ⟨Tryz.call113⟩
instance fun113 : Fun Tryz.prog 113 Tryz.f113 := ⟨Tryz.func113⟩
instance cal114 : Cal Tryz.prog 114 := ⟨Tryz.call114⟩
instance fun114 : Fun Tryz.prog 114 Tryz.f114 := ⟨Tryz.func114⟩
instance cal115 : Cal Tryz.prog 115 := ⟨Tryz.call115⟩
instance fun115 : Fun Tryz.prog 115 Tryz.f115 := ⟨Tryz.func115⟩
instance cal116 : Cal Tryz.prog 116 := ⟨Tryz.call116⟩
instance fun116 : Fun Tryz.prog 116 Tryz.f116 := ⟨Tryz.func116⟩
instance cal117 : Cal Tryz.prog 117 := ⟨Tryz.call117⟩
instance fun117 : Fun Tryz.prog 117 Tryz.f117 := ⟨Tryz.func117⟩
instance cal118 : Cal Tryz.prog 118 := ⟨Tryz.call118⟩
instance fun118 : Fun Tryz.prog 118 Tryz.f118 := ⟨Tryz.func118⟩
instance cal119 : Cal Tryz.prog 119 := ⟨Tryz.call119⟩
instance fun119 : Fun Tryz.prog 119 Tryz.f119 := ⟨Tryz.func119⟩
instance cal120 : Cal Tryz.prog 120 := ⟨Tryz.call120⟩
instance fun120 : Fun Tryz.prog 120 Tryz.f120 := ⟨Tryz.func120⟩
instance cal121 : Cal Tryz.prog 121 := ⟨Tryz.call121⟩
instance fun121 : Fun Tryz.prog 121 Tryz.f121 := ⟨Tryz.func121⟩
instance cal122 : Cal Tryz.prog 122 := ⟨Tryz.call122⟩
instance fun122 : Fun Tryz.prog 122 Tryz.f122 := ⟨Tryz.func122⟩
instance cal123 : Cal Tryz.prog 123 := ⟨Tryz.call123⟩
instance fun123 : Fun Tryz.prog 123 Tryz.f123 := ⟨Tryz.func123⟩
instance cal124 : Cal Tryz.prog 124 := ⟨Tryz.call124⟩
instance fun124 : Fun Tryz.prog 124 Tryz.f124 := ⟨Tryz.func124⟩
instance cal125 : Cal Tryz.prog 125 := ⟨Tryz.call125⟩
instance fun125 : Fun Tryz.prog 125 Tryz.f125 := ⟨Tryz.func125⟩
instance cal126 : Cal Tryz.prog 126 := ⟨Tryz.call126⟩
instance fun126 : Fun Tryz.prog 126 Tryz.f126 := ⟨Tryz.func126⟩
instance cal127 : Cal Tryz.prog 127 := ⟨Tryz.call127⟩
instance fun127 : Fun Tryz.prog 127 Tryz.f127 := ⟨Tryz.func127⟩
instance cal128 : Cal Tryz.prog 128 := ⟨Tryz.call128⟩
instance fun128 : Fun Tryz.prog 128 Tryz.f128 := ⟨Tryz.func128⟩
instance cal129 : Cal Tryz.prog 129 := ⟨Tryz.call129⟩
instance fun129 : Fun Tryz.prog 129 Tryz.f129 := ⟨Tryz.func129⟩
instance cal130 : Cal Tryz.prog 130 := ⟨Tryz.call130⟩
instance fun130 : Fun Tryz.prog 130 Tryz.f130 := ⟨Tryz.func130⟩
instance cal131 : Cal Tryz.prog 131 := ⟨Tryz.call131⟩
instance fun131 : Fun Tryz.prog 131 Tryz.f131 := ⟨Tryz.func131⟩
instance cal132 : Cal Tryz.prog 132 := ⟨Tryz.call132⟩
instance fun132 : Fun Tryz.prog 132 Tryz.f132 := ⟨Tryz.func132⟩
instance cal133 : Cal Tryz.prog 133 := ⟨Tryz.call133⟩
instance fun133 : Fun Tryz.prog 133 Tryz.f133 := ⟨Tryz.func133⟩
instance cal134 : Cal Tryz.prog 134 := ⟨Tryz.call134⟩
instance fun134 : Fun Tryz.prog 134 Tryz.f134 := ⟨Tryz.func134⟩
instance cal135 : Cal Tryz.prog 135 := ⟨Tryz.call135⟩
instance fun135 : Fun Tryz.prog 135 Tryz.f135 := ⟨Tryz.func135⟩
instance cal136 : Cal Tryz.prog 136 := ⟨Tryz.call136⟩
instance fun136 : Fun Tryz.prog 136 Tryz.f136 := ⟨Tryz.func136⟩
instance cal137 : Cal Tryz.prog 137 := ⟨Tryz.call137⟩
instance fun137 : Fun Tryz.prog 137 Tryz.f137 := ⟨Tryz.func137⟩
instance cal138 : Cal Tryz.prog 138 := ⟨Tryz.call138⟩
instance fun138 : Fun Tryz.prog 138 Tryz.f138 := ⟨Tryz.func138⟩
instance cal139 : Cal Tryz.prog 139 := ⟨Tryz.call139⟩
instance fun139 : Fun Tryz.prog 139 Tryz.f139 := ⟨Tryz.func139⟩
instance cal140 : Cal Tryz.prog 140 := ⟨Tryz.call140⟩
instance fun140 : Fun Tryz.prog 140 Tryz.f140 := ⟨Tryz.func140⟩
instance cal141 : Cal Tryz.prog 141 := ⟨Tryz.call141⟩
instance fun141 : Fun Tryz.prog 141 Tryz.f141 := ⟨Tryz.func141⟩
instance cal142 : Cal Tryz.prog 142 := ⟨Tryz.call142⟩
instance fun142 : Fun Tryz.prog 142 Tryz.f142 := ⟨Tryz.func142⟩
instance cal143 : Cal Tryz.prog 143 := ⟨Tryz.call143⟩
instance fun143 : Fun Tryz.prog 143 Tryz.f143 := ⟨Tryz.func143⟩
instance cal144 : Cal Tryz.prog 144 := ⟨Tryz.call144⟩
instance fun144 : Fun Tryz.prog 144 Tryz.f144 := ⟨Tryz.func144⟩
instance cal145 : Cal Tryz.prog 145 := ⟨Tryz.call145⟩
instance fun145 : Fun Tryz.prog 145 Tryz.f145 := ⟨Tryz.func145⟩
instance cal146 : Cal Tryz.prog 146 := ⟨Tryz.call146⟩
instance fun146 : Fun Tryz.prog 146 Tryz.f146 := ⟨Tryz.func146⟩
instance cal147 : Cal Tryz.prog 147 := ⟨Tryz.call147⟩
instance fun147 : Fun Tryz.prog 147 Tryz.f147 := ⟨Tryz.func147⟩
instance cal148 : Cal Tryz.prog 148 := ⟨Tryz.call148⟩
instance fun148 : Fun Tryz.prog 148 Tryz.f148 := ⟨Tryz.func148⟩
instance cal149 : Cal Tryz.prog 149 := ⟨Tryz.call149⟩
instance fun149 : Fun Tryz.prog 149 Tryz.f149 := ⟨Tryz.func149⟩
instance cal150 : Cal Tryz.prog 150 := ⟨Tryz.call150⟩
instance fun150 : Fun Tryz.prog 150 Tryz.f150 := ⟨Tryz.func150⟩
instance cal151 : Cal Tryz.prog 151 := ⟨Tryz.call151⟩
instance fun151 : Fun Tryz.prog 151 Tryz.f151 := ⟨Tryz.func151⟩
instance cal152 : Cal Tryz.prog 152 := ⟨Tryz.call152⟩
instance fun152 : Fun Tryz.prog 152 Tryz.f152 := ⟨Tryz.func152⟩
instance cal153 : Cal Tryz.prog 153 := ⟨Tryz.call153⟩
instance fun153 : Fun Tryz.prog 153 Tryz.f153 := ⟨Tryz.func153⟩
instance cal154 : Cal Tryz.prog 154 := ⟨Tryz.call154⟩
instance fun154 : Fun Tryz.prog 154 Tryz.f154 := ⟨Tryz.func154⟩
instance cal155 : Cal Tryz.prog 155 := ⟨Tryz.call155⟩
instance fun155 : Fun Tryz.prog 155 Tryz.f155 := ⟨Tryz.func155⟩
instance cal156 : Cal Tryz.prog 156 := ⟨Tryz.call156⟩
instance fun156 : Fun Tryz.prog 156 Tryz.f156 := ⟨Tryz.func156⟩
instance cal157 : Cal Tryz.prog 157 := ⟨Tryz.call157⟩
instance fun157 : Fun Tryz.prog 157 Tryz.f157 := ⟨Tryz.func157⟩
instance cal158 : Cal Tryz.prog 158 := ⟨Tryz.call158⟩
instance fun158 : Fun Tryz.prog 158 Tryz.f158 := ⟨Tryz.func158⟩
instance cal159 : Cal Tryz.prog 159 := ⟨Tryz.call159⟩
instance fun159 : Fun Tryz.prog 159 Tryz.f159 := ⟨Tryz.func159⟩
instance cal160 : Cal Tryz.prog 160 := ⟨Tryz.call160⟩
instance fun160 : Fun Tryz.prog 160 Tryz.f160 := ⟨Tryz.func160⟩
instance cal161 : Cal Tryz.prog 161 := ⟨Tryz.call161⟩
instance fun161 : Fun Tryz.prog 161 Tryz.f161 := ⟨Tryz.func161⟩
instance cal162 : Cal Tryz.prog 162 := ⟨Tryz.call162⟩
instance fun162 : Fun Tryz.prog 162 Tryz.f162 := ⟨Tryz.func162⟩
instance cal163 : Cal Tryz.prog 163 := ⟨Tryz.call163⟩
instance fun163 : Fun Tryz.prog 163 Tryz.f163 := ⟨Tryz.func163⟩
instance cal164 : Cal Tryz.prog 164 := ⟨Tryz.call164⟩
instance fun164 : Fun Tryz.prog 164 Tryz.f164 := ⟨Tryz.func164⟩
instance cal165 : Cal Tryz.prog 165 := ⟨Tryz.call165⟩
instance fun165 : Fun Tryz.prog 165 Tryz.f165 := ⟨Tryz.func165⟩
instance cal166 : Cal Tryz.prog 166 := ⟨Tryz.call166⟩
instance fun166 : Fun Tryz.prog 166 Tryz.f166 := ⟨Tryz.func166⟩
instance cal167 : Cal Tryz.prog 167 := ⟨Tryz.call167⟩
instance fun167 : Fun Tryz.prog 167 Tryz.f167 := ⟨Tryz.func167⟩
instance cal168 : Cal Tryz.prog 168 := ⟨Tryz.call168⟩
instance fun168 : Fun Tryz.prog 168 Tryz.f168 := ⟨Tryz.func168⟩
instance cal169 : Cal Tryz.prog 169 := ⟨Tryz.call169⟩
instance fun169 : Fun Tryz.prog 169 Tryz.f169 := ⟨Tryz.func169⟩
instance cal170 : Cal Tryz.prog 170 := ⟨Tryz.call170⟩
instance fun170 : Fun Tryz.prog 170 Tryz.f170 := ⟨Tryz.func170⟩
instance cal171 : Cal Tryz.prog 171 := ⟨Tryz.call171⟩
instance fun171 : Fun Tryz.prog 171 Tryz.f171 := ⟨Tryz.func171⟩
instance cal172 : Cal Tryz.prog 172 := ⟨Tryz.call172⟩
instance fun172 : Fun Tryz.prog 172 Tryz.f172 := ⟨Tryz.func172⟩
instance cal173 : Cal Tryz.prog 173 := ⟨Tryz.call173⟩
instance fun173 : Fun Tryz.prog 173 Tryz.f173 := ⟨Tryz.func173⟩
instance cal174 : Cal Tryz.prog 174 := ⟨Tryz.call174⟩
instance fun174 : Fun Tryz.prog 174 Tryz.f174 := ⟨Tryz.func174⟩
instance cal175 : Cal Tryz.prog 175 := ⟨Tryz.call175⟩
instance fun175 : Fun Tryz.prog 175 Tryz.f175 := ⟨Tryz.func175⟩
instance cal176 : Cal Tryz.prog 176 := ⟨Tryz.call176⟩
instance fun176 : Fun Tryz.prog 176 Tryz.f176 := ⟨Tryz.func176⟩
instance cal177 : Cal Tryz.prog 177 := ⟨Tryz.call177⟩
instance fun177 : Fun Tryz.prog 177 Tryz.f177 := ⟨Tryz.func177⟩
instance cal178 : Cal Tryz.prog 178 := ⟨Tryz.call178⟩
instance fun178 : Fun Tryz.prog 178 Tryz.f178 := ⟨Tryz.func178⟩
instance cal179 : Cal Tryz.prog 179 := ⟨Tryz.call179⟩
instance fun179 : Fun Tryz.prog 179 Tryz.f179 := ⟨Tryz.func179⟩
instance cal180 : Cal Tryz.prog 180 := ⟨Tryz.call180⟩
instance fun180 : Fun Tryz.prog 180 Tryz.f180 := ⟨Tryz.func180⟩
instance cal181 : Cal Tryz.prog 181 := ⟨Tryz.call181⟩
instance fun181 : Fun Tryz.prog 181 Tryz.f181 := ⟨Tryz.func181⟩
instance cal182 : Cal Tryz.prog 182 := ⟨Tryz.call182⟩
instance fun182 : Fun Tryz.prog 182 Tryz.f182 := ⟨Tryz.func182⟩
instance cal183 : Cal Tryz.prog 183 := ⟨Tryz.call183⟩
instance fun183 : Fun Tryz.prog 183 Tryz.f183 := ⟨Tryz.func183⟩
instance cal184 : Cal Tryz.prog 184 := ⟨Tryz.call184⟩
instance fun184 : Fun Tryz.prog 184 Tryz.f184 := ⟨Tryz.func184⟩
instance cal187 : Cal Tryz.prog 187 := ⟨Tryz.call187⟩
instance fun187 : Fun Tryz.prog 187 Tryz.f187 := ⟨Tryz.func187⟩
instance cal188 : Cal Tryz.prog 188 := ⟨Tryz.call188⟩
instance fun188 : Fun Tryz.prog 188 Tryz.f188 := ⟨Tryz.func188⟩
instance cal189 : Cal Tryz.prog 189 := ⟨Tryz.call189⟩
instance fun189 : Fun Tryz.prog 189 Tryz.f189 := ⟨Tryz.func189⟩
instance cal190 : Cal Tryz.prog 190 := ⟨Tryz.call190⟩
instance fun190 : Fun Tryz.prog 190 Tryz.f190 := ⟨Tryz.func190⟩
instance cal191 : Cal Tryz.prog 191 := ⟨Tryz.call191⟩
instance fun191 : Fun Tryz.prog 191 Tryz.f191 := ⟨Tryz.func191⟩
instance cal192 : Cal Tryz.prog 192 := ⟨Tryz.call192⟩
instance fun192 : Fun Tryz.prog 192 Tryz.f192 := ⟨Tryz.func192⟩
instance cal193 : Cal Tryz.prog 193 := ⟨Tryz.call193⟩
instance fun193 : Fun Tryz.prog 193 Tryz.f193 := ⟨Tryz.func193⟩
instance cal194 : Cal Tryz.prog 194 := ⟨Tryz.call194⟩
instance fun194 : Fun Tryz.prog 194 Tryz.f194 := ⟨Tryz.func194⟩
instance cal195 : Cal Tryz.prog 195 := ⟨Tryz.call195⟩
instance fun195 : Fun Tryz.prog 195 Tryz.f195 := ⟨Tryz.func195⟩
instance cal196 : Cal Tryz.prog 196 := ⟨Tryz.call196⟩
instance fun196 : Fun Tryz.prog 196 Tryz.f196 := ⟨Tryz.func196⟩
instance cal197 : Cal Tryz.prog 197 := ⟨Tryz.call197⟩
instance fun197 : Fun Tryz.prog 197 Tryz.f197 := ⟨Tryz.func197⟩
instance cal198 : Cal Tryz.prog 198 := ⟨Tryz.call198⟩
instance fun198 : Fun Tryz.prog 198 Tryz.f198 := ⟨Tryz.func198⟩
instance cal199 : Cal Tryz.prog 199 := ⟨Tryz.call199⟩
instance fun199 : Fun Tryz.prog 199 Tryz.f199 := ⟨Tryz.func199⟩
instance cal200 : Cal Tryz.prog 200 := ⟨Tryz.call200⟩
instance fun200 : Fun Tryz.prog 200 Tryz.f200 := ⟨Tryz.func200⟩
instance cal201 : Cal Tryz.prog 201 := ⟨Tryz.call201⟩
instance fun201 : Fun Tryz.prog 201 Tryz.f201 := ⟨Tryz.func201⟩
instance cal202 : Cal Tryz.prog 202 := ⟨Tryz.call202⟩
instance fun202 : Fun Tryz.prog 202 Tryz.f202 := ⟨Tryz.func202⟩
instance cal203 : Cal Tryz.prog 203 := ⟨Tryz.call203⟩
instance fun203 : Fun Tryz.prog 203 Tryz.f203 := ⟨Tryz.func203⟩
instance cal204 : Cal Tryz.prog 204 := ⟨Tryz.call204⟩
instance fun204 : Fun Tryz.prog 204 Tryz.f204 := ⟨Tryz.func204⟩
instance cal205 : Cal Tryz.prog 205 := ⟨Tryz.call205⟩
instance fun205 : Fun Tryz.prog 205 Tryz.f205 := ⟨Tryz.func205⟩
instance cal206 : Cal Tryz.prog 206 := ⟨Tryz.call206⟩
instance fun206 : Fun Tryz.prog 206 Tryz.f206 := ⟨Tryz.func206⟩
instance cal222 : Cal Tryz.prog 222 := ⟨Tryz.call222⟩
instance fun222 : Fun Tryz.prog 222 Tryz.f222 := ⟨Tryz.func222⟩
instance cal223 : Cal Tryz.prog 223 := ⟨Tryz.call223⟩
instance fun223 : Fun Tryz.prog 223 Tryz.f223 := ⟨Tryz.func223⟩
instance cal224 : Cal Tryz.prog 224 := ⟨Tryz.call224⟩
instance fun224 : Fun Tryz.prog 224 Tryz.f224 := ⟨Tryz.func224⟩
instance cal225 : Cal Tryz.prog 225 := ⟨Tryz.call225⟩
instance fun225 : Fun Tryz.prog 225 Tryz.f225 := ⟨Tryz.func225⟩
instance cal226 : Cal Tryz.prog 226 := ⟨Tryz.call226⟩
instance fun226 : Fun Tryz.prog 226 Tryz.f226 := ⟨Tryz.func226⟩
instance cal227 : Cal Tryz.prog 227 := ⟨Tryz.call227⟩
instance fun227 : Fun Tryz.prog 227 Tryz.f227 := ⟨Tryz.func227⟩
instance cal229 : Cal Tryz.prog 229 := ⟨Tryz.call229⟩
instance fun229 : Fun Tryz.prog 229 Tryz.f229 := ⟨Tryz.func229⟩
instance cal231 : Cal Tryz.prog 231 := ⟨Tryz.call231⟩
instance fun231 : Fun Tryz.prog 231 Tryz.f231 := ⟨Tryz.func231⟩
instance cal232 : Cal Tryz.prog 232 := ⟨Tryz.call232⟩
instance fun232 : Fun Tryz.prog 232 Tryz.f232 := ⟨Tryz.func232⟩
instance cal233 : Cal Tryz.prog 233 := ⟨Tryz.call233⟩
instance fun233 : Fun Tryz.prog 233 Tryz.f233 := ⟨Tryz.func233⟩
instance cal234 : Cal Tryz.prog 234 := ⟨Tryz.call234⟩
instance fun234 : Fun Tryz.prog 234 Tryz.f234 := ⟨Tryz.func234⟩
instance cal235 : Cal Tryz.prog 235 := ⟨Tryz.call235⟩
instance fun235 : Fun Tryz.prog 235 Tryz.f235 := ⟨Tryz.func235⟩
instance cal236 : Cal Tryz.prog 236 := ⟨Tryz.call236⟩
instance fun236 : Fun Tryz.prog 236 Tryz.f236 := ⟨Tryz.func236⟩
instance cal237 : Cal Tryz.prog 237 := ⟨Tryz.call237⟩
instance fun237 : Fun Tryz.prog 237 Tryz.f237 := ⟨Tryz.func237⟩
instance cal238 : Cal Tryz.prog 238 := ⟨Tryz.call238⟩
instance fun238 : Fun Tryz.prog 238 Tryz.f238 := ⟨Tryz.func238⟩
instance cal240 : Cal Tryz.prog 240 := ⟨Tryz.call240⟩
instance fun240 : Fun Tryz.prog 240 Tryz.f240 := ⟨Tryz.func240⟩
instance cal241 : Cal Tryz.prog 241 := ⟨Tryz.call241⟩
instance fun241 : Fun Tryz.prog 241 Tryz.f241 := ⟨Tryz.func241⟩
instance cal243 : Cal Tryz.prog 243 := ⟨Tryz.call243⟩
instance fun243 : Fun Tryz.prog 243 Tryz.f243 := ⟨Tryz.func243⟩
instance cal244 : Cal Tryz.prog 244 := ⟨Tryz.call244⟩
instance fun244 : Fun Tryz.prog 244 Tryz.f244 := ⟨Tryz.func244⟩
instance cal245 : Cal Tryz.prog 245 := ⟨Tryz.call245⟩
instance fun245 : Fun Tryz.prog 245 Tryz.f245 := ⟨Tryz.func245⟩
instance cal247 : Cal Tryz.prog 247 := ⟨Tryz.call247⟩
instance fun247 : Fun Tryz.prog 247 Tryz.f247 := ⟨Tryz.func247⟩
instance cal248 : Cal Tryz.prog 248 := ⟨Tryz.call248⟩
instance fun248 : Fun Tryz.prog 248 Tryz.f248 := ⟨Tryz.func248⟩
instance cal250 : Cal Tryz.prog 250 := ⟨Tryz.call250⟩
instance fun250 : Fun Tryz.prog 250 Tryz.f250 := ⟨Tryz.func250⟩
instance cal251 : Cal Tryz.prog 251 := ⟨Tryz.call251⟩
instance fun251 : Fun Tryz.prog 251 Tryz.f251 := ⟨Tryz.func251⟩
instance cal252 : Cal Tryz.prog 252 := ⟨Tryz.call252⟩
instance fun252 : Fun Tryz.prog 252 Tryz.f252 := ⟨Tryz.func252⟩
instance cal254 : Cal Tryz.prog 254 := ⟨Tryz.call254⟩
instance fun254 : Fun Tryz.prog 254 Tryz.f254 := ⟨Tryz.func254⟩
instance cal255 : Cal Tryz.prog 255 := ⟨Tryz.call255⟩
instance fun255 : Fun Tryz.prog 255 Tryz.f255 := ⟨Tryz.func255⟩
instance cal257 : Cal Tryz.prog 257 := ⟨Tryz.call257⟩
instance fun257 : Fun Tryz.prog 257 Tryz.f257 := ⟨Tryz.func257⟩
instance cal258 : Cal Tryz.prog 258 := ⟨Tryz.call258⟩
instance fun258 : Fun Tryz.prog 258 Tryz.f258 := ⟨Tryz.func258⟩
instance cal260 : Cal Tryz.prog 260 := ⟨Tryz.call260⟩
instance fun260 : Fun Tryz.prog 260 Tryz.f260 := ⟨Tryz.func260⟩
instance cal263 : Cal Tryz.prog 263 := ⟨Tryz.call263⟩
instance fun263 : Fun Tryz.prog 263 Tryz.f263 := ⟨Tryz.func263⟩
instance cal264 : Cal Tryz.prog 264 := ⟨Tryz.call264⟩
instance fun264 : Fun Tryz.prog 264 Tryz.f264 := ⟨Tryz.func264⟩
instance cal266 : Cal Tryz.prog 266 := ⟨Tryz.call266⟩
instance fun266 : Fun Tryz.prog 266 Tryz.f266 := ⟨Tryz.func266⟩
instance cal267 : Cal Tryz.prog 267 := ⟨Tryz.call267⟩
instance fun267 : Fun Tryz.prog 267 Tryz.f267 := ⟨Tryz.func267⟩
instance cal268 : Cal Tryz.prog 268 := ⟨Tryz.call268⟩
instance fun268 : Fun Tryz.prog 268 Tryz.f268 := ⟨Tryz.func268⟩
instance cal269 : Cal Tryz.prog 269 := ⟨Tryz.call269⟩
instance fun269 : Fun Tryz.prog 269 Tryz.f269 := ⟨Tryz.func269⟩
instance cal270 : Cal Tryz.prog 270 := ⟨Tryz.call270⟩
instance fun270 : Fun Tryz.prog 270 Tryz.f270 := ⟨Tryz.func270⟩
instance cal271 : Cal Tryz.prog 271 := ⟨Tryz.call271⟩
instance fun271 : Fun Tryz.prog 271 Tryz.f271 := ⟨Tryz.func271⟩
instance cal272 : Cal Tryz.prog 272 := ⟨Tryz.call272⟩
instance fun272 : Fun Tryz.prog 272 Tryz.f272 := ⟨Tryz.func272⟩
instance cal273 : Cal Tryz.prog 273 := ⟨Tryz.call273⟩
instance fun273 : Fun Tryz.prog 273 Tryz.f273 := ⟨Tryz.func273⟩
instance cal274 : Cal Tryz.prog 274 := ⟨Tryz.call274⟩
instance fun274 : Fun Tryz.prog 274 Tryz.f274 := ⟨Tryz.func274⟩
instance cal275 : Cal Tryz.prog 275 := ⟨Tryz.call275⟩
instance fun275 : Fun Tryz.prog 275 Tryz.f275 := ⟨Tryz.func275⟩
instance cal276 : Cal Tryz.prog 276 := ⟨Tryz.call276⟩
instance fun276 : Fun Tryz.prog 276 Tryz.f276 := ⟨Tryz.func276⟩
instance cal277 : Cal Tryz.prog 277 := ⟨Tryz.call277⟩
instance fun277 : Fun Tryz.prog 277 Tryz.f277 := ⟨Tryz.func277⟩
instance cal280 : Cal Tryz.prog 280 := ⟨Tryz.call280⟩
instance fun280 : Fun Tryz.prog 280 Tryz.f280 := ⟨Tryz.func280⟩
instance cal281 : Cal Tryz.prog 281 := ⟨Tryz.call281⟩
instance fun281 : Fun Tryz.prog 281 Tryz.f281 := ⟨Tryz.func281⟩
instance cal284 : Cal Tryz.prog 284 := ⟨Tryz.call284⟩
instance fun284 : Fun Tryz.prog 284 Tryz.f284 := ⟨Tryz.func284⟩
instance cal285 : Cal Tryz.prog 285 := ⟨Tryz.call285⟩
instance fun285 : Fun Tryz.prog 285 Tryz.f285 := ⟨Tryz.func285⟩
instance cal288 : Cal Tryz.prog 288 := ⟨Tryz.call288⟩
instance fun288 : Fun Tryz.prog 288 Tryz.f288 := ⟨Tryz.func288⟩
instance cal289 : Cal Tryz.prog 289 := ⟨Tryz.call289⟩
instance fun289 : Fun Tryz.prog 289 Tryz.f289 := ⟨Tryz.func289⟩
instance cal292 : Cal Tryz.prog 292 := ⟨Tryz.call292⟩
instance fun292 : Fun Tryz.prog 292 Tryz.f292 := ⟨Tryz.func292⟩
instance cal293 : Cal Tryz.prog 293 := ⟨Tryz.call293⟩
instance fun293 : Fun Tryz.prog 293 Tryz.f293 := ⟨Tryz.func293⟩
instance cal296 : Cal Tryz.prog 296 := ⟨Tryz.call296⟩
instance fun296 : Fun Tryz.prog 296 Tryz.f296 := ⟨Tryz.func296⟩
instance cal297 : Cal Tryz.prog 297 := ⟨Tryz.call297⟩
instance fun297 : Fun Tryz.prog 297 Tryz.f297 := ⟨Tryz.func297⟩
instance cal300 : Cal Tryz.prog 300 := ⟨Tryz.call300⟩
instance fun300 : Fun Tryz.prog 300 Tryz.f300 := ⟨Tryz.func300⟩
instance cal301 : Cal Tryz.prog 301 := ⟨Tryz.call301⟩
instance fun301 : Fun Tryz.prog 301 Tryz.f301 := ⟨Tryz.func301⟩
instance cal304 : Cal Tryz.prog 304 := ⟨Tryz.call304⟩
instance fun304 : Fun Tryz.prog 304 Tryz.f304 := ⟨Tryz.func304⟩
instance cal305 : Cal Tryz.prog 305 := ⟨Tryz.call305⟩
instance fun305 : Fun Tryz.prog 305 Tryz.f305 := ⟨Tryz.func305⟩
instance cal307 : Cal Tryz.prog 307 := ⟨Tryz.call307⟩
instance fun307 : Fun Tryz.prog 307 Tryz.f307 := ⟨Tryz.func307⟩
instance cal308 : Cal Tryz.prog 308 := ⟨Tryz.call308⟩
instance fun308 : Fun Tryz.prog 308 Tryz.f308 := ⟨Tryz.func308⟩
instance cal309 : Cal Tryz.prog 309 := ⟨Tryz.call309⟩
instance fun309 : Fun Tryz.prog 309 Tryz.f309 := ⟨Tryz.func309⟩
instance cal311 : Cal Tryz.prog 311 := ⟨Tryz.call311⟩
instance fun311 : Fun Tryz.prog 311 Tryz.f311 := ⟨Tryz.func311⟩
instance cal313 : Cal Tryz.prog 313 := ⟨Tryz.call313⟩
instance fun313 : Fun Tryz.prog 313 Tryz.f313 := ⟨Tryz.func313⟩
instance cal314 : Cal Tryz.prog 314 := ⟨Tryz.call314⟩
instance fun314 : Fun Tryz.prog 314 Tryz.f314 := ⟨Tryz.func314⟩
instance cal315 : Cal Tryz.prog 315 := ⟨Tryz.call315⟩
instance fun315 : Fun Tryz.prog 315 Tryz.f315 := ⟨Tryz.func315⟩
instance cal316 : Cal Tryz.prog 316 := ⟨Tryz.call316⟩
instance fun316 : Fun Tryz.prog 316 Tryz.f316 := ⟨Tryz.func316⟩
instance cal317 : Cal Tryz.prog 317 := ⟨Tryz.call317⟩
instance fun317 : Fun Tryz.prog 317 Tryz.f317 := ⟨Tryz.func317⟩
instance cal318 : Cal Tryz.prog 318 := ⟨Tryz.call318⟩
instance fun318 : Fun Tryz.prog 318 Tryz.f318 := ⟨Tryz.func318⟩
instance cal319 : Cal Tryz.prog 319 := ⟨Tryz.call319⟩
instance fun319 : Fun Tryz.prog 319 Tryz.f319 := ⟨Tryz.func319⟩
instance cal320 : Cal Tryz.prog 320 := ⟨Tryz.call320⟩
instance fun320 : Fun Tryz.prog 320 Tryz.f320 := ⟨Tryz.func320⟩
instance cal321 : Cal Tryz.prog 321 := ⟨Tryz.call321⟩
instance fun321 : Fun Tryz.prog 321 Tryz.f321 := ⟨Tryz.func321⟩
instance cal324 : Cal Tryz.prog 324 := ⟨Tryz.call324⟩
instance fun324 : Fun Tryz.prog 324 Tryz.f324 := ⟨Tryz.func324⟩
instance cal325 : Cal Tryz.prog 325 := ⟨Tryz.call325⟩
instance fun325 : Fun Tryz.prog 325 Tryz.f325 := ⟨Tryz.func325⟩
instance cal328 : Cal Tryz.prog 328 := ⟨Tryz.call328⟩
instance fun328 : Fun Tryz.prog 328 Tryz.f328 := ⟨Tryz.func328⟩
instance cal329 : Cal Tryz.prog 329 := ⟨Tryz.call329⟩
instance fun329 : Fun Tryz.prog 329 Tryz.f329 := ⟨Tryz.func329⟩
instance cal331 : Cal Tryz.prog 331 := ⟨Tryz.call331⟩
instance fun331 : Fun Tryz.prog 331 Tryz.f331 := ⟨Tryz.func331⟩
instance cal332 : Cal Tryz.prog 332 := ⟨Tryz.call332⟩
instance fun332 : Fun Tryz.prog 332 Tryz.f332 := ⟨Tryz.func332⟩
instance cal338 : Cal Tryz.prog 338 := ⟨Tryz.call338⟩
instance fun338 : Fun Tryz.prog 338 Tryz.f338 := ⟨Tryz.func338⟩
instance cal340 : Cal Tryz.prog 340 := ⟨Tryz.call340⟩
instance fun340 : Fun Tryz.prog 340 Tryz.f340 := ⟨Tryz.func340⟩
instance cal342 : Cal Tryz.prog 342 := ⟨Tryz.call342⟩
instance fun342 : Fun Tryz.prog 342 Tryz.f342 := ⟨Tryz.func342⟩
instance cal344 : Cal Tryz.prog 344 := ⟨Tryz.call344⟩
instance fun344 : Fun Tryz.prog 344 Tryz.f344 := ⟨Tryz.func344⟩
instance cal347 : Cal Tryz.prog 347 := ⟨Tryz.call347⟩
instance fun347 : Fun Tryz.prog 347 Tryz.f347 := ⟨Tryz.func347⟩
instance cal348 : Cal Tryz.prog 348 := ⟨Tryz.call348⟩
instance fun348 : Fun Tryz.prog 348 Tryz.f348 := ⟨Tryz.func348⟩
instance cal360 : Cal Tryz.prog 360 := ⟨Tryz.call360⟩
instance fun360 : Fun Tryz.prog 360 Tryz.f360 := ⟨Tryz.func360⟩
instance meth36_223 : Meth Tryz.prog 36 "PrintHTML" 223 := ⟨fun v w => by kernel_rfl⟩
instance meth67_225 : Meth Tryz.prog 67 "pub-paratext/pub/rscmarkdown.build" 225 := ⟨fun v w => by kernel_rfl⟩
instance meth67_226 : Meth Tryz.prog 67 "pub-paratext/pub/rscmarkdown.extend" 226 := ⟨fun v w => by kernel_rfl⟩
instance meth75_227 : Meth Tryz.prog 75 "PrintHTML" 227 := ⟨fun v w => by kernel_rfl⟩
instance meth81_229 : Meth Tryz.prog 81 "PrintHTML" 229 := ⟨fun v w => by kernel_rfl⟩
instance meth83_237 : Meth Tryz.prog 83 "pub-paratext/pub/rscmarkdown.blocks" 237 := ⟨fun v w => by kernel_rfl⟩
instance meth83_347 : Meth Tryz.prog 83 "pub-paratext/pub/rscmarkdown.defineLink" 347 := ⟨fun v w => by kernel_rfl⟩
instance meth83_348 : Meth Tryz.prog 83 "pub-paratext/pub/rscmarkdown.link" 348 := ⟨fun v w => by kernel_rfl⟩
instance meth83_107 : Meth Tryz.prog 83 "pub-paratext/pub/rscmarkdown.newText" 107 := ⟨fun v w => by kernel_rfl⟩
instance meth83_238 : Meth Tryz.prog 83 "pub-paratext/pub/rscmarkdown.pos" 238 := ⟨fun v w => by kernel_rfl⟩
instance meth107_247 : Meth Tryz.prog 107 "PrintHTML" 247 := ⟨fun v w => by kernel_rfl⟩
instance meth107_248 : Meth Tryz.prog 107 "PrintText" 248 := ⟨fun v w => by kernel_rfl⟩
instance meth113_254 : Meth Tryz.prog 113 "PrintHTML" 254 := ⟨fun v w => by kernel_rfl⟩
instance meth113_255 : Meth Tryz.prog 113 "PrintText" 255 := ⟨fun v w => by kernel_rfl⟩
instance meth117_258 : Meth Tryz.prog 117 "PrintHTML" 258 := ⟨fun v w => by kernel_rfl⟩
instance meth120_260 : Meth Tryz.prog 120 "PrintHTML" 260 := ⟨fun v w => by kernel_rfl⟩
instance meth123_240 : Meth Tryz.prog 123 "PrintHTML" 240 := ⟨fun v w => by kernel_rfl⟩
instance meth123_241 : Meth Tryz.prog 123 "PrintText" 241 := ⟨fun v w => by kernel_rfl⟩
instance meth125_263 : Meth Tryz.prog 125 "PrintHTML" 263 := ⟨fun v w => by kernel_rfl⟩
instance meth125_264 : Meth Tryz.prog 125 "PrintText" 264 := ⟨fun v w => by kernel_rfl⟩
instance meth129_266 : Meth Tryz.prog 129 "pub-paratext/pub/rscmarkdown.build" 266 := ⟨fun v w => by kernel_rfl⟩
instance meth129_267 : Meth Tryz.prog 129 "pub-paratext/pub/rscmarkdown.extend" 267 := ⟨fun v w => by kernel_rfl⟩
instance meth148_280 : Meth Tryz.prog 148 "PrintHTML" 280 := ⟨fun v w => by kernel_rfl⟩
instance meth148_281 : Meth Tryz.prog 148 "PrintText" 281 := ⟨fun v w => by kernel_rfl⟩
instance meth151_284 : Meth Tryz.prog 151 "PrintHTML" 284 := ⟨fun v w => by kernel_rfl⟩
instance meth151_285 : Meth Tryz.prog 151 "PrintText" 285 := ⟨fun v w => by kernel_rfl⟩
instance meth162_288 : Meth Tryz.prog 162 "PrintHTML" 288 := ⟨fun v w => by kernel_rfl⟩
instance meth162_289 : Meth Tryz.prog 162 "PrintText" 289 := ⟨fun v w => by kernel_rfl⟩
instance meth172_292 : Meth Tryz.prog 172 "PrintHTML" 292 := ⟨fun v w => by kernel_rfl⟩
instance meth172_293 : Meth Tryz.prog 172 "PrintText" 293 := ⟨fun v w => by kernel_rfl⟩
instance meth187_296 : Meth Tryz.prog 187 "PrintHTML" 296 := ⟨fun v w => by kernel_rfl⟩
instance meth187_297 : Meth Tryz.prog 187 "PrintText" 297 := ⟨fun v w => by kernel_rfl⟩
instance meth190_300 : Meth Tryz.prog 190 "PrintHTML" 300 := ⟨fun v w => by kernel_rfl⟩
instance meth190_301 : Meth Tryz.prog 190 "PrintText" 301 := ⟨fun v w => by kernel_rfl⟩
instance meth191_304 : Meth Tryz.prog 191 "PrintHTML" 304 := ⟨fun v w => by kernel_rfl⟩
instance meth191_305 : Meth Tryz.prog 191 "PrintText" 305 := ⟨fun v w => by kernel_rfl⟩
instance meth197_307 : Meth Tryz.prog 197 "pub-paratext/pub/rscmarkdown.build" 307 := ⟨fun v w => by kernel_rfl⟩
instance meth197_308 : Meth Tryz.prog 197 "pub-paratext/pub/rscmarkdown.extend" 308 := ⟨fun v w => by kernel_rfl⟩
instance meth205_309 : Meth Tryz.prog 205 "PrintHTML" 309 := ⟨fun v w => by kernel_rfl⟩
instance meth212_311 : Meth Tryz.prog 212 "PrintHTML" 311 := ⟨fun v w => by kernel_rfl⟩
instance meth215_313 : Meth Tryz.prog 215 "pub-paratext/pub/rscmarkdown.build" 313 := ⟨fun v w => by kernel_rfl⟩
instance meth215_314 : Meth Tryz.prog 215 "pub-paratext/pub/rscmarkdown.extend" 314 := ⟨fun v w => by kernel_rfl⟩
instance meth217_315 : Meth Tryz.prog 217 "pub-paratext/pub/rscmarkdown.build" 315 := ⟨fun v w => by kernel_rfl⟩
instance meth217_316 : Meth Tryz.prog 217 "pub-paratext/pub/rscmarkdown.extend" 316 := ⟨fun v w => by kernel_rfl⟩
instance meth224_317 : Meth Tryz.prog 224 "pub-paratext/pub/rscmarkdown.build" 317 := ⟨fun v w => by kernel_rfl⟩
instance meth224_318 : Meth Tryz.prog 224 "pub-paratext/pub/rscmarkdown.extend" 318 := ⟨fun v w => by kernel_rfl⟩
instance meth228_319 : Meth Tryz.prog 228 "pub-paratext/pub/rscmarkdown.build" 319 := ⟨fun v w => by kernel_rfl⟩
instance meth228_320 : Meth Tryz.prog 228 "pub-paratext/pub/rscmarkdown.extend" 320 := ⟨fun v w => by kernel_rfl⟩
instance meth234_321 : Meth Tryz.prog 234 "PrintHTML" 321 := ⟨fun v w => by kernel_rfl⟩
instance meth235_324 : Meth Tryz.prog 235 "PrintHTML" 324 := ⟨fun v w => by kernel_rfl⟩
instance meth235_325 : Meth Tryz.prog 235 "PrintText" 325 := ⟨fun v w => by kernel_rfl⟩
instance meth263_328 : Meth Tryz.prog 263 "pub-paratext/pub/rscmarkdown.build" 328 := ⟨fun v w => by kernel_rfl⟩
instance meth263_329 : Meth Tryz.prog 263 "pub-paratext/pub/rscmarkdown.extend" 329 := ⟨fun v w => by kernel_rfl⟩
instance meth267_331 : Meth Tryz.prog 267 "PrintHTML" 331 := ⟨fun v w => by kernel_rfl⟩
instance meth267_332 : Meth Tryz.prog 267 "PrintText" 332 := ⟨fun v w => by kernel_rfl⟩
instance meth345_338 : Meth Tryz.prog 345 "PrintHTML" 338 := ⟨fun v w => by kernel_rfl⟩
instance meth348_340 : Meth Tryz.prog 348 "PrintHTML" 340 := ⟨fun v w => by kernel_rfl⟩
instance meth357_342 : Meth Tryz.prog 357 "PrintHTML" 342 := ⟨fun v w => by kernel_rfl⟩
instance meth362_344 : Meth Tryz.prog 362 "PrintHTML" 344 := ⟨fun v w => by kernel_rfl⟩
theorem info36 : Tryz.prog.info? 36 = some Tryz.t36 := by kernel_rfl
instance cmp36 : CmpPtr Tryz.prog 36 := ⟨⟨_, _, _, Tryz.underlying36, info36, rfl, Tryz.sizeOf331, by decide⟩⟩
theorem info75 : Tryz.prog.info? 75 = some Tryz.t75 := by kernel_rfl
instance cmp75 : CmpPtr Tryz.prog 75 := ⟨⟨_, _, _, Tryz.underlying75, info75, rfl, Tryz.sizeOf80, by decide⟩⟩
theorem info81 : Tryz.prog.info? 81 = some Tryz.t81 := by kernel_rfl
instance cmp81 : CmpPtr Tryz.prog 81 := ⟨⟨_, _, _, Tryz.underlying81, info81, rfl, Tryz.sizeOf116, by decide⟩⟩
theorem info83 : Tryz.prog.info? 83 = some Tryz.t83 := by kernel_rfl
instance cmp83 : CmpPtr Tryz.prog 83 := ⟨⟨_, _, _, Tryz.underlying83, info83, rfl, Tryz.sizeOf63, by decide⟩⟩
theorem info101 : Tryz.prog.info? 101 = some Tryz.t101 := by kernel_rfl
instance cmp101 : CmpPtr Tryz.prog 101 := ⟨⟨_, _, _, Tryz.underlying101, info101, rfl, Tryz.sizeOf106, by decide⟩⟩
theorem info107 : Tryz.prog.info? 107 = some Tryz.t107 := by kernel_rfl
instance cmp107 : CmpPtr Tryz.prog 107 := ⟨⟨_, _, _, Tryz.underlying107, info107, rfl, Tryz.sizeOf111, by decide⟩⟩
theorem info113 : Tryz.prog.info? 113 = some Tryz.t113 := by kernel_rfl
instance cmp113 : CmpPtr Tryz.prog 113 := ⟨⟨_, _, _, Tryz.underlying113, info113, rfl, Tryz.sizeOf341, by decide⟩⟩
theorem info117 : Tryz.prog.info? 117 = some Tryz.t117 := by kernel_rfl
instance cmp117 : CmpPtr Tryz.prog 117 := ⟨⟨_, _, _, Tryz.underlying117, info117, rfl, Tryz.sizeOf119, by decide⟩⟩
theorem info120 : Tryz.prog.info? 120 = some Tryz.t120 := by kernel_rfl
instance cmp120 : CmpPtr Tryz.prog 120 := ⟨⟨_, _, _, Tryz.underlying120, info120, rfl, Tryz.sizeOf122, by decide⟩⟩
theorem info123 : Tryz.prog.info? 123 = some Tryz.t123 := by kernel_rfl
instance cmp123 : CmpPtr Tryz.prog 123 := ⟨⟨_, _, _, Tryz.underlying123, info123, rfl, Tryz.sizeOf104, by decide⟩⟩
theorem info125 : Tryz.prog.info? 125 = some Tryz.t125 := by kernel_rfl
instance cmp125 : CmpPtr Tryz.prog 125 := ⟨⟨_, _, _, Tryz.underlying125, info125, rfl, Tryz.sizeOf127, by decide⟩⟩
theorem info129 : Tryz.prog.info? 129 = some Tryz.t129 := by kernel_rfl
instance cmp129 : CmpPtr Tryz.prog 129 := ⟨⟨_, _, _, Tryz.underlying129, info129, rfl, Tryz.sizeOf134, by decide⟩⟩
theorem info145 : Tryz.prog.info? 145 = some Tryz.t145 := by kernel_rfl
instance cmp145 : CmpPtr Tryz.prog 145 := ⟨⟨_, _, _, Tryz.underlying145, info145, rfl, Tryz.sizeOf147, by decide⟩⟩
theorem info151 : Tryz.prog.info? 151 = some Tryz.t151 := by kernel_rfl
instance cmp151 : CmpPtr Tryz.prog 151 := ⟨⟨_, _, _, Tryz.underlying151, info151, rfl, Tryz.sizeOf152, by decide⟩⟩
theorem info159 : Tryz.prog.info? 159 = some Tryz.t159 := by kernel_rfl
instance cmp159 : CmpPtr Tryz.prog 159 := ⟨⟨_, _, _, Tryz.underlying159, info159, rfl, Tryz.sizeOf161, by decide⟩⟩
theorem info172 : Tryz.prog.info? 172 = some Tryz.t172 := by kernel_rfl
instance cmp172 : CmpPtr Tryz.prog 172 := ⟨⟨_, _, _, Tryz.underlying172, info172, rfl, Tryz.sizeOf174, by decide⟩⟩
theorem info187 : Tryz.prog.info? 187 = some Tryz.t187 := by kernel_rfl
instance cmp187 : CmpPtr Tryz.prog 187 := ⟨⟨_, _, _, Tryz.underlying187, info187, rfl, Tryz.sizeOf189, by decide⟩⟩
theorem info190 : Tryz.prog.info? 190 = some Tryz.t190 := by kernel_rfl
instance cmp190 : CmpPtr Tryz.prog 190 := ⟨⟨_, _, _, Tryz.underlying190, info190, rfl, Tryz.sizeOf195, by decide⟩⟩
theorem info191 : Tryz.prog.info? 191 = some Tryz.t191 := by kernel_rfl
instance cmp191 : CmpPtr Tryz.prog 191 := ⟨⟨_, _, _, Tryz.underlying191, info191, rfl, Tryz.sizeOf194, by decide⟩⟩
theorem info205 : Tryz.prog.info? 205 = some Tryz.t205 := by kernel_rfl
instance cmp205 : CmpPtr Tryz.prog 205 := ⟨⟨_, _, _, Tryz.underlying205, info205, rfl, Tryz.sizeOf208, by decide⟩⟩
theorem info212 : Tryz.prog.info? 212 = some Tryz.t212 := by kernel_rfl
instance cmp212 : CmpPtr Tryz.prog 212 := ⟨⟨_, _, _, Tryz.underlying212, info212, rfl, Tryz.sizeOf214, by decide⟩⟩
theorem info215 : Tryz.prog.info? 215 = some Tryz.t215 := by kernel_rfl
instance cmp215 : CmpPtr Tryz.prog 215 := ⟨⟨_, _, _, Tryz.underlying215, info215, rfl, Tryz.sizeOf220, by decide⟩⟩
theorem info217 : Tryz.prog.info? 217 = some Tryz.t217 := by kernel_rfl
instance cmp217 : CmpPtr Tryz.prog 217 := ⟨⟨_, _, _, Tryz.underlying217, info217, rfl, Tryz.sizeOf262, by decide⟩⟩
theorem info224 : Tryz.prog.info? 224 = some Tryz.t224 := by kernel_rfl
instance cmp224 : CmpPtr Tryz.prog 224 := ⟨⟨_, _, _, Tryz.underlying224, info224, rfl, Tryz.sizeOf226, by decide⟩⟩
theorem info228 : Tryz.prog.info? 228 = some Tryz.t228 := by kernel_rfl
instance cmp228 : CmpPtr Tryz.prog 228 := ⟨⟨_, _, _, Tryz.underlying228, info228, rfl, Tryz.sizeOf230, by decide⟩⟩
theorem info234 : Tryz.prog.info? 234 = some Tryz.t234 := by kernel_rfl
instance cmp234 : CmpPtr Tryz.prog 234 := ⟨⟨_, _, _, Tryz.underlying234, info234, rfl, Tryz.sizeOf361, by decide⟩⟩
theorem info235 : Tryz.prog.info? 235 = some Tryz.t235 := by kernel_rfl
instance cmp235 : CmpPtr Tryz.prog 235 := ⟨⟨_, _, _, Tryz.underlying235, info235, rfl, Tryz.sizeOf237, by decide⟩⟩
theorem info263 : Tryz.prog.info? 263 = some Tryz.t263 := by kernel_rfl
instance cmp263 : CmpPtr Tryz.prog 263 := ⟨⟨_, _, _, Tryz.underlying263, info263, rfl, Tryz.sizeOf265, by decide⟩⟩
theorem info267 : Tryz.prog.info? 267 = some Tryz.t267 := by kernel_rfl
instance cmp267 : CmpPtr Tryz.prog 267 := ⟨⟨_, _, _, Tryz.underlying267, info267, rfl, Tryz.sizeOf268, by decide⟩⟩
theorem info286 : Tryz.prog.info? 286 = some Tryz.t286 := by kernel_rfl
instance cmp286 : CmpPtr Tryz.prog 286 := ⟨⟨_, _, _, Tryz.underlying286, info286, rfl, Tryz.sizeOf296, by decide⟩⟩
theorem info300 : Tryz.prog.info? 300 = some Tryz.t300 := by kernel_rfl
instance cmp300 : CmpPtr Tryz.prog 300 := ⟨⟨_, _, _, Tryz.underlying300, info300, rfl, Tryz.sizeOf302, by decide⟩⟩
theorem info345 : Tryz.prog.info? 345 = some Tryz.t345 := by kernel_rfl
instance cmp345 : CmpPtr Tryz.prog 345 := ⟨⟨_, _, _, Tryz.underlying345, info345, rfl, Tryz.sizeOf347, by decide⟩⟩
theorem info348 : Tryz.prog.info? 348 = some Tryz.t348 := by kernel_rfl
instance cmp348 : CmpPtr Tryz.prog 348 := ⟨⟨_, _, _, Tryz.underlying348, info348, rfl, Tryz.sizeOf351, by decide⟩⟩
theorem info357 : Tryz.prog.info? 357 = some Tryz.t357 := by kernel_rfl
instance cmp357 : CmpPtr Tryz.prog 357 := ⟨⟨_, _, _, Tryz.underlying357, info357, rfl, Tryz.sizeOf359, by decide⟩⟩
theorem info362 : Tryz.prog.info? 362 = some Tryz.t362 := by kernel_rfl
instance cmp362 : CmpPtr Tryz.prog 362 := ⟨⟨_, _, _, Tryz.underlying362, info362, rfl, Tryz.sizeOf364, by decide⟩⟩
theorem info5 : Tryz.prog.info? 5 = some Tryz.t5 := by kernel_rfl
instance elem40 : ElemI Tryz.prog 40 5 1 1 Tryz.t5 (Go.Value.int Go.IntKind.u8 0) := ⟨⟨Tryz.underlying40, info5, rfl, rfl, rfl, rfl, by decide⟩⟩
theorem info88 : Tryz.prog.info? 88 = some Tryz.t88 := by kernel_rfl
instance elem55 : ElemI Tryz.prog 55 88 4 56 Tryz.t88 (.agg ([Go.Value.nilIface, (Go.Value.slice (Option.none) 0 0), (Go.Value.int Go.IntKind.i64 0), (Go.Value.int Go.IntKind.i64 0)] : List Value).toArray) := ⟨⟨Tryz.underlying55, info88, rfl, rfl, rfl, rfl, by decide⟩⟩
theorem info99 : Tryz.prog.info? 99 = some Tryz.t99 := by kernel_rfl
instance elem56 : ElemI Tryz.prog 56 99 1 16 Tryz.t99 Go.Value.nilIface := ⟨⟨Tryz.underlying56, info99, rfl, rfl, rfl, rfl, by decide⟩⟩
instance elem57 : ElemI Tryz.prog 57 81 1 8 Tryz.t81 (Go.Value.pointer (Option.none)) := ⟨⟨Tryz.underlying57, info81, rfl, rfl, rfl, rfl, by decide⟩⟩
instance elem58 : ElemI Tryz.prog 58 75 1 8 Tryz.t75 (Go.Value.pointer (Option.none)) := ⟨⟨Tryz.underlying58, info75, rfl, rfl, rfl, rfl, by decide⟩⟩
theorem info42 : Tryz.prog.info? 42 = some Tryz.t42 := by kernel_rfl
instance elem86 : ElemI Tryz.prog 86 42 1 16 Tryz.t42 Go.Value.nilIface := ⟨⟨Tryz.underlying86, info42, rfl, rfl, rfl, rfl, by decide⟩⟩
theorem info3 : Tryz.prog.info? 3 = some Tryz.t3 := by kernel_rfl
instance elem96 : ElemI Tryz.prog 96 3 1 8 Tryz.t3 (Go.Value.int Go.IntKind.i64 0) := ⟨⟨Tryz.underlying96, info3, rfl, rfl, rfl, rfl, by decide⟩⟩
theorem info9 : Tryz.prog.info? 9 = some Tryz.t9 := by kernel_rfl
instance elem131 : ElemI Tryz.prog 131 9 1 16 Tryz.t9 (Go.Value.string ⟨([] : List UInt8).toArray⟩) := ⟨⟨Tryz.underlying131, info9, rfl, rfl, rfl, rfl, by decide⟩⟩
theorem info136 : Tryz.prog.info? 136 = some Tryz.t136 := by kernel_rfl
instance elem137 : ElemI Tryz.prog 137 136 1 16 Tryz.t136 (Go.Value.string ⟨([] : List UInt8).toArray⟩) := ⟨⟨Tryz.underlying137, info136, rfl, rfl, rfl, rfl, by decide⟩⟩
instance elem182 : ElemI Tryz.prog 182 159 1 8 Tryz.t159 (Go.Value.pointer (Option.none)) := ⟨⟨Tryz.underlying182, info159, rfl, rfl, rfl, rfl, by decide⟩⟩
end Go.Proofs
