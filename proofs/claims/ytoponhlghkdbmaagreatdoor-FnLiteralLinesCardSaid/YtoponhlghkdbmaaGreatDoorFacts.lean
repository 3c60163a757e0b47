/- The facts of the program's tables (kinds of types, sizes, zero values, places of fields, bodies of functions, methods) as the engine looks them up. No conditions. -/
import Derived.Test.YtoponhlghkdbmaaGreatDoorProg
import Derived.Test.YtoponhlghkdbmaaGreatDoorEngB
import Derived.KernelRfl
namespace Go.Proofs
open Go Go.Eng
instance mixed : Mixed Tryz.prog := ⟨by kernel_rfl⟩
instance uint2 : UInt Tryz.prog 2 Go.IntKind.i64 := ⟨Tryz.underlying2⟩
instance conc2 : Conc Tryz.prog 2 := ⟨⟨_, Tryz.underlying2, rfl⟩⟩
instance flat2 : Flat Tryz.prog 2 := ⟨⟨_, Tryz.underlying2, rfl⟩⟩
instance siz2 : Siz Tryz.prog 2 1 := ⟨Tryz.sizeOf2⟩
instance uint3 : UInt Tryz.prog 3 Go.IntKind.i64 := ⟨Tryz.underlying3⟩
instance conc3 : Conc Tryz.prog 3 := ⟨⟨_, Tryz.underlying3, rfl⟩⟩
instance flat3 : Flat Tryz.prog 3 := ⟨⟨_, Tryz.underlying3, rfl⟩⟩
instance siz3 : Siz Tryz.prog 3 1 := ⟨Tryz.sizeOf3⟩
instance conc4 : Conc Tryz.prog 4 := ⟨⟨_, Tryz.underlying4, rfl⟩⟩
instance flat4 : Flat Tryz.prog 4 := ⟨⟨_, Tryz.underlying4, rfl⟩⟩
instance siz4 : Siz Tryz.prog 4 1 := ⟨Tryz.sizeOf4⟩
instance uint5 : UInt Tryz.prog 5 Go.IntKind.u8 := ⟨Tryz.underlying5⟩
instance conc5 : Conc Tryz.prog 5 := ⟨⟨_, Tryz.underlying5, rfl⟩⟩
instance flat5 : Flat Tryz.prog 5 := ⟨⟨_, Tryz.underlying5, rfl⟩⟩
instance siz5 : Siz Tryz.prog 5 1 := ⟨Tryz.sizeOf5⟩
instance ustr9 : UStr Tryz.prog 9 := ⟨Tryz.underlying9⟩
instance conc9 : Conc Tryz.prog 9 := ⟨⟨_, Tryz.underlying9, rfl⟩⟩
instance flat9 : Flat Tryz.prog 9 := ⟨⟨_, Tryz.underlying9, rfl⟩⟩
instance siz9 : Siz Tryz.prog 9 1 := ⟨Tryz.sizeOf9⟩
instance uiface20 : UIface Tryz.prog 20 := ⟨⟨_, Tryz.underlying20⟩⟩
instance flat20 : Flat Tryz.prog 20 := ⟨⟨_, Tryz.underlying20, rfl⟩⟩
instance siz20 : Siz Tryz.prog 20 1 := ⟨Tryz.sizeOf20⟩
instance uint21 : UInt Tryz.prog 21 Go.IntKind.i32 := ⟨Tryz.underlying21⟩
instance conc21 : Conc Tryz.prog 21 := ⟨⟨_, Tryz.underlying21, rfl⟩⟩
instance flat21 : Flat Tryz.prog 21 := ⟨⟨_, Tryz.underlying21, rfl⟩⟩
instance siz21 : Siz Tryz.prog 21 1 := ⟨Tryz.sizeOf21⟩
instance conc23 : Conc Tryz.prog 23 := ⟨⟨_, Tryz.underlying23, rfl⟩⟩
instance ufunc23 : UFunc Tryz.prog 23 := ⟨⟨_, _, _, Tryz.underlying23⟩⟩
instance flat23 : Flat Tryz.prog 23 := ⟨⟨_, Tryz.underlying23, rfl⟩⟩
instance siz23 : Siz Tryz.prog 23 1 := ⟨Tryz.sizeOf23⟩
instance conc26 : Conc Tryz.prog 26 := ⟨⟨_, Tryz.underlying26, rfl⟩⟩
instance aggr26 : Aggr Tryz.prog 26 := ⟨⟨_, Tryz.underlying26, rfl⟩⟩
instance siz26 : Siz Tryz.prog 26 10 := ⟨Tryz.sizeOf26⟩
instance uslice28 : USlice Tryz.prog 28 9 := ⟨Tryz.underlying28⟩
instance conc28 : Conc Tryz.prog 28 := ⟨⟨_, Tryz.underlying28, rfl⟩⟩
instance flat28 : Flat Tryz.prog 28 := ⟨⟨_, Tryz.underlying28, rfl⟩⟩
instance siz28 : Siz Tryz.prog 28 1 := ⟨Tryz.sizeOf28⟩
instance uptr36 : UPtr Tryz.prog 36 330 := ⟨Tryz.underlying36⟩
instance conc36 : Conc Tryz.prog 36 := ⟨⟨_, Tryz.underlying36, rfl⟩⟩
instance flat36 : Flat Tryz.prog 36 := ⟨⟨_, Tryz.underlying36, rfl⟩⟩
instance siz36 : Siz Tryz.prog 36 1 := ⟨Tryz.sizeOf36⟩
instance uptr37 : UPtr Tryz.prog 37 58 := ⟨Tryz.underlying37⟩
instance conc37 : Conc Tryz.prog 37 := ⟨⟨_, Tryz.underlying37, rfl⟩⟩
instance flat37 : Flat Tryz.prog 37 := ⟨⟨_, Tryz.underlying37, rfl⟩⟩
instance siz37 : Siz Tryz.prog 37 1 := ⟨Tryz.sizeOf37⟩
instance uptr40 : UPtr Tryz.prog 40 43 := ⟨Tryz.underlying40⟩
instance conc40 : Conc Tryz.prog 40 := ⟨⟨_, Tryz.underlying40, rfl⟩⟩
instance flat40 : Flat Tryz.prog 40 := ⟨⟨_, Tryz.underlying40, rfl⟩⟩
instance siz40 : Siz Tryz.prog 40 1 := ⟨Tryz.sizeOf40⟩
instance uslice41 : USlice Tryz.prog 41 5 := ⟨Tryz.underlying41⟩
instance conc41 : Conc Tryz.prog 41 := ⟨⟨_, Tryz.underlying41, rfl⟩⟩
instance flat41 : Flat Tryz.prog 41 := ⟨⟨_, Tryz.underlying41, rfl⟩⟩
instance siz41 : Siz Tryz.prog 41 1 := ⟨Tryz.sizeOf41⟩
instance conc43 : Conc Tryz.prog 43 := ⟨⟨_, Tryz.underlying43, rfl⟩⟩
instance aggr43 : Aggr Tryz.prog 43 := ⟨⟨_, Tryz.underlying43, rfl⟩⟩
instance siz43 : Siz Tryz.prog 43 2 := ⟨Tryz.sizeOf43⟩
instance uiface46 : UIface Tryz.prog 46 := ⟨⟨_, Tryz.underlying46⟩⟩
instance flat46 : Flat Tryz.prog 46 := ⟨⟨_, Tryz.underlying46, rfl⟩⟩
instance siz46 : Siz Tryz.prog 46 1 := ⟨Tryz.sizeOf46⟩
instance uiface50 : UIface Tryz.prog 50 := ⟨⟨_, Tryz.underlying50⟩⟩
instance flat50 : Flat Tryz.prog 50 := ⟨⟨_, Tryz.underlying50, rfl⟩⟩
instance siz50 : Siz Tryz.prog 50 1 := ⟨Tryz.sizeOf50⟩
instance uint52 : UInt Tryz.prog 52 Go.IntKind.i8 := ⟨Tryz.underlying52⟩
instance conc52 : Conc Tryz.prog 52 := ⟨⟨_, Tryz.underlying52, rfl⟩⟩
instance flat52 : Flat Tryz.prog 52 := ⟨⟨_, Tryz.underlying52, rfl⟩⟩
instance siz52 : Siz Tryz.prog 52 1 := ⟨Tryz.sizeOf52⟩
instance conc54 : Conc Tryz.prog 54 := ⟨⟨_, Tryz.underlying54, rfl⟩⟩
instance aggr54 : Aggr Tryz.prog 54 := ⟨⟨_, Tryz.underlying54, rfl⟩⟩
instance siz54 : Siz Tryz.prog 54 3 := ⟨Tryz.sizeOf54⟩
instance uptr56 : UPtr Tryz.prog 56 54 := ⟨Tryz.underlying56⟩
instance conc56 : Conc Tryz.prog 56 := ⟨⟨_, Tryz.underlying56, rfl⟩⟩
instance flat56 : Flat Tryz.prog 56 := ⟨⟨_, Tryz.underlying56, rfl⟩⟩
instance siz56 : Siz Tryz.prog 56 1 := ⟨Tryz.sizeOf56⟩
instance conc58 : Conc Tryz.prog 58 := ⟨⟨_, Tryz.underlying58, rfl⟩⟩
instance aggr58 : Aggr Tryz.prog 58 := ⟨⟨_, Tryz.underlying58, rfl⟩⟩
instance siz58 : Siz Tryz.prog 58 10 := ⟨Tryz.sizeOf58⟩
instance uptr61 : UPtr Tryz.prog 61 5 := ⟨Tryz.underlying61⟩
instance conc61 : Conc Tryz.prog 61 := ⟨⟨_, Tryz.underlying61, rfl⟩⟩
instance flat61 : Flat Tryz.prog 61 := ⟨⟨_, Tryz.underlying61, rfl⟩⟩
instance siz61 : Siz Tryz.prog 61 1 := ⟨Tryz.sizeOf61⟩
instance conc62 : Conc Tryz.prog 62 := ⟨⟨_, Tryz.underlying62, rfl⟩⟩
instance flat62 : Flat Tryz.prog 62 := ⟨⟨_, Tryz.underlying62, rfl⟩⟩
instance siz62 : Siz Tryz.prog 62 1 := ⟨Tryz.sizeOf62⟩
instance uslice63 : USlice Tryz.prog 63 98 := ⟨Tryz.underlying63⟩
instance conc63 : Conc Tryz.prog 63 := ⟨⟨_, Tryz.underlying63, rfl⟩⟩
instance flat63 : Flat Tryz.prog 63 := ⟨⟨_, Tryz.underlying63, rfl⟩⟩
instance siz63 : Siz Tryz.prog 63 1 := ⟨Tryz.sizeOf63⟩
instance uslice64 : USlice Tryz.prog 64 109 := ⟨Tryz.underlying64⟩
instance conc64 : Conc Tryz.prog 64 := ⟨⟨_, Tryz.underlying64, rfl⟩⟩
instance flat64 : Flat Tryz.prog 64 := ⟨⟨_, Tryz.underlying64, rfl⟩⟩
instance siz64 : Siz Tryz.prog 64 1 := ⟨Tryz.sizeOf64⟩
instance uslice65 : USlice Tryz.prog 65 89 := ⟨Tryz.underlying65⟩
instance conc65 : Conc Tryz.prog 65 := ⟨⟨_, Tryz.underlying65, rfl⟩⟩
instance flat65 : Flat Tryz.prog 65 := ⟨⟨_, Tryz.underlying65, rfl⟩⟩
instance siz65 : Siz Tryz.prog 65 1 := ⟨Tryz.sizeOf65⟩
instance uslice66 : USlice Tryz.prog 66 83 := ⟨Tryz.underlying66⟩
instance conc66 : Conc Tryz.prog 66 := ⟨⟨_, Tryz.underlying66, rfl⟩⟩
instance flat66 : Flat Tryz.prog 66 := ⟨⟨_, Tryz.underlying66, rfl⟩⟩
instance siz66 : Siz Tryz.prog 66 1 := ⟨Tryz.sizeOf66⟩
instance conc67 : Conc Tryz.prog 67 := ⟨⟨_, Tryz.underlying67, rfl⟩⟩
instance aggr67 : Aggr Tryz.prog 67 := ⟨⟨_, Tryz.underlying67, rfl⟩⟩
instance siz67 : Siz Tryz.prog 67 80 := ⟨Tryz.sizeOf67⟩
instance conc69 : Conc Tryz.prog 69 := ⟨⟨_, Tryz.underlying69, rfl⟩⟩
instance aggr69 : Aggr Tryz.prog 69 := ⟨⟨_, Tryz.underlying69, rfl⟩⟩
instance siz69 : Siz Tryz.prog 69 81 := ⟨Tryz.sizeOf69⟩
instance conc71 : Conc Tryz.prog 71 := ⟨⟨_, Tryz.underlying71, rfl⟩⟩
instance aggr71 : Aggr Tryz.prog 71 := ⟨⟨_, Tryz.underlying71, rfl⟩⟩
instance siz71 : Siz Tryz.prog 71 93 := ⟨Tryz.sizeOf71⟩
instance uptr75 : UPtr Tryz.prog 75 77 := ⟨Tryz.underlying75⟩
instance conc75 : Conc Tryz.prog 75 := ⟨⟨_, Tryz.underlying75, rfl⟩⟩
instance flat75 : Flat Tryz.prog 75 := ⟨⟨_, Tryz.underlying75, rfl⟩⟩
instance siz75 : Siz Tryz.prog 75 1 := ⟨Tryz.sizeOf75⟩
instance conc77 : Conc Tryz.prog 77 := ⟨⟨_, Tryz.underlying77, rfl⟩⟩
instance aggr77 : Aggr Tryz.prog 77 := ⟨⟨_, Tryz.underlying77, rfl⟩⟩
instance siz77 : Siz Tryz.prog 77 0 := ⟨Tryz.sizeOf77⟩
instance conc81 : Conc Tryz.prog 81 := ⟨⟨_, Tryz.underlying81, rfl⟩⟩
instance aggr81 : Aggr Tryz.prog 81 := ⟨⟨_, Tryz.underlying81, rfl⟩⟩
instance siz81 : Siz Tryz.prog 81 5 := ⟨Tryz.sizeOf81⟩
instance uptr83 : UPtr Tryz.prog 83 88 := ⟨Tryz.underlying83⟩
instance conc83 : Conc Tryz.prog 83 := ⟨⟨_, Tryz.underlying83, rfl⟩⟩
instance flat83 : Flat Tryz.prog 83 := ⟨⟨_, Tryz.underlying83, rfl⟩⟩
instance siz83 : Siz Tryz.prog 83 1 := ⟨Tryz.sizeOf83⟩
instance conc86 : Conc Tryz.prog 86 := ⟨⟨_, Tryz.underlying86, rfl⟩⟩
instance aggr86 : Aggr Tryz.prog 86 := ⟨⟨_, Tryz.underlying86, rfl⟩⟩
instance siz86 : Siz Tryz.prog 86 2 := ⟨Tryz.sizeOf86⟩
instance conc88 : Conc Tryz.prog 88 := ⟨⟨_, Tryz.underlying88, rfl⟩⟩
instance aggr88 : Aggr Tryz.prog 88 := ⟨⟨_, Tryz.underlying88, rfl⟩⟩
instance siz88 : Siz Tryz.prog 88 4 := ⟨Tryz.sizeOf88⟩
instance uptr89 : UPtr Tryz.prog 89 126 := ⟨Tryz.underlying89⟩
instance conc89 : Conc Tryz.prog 89 := ⟨⟨_, Tryz.underlying89, rfl⟩⟩
instance flat89 : Flat Tryz.prog 89 := ⟨⟨_, Tryz.underlying89, rfl⟩⟩
instance siz89 : Siz Tryz.prog 89 1 := ⟨Tryz.sizeOf89⟩
instance conc91 : Conc Tryz.prog 91 := ⟨⟨_, Tryz.underlying91, rfl⟩⟩
instance flat91 : Flat Tryz.prog 91 := ⟨⟨_, Tryz.underlying91, rfl⟩⟩
instance siz91 : Siz Tryz.prog 91 1 := ⟨Tryz.sizeOf91⟩
instance uptr93 : UPtr Tryz.prog 93 71 := ⟨Tryz.underlying93⟩
instance conc93 : Conc Tryz.prog 93 := ⟨⟨_, Tryz.underlying93, rfl⟩⟩
instance flat93 : Flat Tryz.prog 93 := ⟨⟨_, Tryz.underlying93, rfl⟩⟩
instance siz93 : Siz Tryz.prog 93 1 := ⟨Tryz.sizeOf93⟩
instance uiface95 : UIface Tryz.prog 95 := ⟨⟨_, Tryz.underlying95⟩⟩
instance flat95 : Flat Tryz.prog 95 := ⟨⟨_, Tryz.underlying95, rfl⟩⟩
instance siz95 : Siz Tryz.prog 95 1 := ⟨Tryz.sizeOf95⟩
instance uslice96 : USlice Tryz.prog 96 50 := ⟨Tryz.underlying96⟩
instance conc96 : Conc Tryz.prog 96 := ⟨⟨_, Tryz.underlying96, rfl⟩⟩
instance flat96 : Flat Tryz.prog 96 := ⟨⟨_, Tryz.underlying96, rfl⟩⟩
instance siz96 : Siz Tryz.prog 96 1 := ⟨Tryz.sizeOf96⟩
instance conc98 : Conc Tryz.prog 98 := ⟨⟨_, Tryz.underlying98, rfl⟩⟩
instance aggr98 : Aggr Tryz.prog 98 := ⟨⟨_, Tryz.underlying98, rfl⟩⟩
instance siz98 : Siz Tryz.prog 98 4 := ⟨Tryz.sizeOf98⟩
instance conc101 : Conc Tryz.prog 101 := ⟨⟨_, Tryz.underlying101, rfl⟩⟩
instance ufunc101 : UFunc Tryz.prog 101 := ⟨⟨_, _, _, Tryz.underlying101⟩⟩
instance flat101 : Flat Tryz.prog 101 := ⟨⟨_, Tryz.underlying101, rfl⟩⟩
instance siz101 : Siz Tryz.prog 101 1 := ⟨Tryz.sizeOf101⟩
instance uslice103 : USlice Tryz.prog 103 101 := ⟨Tryz.underlying103⟩
instance conc103 : Conc Tryz.prog 103 := ⟨⟨_, Tryz.underlying103, rfl⟩⟩
instance flat103 : Flat Tryz.prog 103 := ⟨⟨_, Tryz.underlying103, rfl⟩⟩
instance siz103 : Siz Tryz.prog 103 1 := ⟨Tryz.sizeOf103⟩
instance uslice106 : USlice Tryz.prog 106 3 := ⟨Tryz.underlying106⟩
instance conc106 : Conc Tryz.prog 106 := ⟨⟨_, Tryz.underlying106, rfl⟩⟩
instance flat106 : Flat Tryz.prog 106 := ⟨⟨_, Tryz.underlying106, rfl⟩⟩
instance siz106 : Siz Tryz.prog 106 1 := ⟨Tryz.sizeOf106⟩
instance conc107 : Conc Tryz.prog 107 := ⟨⟨_, Tryz.underlying107, rfl⟩⟩
instance ufunc107 : UFunc Tryz.prog 107 := ⟨⟨_, _, _, Tryz.underlying107⟩⟩
instance flat107 : Flat Tryz.prog 107 := ⟨⟨_, Tryz.underlying107, rfl⟩⟩
instance siz107 : Siz Tryz.prog 107 1 := ⟨Tryz.sizeOf107⟩
instance uiface109 : UIface Tryz.prog 109 := ⟨⟨_, Tryz.underlying109⟩⟩
instance flat109 : Flat Tryz.prog 109 := ⟨⟨_, Tryz.underlying109, rfl⟩⟩
instance siz109 : Siz Tryz.prog 109 1 := ⟨Tryz.sizeOf109⟩
instance uptr111 : UPtr Tryz.prog 111 116 := ⟨Tryz.underlying111⟩
instance conc111 : Conc Tryz.prog 111 := ⟨⟨_, Tryz.underlying111, rfl⟩⟩
instance flat111 : Flat Tryz.prog 111 := ⟨⟨_, Tryz.underlying111, rfl⟩⟩
instance siz111 : Siz Tryz.prog 111 1 := ⟨Tryz.sizeOf111⟩
instance conc114 : Conc Tryz.prog 114 := ⟨⟨_, Tryz.underlying114, rfl⟩⟩
instance aggr114 : Aggr Tryz.prog 114 := ⟨⟨_, Tryz.underlying114, rfl⟩⟩
instance siz114 : Siz Tryz.prog 114 1 := ⟨Tryz.sizeOf114⟩
instance conc116 : Conc Tryz.prog 116 := ⟨⟨_, Tryz.underlying116, rfl⟩⟩
instance aggr116 : Aggr Tryz.prog 116 := ⟨⟨_, Tryz.underlying116, rfl⟩⟩
instance siz116 : Siz Tryz.prog 116 2 := ⟨Tryz.sizeOf116⟩
instance uptr117 : UPtr Tryz.prog 117 121 := ⟨Tryz.underlying117⟩
instance conc117 : Conc Tryz.prog 117 := ⟨⟨_, Tryz.underlying117, rfl⟩⟩
instance flat117 : Flat Tryz.prog 117 := ⟨⟨_, Tryz.underlying117, rfl⟩⟩
instance siz117 : Siz Tryz.prog 117 1 := ⟨Tryz.sizeOf117⟩
instance conc121 : Conc Tryz.prog 121 := ⟨⟨_, Tryz.underlying121, rfl⟩⟩
instance aggr121 : Aggr Tryz.prog 121 := ⟨⟨_, Tryz.underlying121, rfl⟩⟩
instance siz121 : Siz Tryz.prog 121 5 := ⟨Tryz.sizeOf121⟩
instance uptr123 : UPtr Tryz.prog 123 340 := ⟨Tryz.underlying123⟩
instance conc123 : Conc Tryz.prog 123 := ⟨⟨_, Tryz.underlying123, rfl⟩⟩
instance flat123 : Flat Tryz.prog 123 := ⟨⟨_, Tryz.underlying123, rfl⟩⟩
instance siz123 : Siz Tryz.prog 123 1 := ⟨Tryz.sizeOf123⟩
instance conc126 : Conc Tryz.prog 126 := ⟨⟨_, Tryz.underlying126, rfl⟩⟩
instance aggr126 : Aggr Tryz.prog 126 := ⟨⟨_, Tryz.underlying126, rfl⟩⟩
instance siz126 : Siz Tryz.prog 126 6 := ⟨Tryz.sizeOf126⟩
instance uptr127 : UPtr Tryz.prog 127 129 := ⟨Tryz.underlying127⟩
instance conc127 : Conc Tryz.prog 127 := ⟨⟨_, Tryz.underlying127, rfl⟩⟩
instance flat127 : Flat Tryz.prog 127 := ⟨⟨_, Tryz.underlying127, rfl⟩⟩
instance siz127 : Siz Tryz.prog 127 1 := ⟨Tryz.sizeOf127⟩
instance conc129 : Conc Tryz.prog 129 := ⟨⟨_, Tryz.underlying129, rfl⟩⟩
instance aggr129 : Aggr Tryz.prog 129 := ⟨⟨_, Tryz.underlying129, rfl⟩⟩
instance siz129 : Siz Tryz.prog 129 4 := ⟨Tryz.sizeOf129⟩
instance uptr130 : UPtr Tryz.prog 130 132 := ⟨Tryz.underlying130⟩
instance conc130 : Conc Tryz.prog 130 := ⟨⟨_, Tryz.underlying130, rfl⟩⟩
instance flat130 : Flat Tryz.prog 130 := ⟨⟨_, Tryz.underlying130, rfl⟩⟩
instance siz130 : Siz Tryz.prog 130 1 := ⟨Tryz.sizeOf130⟩
instance conc132 : Conc Tryz.prog 132 := ⟨⟨_, Tryz.underlying132, rfl⟩⟩
instance aggr132 : Aggr Tryz.prog 132 := ⟨⟨_, Tryz.underlying132, rfl⟩⟩
instance siz132 : Siz Tryz.prog 132 3 := ⟨Tryz.sizeOf132⟩
instance uptr133 : UPtr Tryz.prog 133 114 := ⟨Tryz.underlying133⟩
instance conc133 : Conc Tryz.prog 133 := ⟨⟨_, Tryz.underlying133, rfl⟩⟩
instance flat133 : Flat Tryz.prog 133 := ⟨⟨_, Tryz.underlying133, rfl⟩⟩
instance siz133 : Siz Tryz.prog 133 1 := ⟨Tryz.sizeOf133⟩
instance uptr135 : UPtr Tryz.prog 135 137 := ⟨Tryz.underlying135⟩
instance conc135 : Conc Tryz.prog 135 := ⟨⟨_, Tryz.underlying135, rfl⟩⟩
instance flat135 : Flat Tryz.prog 135 := ⟨⟨_, Tryz.underlying135, rfl⟩⟩
instance siz135 : Siz Tryz.prog 135 1 := ⟨Tryz.sizeOf135⟩
instance conc137 : Conc Tryz.prog 137 := ⟨⟨_, Tryz.underlying137, rfl⟩⟩
instance aggr137 : Aggr Tryz.prog 137 := ⟨⟨_, Tryz.underlying137, rfl⟩⟩
instance siz137 : Siz Tryz.prog 137 1 := ⟨Tryz.sizeOf137⟩
instance uptr139 : UPtr Tryz.prog 139 143 := ⟨Tryz.underlying139⟩
instance conc139 : Conc Tryz.prog 139 := ⟨⟨_, Tryz.underlying139, rfl⟩⟩
instance flat139 : Flat Tryz.prog 139 := ⟨⟨_, Tryz.underlying139, rfl⟩⟩
instance siz139 : Siz Tryz.prog 139 1 := ⟨Tryz.sizeOf139⟩
instance uptr141 : UPtr Tryz.prog 141 148 := ⟨Tryz.underlying141⟩
instance conc141 : Conc Tryz.prog 141 := ⟨⟨_, Tryz.underlying141, rfl⟩⟩
instance flat141 : Flat Tryz.prog 141 := ⟨⟨_, Tryz.underlying141, rfl⟩⟩
instance siz141 : Siz Tryz.prog 141 1 := ⟨Tryz.sizeOf141⟩
instance conc143 : Conc Tryz.prog 143 := ⟨⟨_, Tryz.underlying143, rfl⟩⟩
instance aggr143 : Aggr Tryz.prog 143 := ⟨⟨_, Tryz.underlying143, rfl⟩⟩
instance siz143 : Siz Tryz.prog 143 2 := ⟨Tryz.sizeOf143⟩
instance ustr145 : UStr Tryz.prog 145 := ⟨Tryz.underlying145⟩
instance conc145 : Conc Tryz.prog 145 := ⟨⟨_, Tryz.underlying145, rfl⟩⟩
instance flat145 : Flat Tryz.prog 145 := ⟨⟨_, Tryz.underlying145, rfl⟩⟩
instance siz145 : Siz Tryz.prog 145 1 := ⟨Tryz.sizeOf145⟩
instance uslice146 : USlice Tryz.prog 146 145 := ⟨Tryz.underlying146⟩
instance conc146 : Conc Tryz.prog 146 := ⟨⟨_, Tryz.underlying146, rfl⟩⟩
instance flat146 : Flat Tryz.prog 146 := ⟨⟨_, Tryz.underlying146, rfl⟩⟩
instance siz146 : Siz Tryz.prog 146 1 := ⟨Tryz.sizeOf146⟩
instance conc148 : Conc Tryz.prog 148 := ⟨⟨_, Tryz.underlying148, rfl⟩⟩
instance aggr148 : Aggr Tryz.prog 148 := ⟨⟨_, Tryz.underlying148, rfl⟩⟩
instance siz148 : Siz Tryz.prog 148 3 := ⟨Tryz.sizeOf148⟩
instance uptr153 : UPtr Tryz.prog 153 155 := ⟨Tryz.underlying153⟩
instance conc153 : Conc Tryz.prog 153 := ⟨⟨_, Tryz.underlying153, rfl⟩⟩
instance flat153 : Flat Tryz.prog 153 := ⟨⟨_, Tryz.underlying153, rfl⟩⟩
instance siz153 : Siz Tryz.prog 153 1 := ⟨Tryz.sizeOf153⟩
instance conc155 : Conc Tryz.prog 155 := ⟨⟨_, Tryz.underlying155, rfl⟩⟩
instance aggr155 : Aggr Tryz.prog 155 := ⟨⟨_, Tryz.underlying155, rfl⟩⟩
instance siz155 : Siz Tryz.prog 155 1 := ⟨Tryz.sizeOf155⟩
instance uptr156 : UPtr Tryz.prog 156 157 := ⟨Tryz.underlying156⟩
instance conc156 : Conc Tryz.prog 156 := ⟨⟨_, Tryz.underlying156, rfl⟩⟩
instance flat156 : Flat Tryz.prog 156 := ⟨⟨_, Tryz.underlying156, rfl⟩⟩
instance siz156 : Siz Tryz.prog 156 1 := ⟨Tryz.sizeOf156⟩
instance conc157 : Conc Tryz.prog 157 := ⟨⟨_, Tryz.underlying157, rfl⟩⟩
instance aggr157 : Aggr Tryz.prog 157 := ⟨⟨_, Tryz.underlying157, rfl⟩⟩
instance siz157 : Siz Tryz.prog 157 0 := ⟨Tryz.sizeOf157⟩
instance uptr159 : UPtr Tryz.prog 159 160 := ⟨Tryz.underlying159⟩
instance conc159 : Conc Tryz.prog 159 := ⟨⟨_, Tryz.underlying159, rfl⟩⟩
instance flat159 : Flat Tryz.prog 159 := ⟨⟨_, Tryz.underlying159, rfl⟩⟩
instance siz159 : Siz Tryz.prog 159 1 := ⟨Tryz.sizeOf159⟩
instance conc160 : Conc Tryz.prog 160 := ⟨⟨_, Tryz.underlying160, rfl⟩⟩
instance aggr160 : Aggr Tryz.prog 160 := ⟨⟨_, Tryz.underlying160, rfl⟩⟩
instance siz160 : Siz Tryz.prog 160 1 := ⟨Tryz.sizeOf160⟩
instance uptr167 : UPtr Tryz.prog 167 169 := ⟨Tryz.underlying167⟩
instance conc167 : Conc Tryz.prog 167 := ⟨⟨_, Tryz.underlying167, rfl⟩⟩
instance flat167 : Flat Tryz.prog 167 := ⟨⟨_, Tryz.underlying167, rfl⟩⟩
instance siz167 : Siz Tryz.prog 167 1 := ⟨Tryz.sizeOf167⟩
instance conc169 : Conc Tryz.prog 169 := ⟨⟨_, Tryz.underlying169, rfl⟩⟩
instance aggr169 : Aggr Tryz.prog 169 := ⟨⟨_, Tryz.underlying169, rfl⟩⟩
instance siz169 : Siz Tryz.prog 169 5 := ⟨Tryz.sizeOf169⟩
instance uptr170 : UPtr Tryz.prog 170 171 := ⟨Tryz.underlying170⟩
instance conc170 : Conc Tryz.prog 170 := ⟨⟨_, Tryz.underlying170, rfl⟩⟩
instance flat170 : Flat Tryz.prog 170 := ⟨⟨_, Tryz.underlying170, rfl⟩⟩
instance siz170 : Siz Tryz.prog 170 1 := ⟨Tryz.sizeOf170⟩
instance conc171 : Conc Tryz.prog 171 := ⟨⟨_, Tryz.underlying171, rfl⟩⟩
instance aggr171 : Aggr Tryz.prog 171 := ⟨⟨_, Tryz.underlying171, rfl⟩⟩
instance siz171 : Siz Tryz.prog 171 0 := ⟨Tryz.sizeOf171⟩
instance uptr178 : UPtr Tryz.prog 178 180 := ⟨Tryz.underlying178⟩
instance conc178 : Conc Tryz.prog 178 := ⟨⟨_, Tryz.underlying178, rfl⟩⟩
instance flat178 : Flat Tryz.prog 178 := ⟨⟨_, Tryz.underlying178, rfl⟩⟩
instance siz178 : Siz Tryz.prog 178 1 := ⟨Tryz.sizeOf178⟩
instance conc180 : Conc Tryz.prog 180 := ⟨⟨_, Tryz.underlying180, rfl⟩⟩
instance aggr180 : Aggr Tryz.prog 180 := ⟨⟨_, Tryz.underlying180, rfl⟩⟩
instance siz180 : Siz Tryz.prog 180 2 := ⟨Tryz.sizeOf180⟩
instance uslice188 : USlice Tryz.prog 188 167 := ⟨Tryz.underlying188⟩
instance conc188 : Conc Tryz.prog 188 := ⟨⟨_, Tryz.underlying188, rfl⟩⟩
instance flat188 : Flat Tryz.prog 188 := ⟨⟨_, Tryz.underlying188, rfl⟩⟩
instance siz188 : Siz Tryz.prog 188 1 := ⟨Tryz.sizeOf188⟩
instance conc189 : Conc Tryz.prog 189 := ⟨⟨_, Tryz.underlying189, rfl⟩⟩
instance aggr189 : Aggr Tryz.prog 189 := ⟨⟨_, Tryz.underlying189, rfl⟩⟩
instance siz189 : Siz Tryz.prog 189 5 := ⟨Tryz.sizeOf189⟩
instance uptr194 : UPtr Tryz.prog 194 196 := ⟨Tryz.underlying194⟩
instance conc194 : Conc Tryz.prog 194 := ⟨⟨_, Tryz.underlying194, rfl⟩⟩
instance flat194 : Flat Tryz.prog 194 := ⟨⟨_, Tryz.underlying194, rfl⟩⟩
instance siz194 : Siz Tryz.prog 194 1 := ⟨Tryz.sizeOf194⟩
instance conc196 : Conc Tryz.prog 196 := ⟨⟨_, Tryz.underlying196, rfl⟩⟩
instance aggr196 : Aggr Tryz.prog 196 := ⟨⟨_, Tryz.underlying196, rfl⟩⟩
instance siz196 : Siz Tryz.prog 196 2 := ⟨Tryz.sizeOf196⟩
instance uptr197 : UPtr Tryz.prog 197 202 := ⟨Tryz.underlying197⟩
instance conc197 : Conc Tryz.prog 197 := ⟨⟨_, Tryz.underlying197, rfl⟩⟩
instance flat197 : Flat Tryz.prog 197 := ⟨⟨_, Tryz.underlying197, rfl⟩⟩
instance siz197 : Siz Tryz.prog 197 1 := ⟨Tryz.sizeOf197⟩
instance uptr198 : UPtr Tryz.prog 198 201 := ⟨Tryz.underlying198⟩
instance conc198 : Conc Tryz.prog 198 := ⟨⟨_, Tryz.underlying198, rfl⟩⟩
instance flat198 : Flat Tryz.prog 198 := ⟨⟨_, Tryz.underlying198, rfl⟩⟩
instance siz198 : Siz Tryz.prog 198 1 := ⟨Tryz.sizeOf198⟩
instance conc201 : Conc Tryz.prog 201 := ⟨⟨_, Tryz.underlying201, rfl⟩⟩
instance aggr201 : Aggr Tryz.prog 201 := ⟨⟨_, Tryz.underlying201, rfl⟩⟩
instance siz201 : Siz Tryz.prog 201 2 := ⟨Tryz.sizeOf201⟩
instance conc202 : Conc Tryz.prog 202 := ⟨⟨_, Tryz.underlying202, rfl⟩⟩
instance aggr202 : Aggr Tryz.prog 202 := ⟨⟨_, Tryz.underlying202, rfl⟩⟩
instance siz202 : Siz Tryz.prog 202 2 := ⟨Tryz.sizeOf202⟩
instance uptr204 : UPtr Tryz.prog 204 205 := ⟨Tryz.underlying204⟩
instance conc204 : Conc Tryz.prog 204 := ⟨⟨_, Tryz.underlying204, rfl⟩⟩
instance flat204 : Flat Tryz.prog 204 := ⟨⟨_, Tryz.underlying204, rfl⟩⟩
instance siz204 : Siz Tryz.prog 204 1 := ⟨Tryz.sizeOf204⟩
instance conc205 : Conc Tryz.prog 205 := ⟨⟨_, Tryz.underlying205, rfl⟩⟩
instance aggr205 : Aggr Tryz.prog 205 := ⟨⟨_, Tryz.underlying205, rfl⟩⟩
instance siz205 : Siz Tryz.prog 205 0 := ⟨Tryz.sizeOf205⟩
instance uptr212 : UPtr Tryz.prog 212 215 := ⟨Tryz.underlying212⟩
instance conc212 : Conc Tryz.prog 212 := ⟨⟨_, Tryz.underlying212, rfl⟩⟩
instance flat212 : Flat Tryz.prog 212 := ⟨⟨_, Tryz.underlying212, rfl⟩⟩
instance siz212 : Siz Tryz.prog 212 1 := ⟨Tryz.sizeOf212⟩
instance conc215 : Conc Tryz.prog 215 := ⟨⟨_, Tryz.underlying215, rfl⟩⟩
instance aggr215 : Aggr Tryz.prog 215 := ⟨⟨_, Tryz.underlying215, rfl⟩⟩
instance siz215 : Siz Tryz.prog 215 5 := ⟨Tryz.sizeOf215⟩
instance uptr219 : UPtr Tryz.prog 219 221 := ⟨Tryz.underlying219⟩
instance conc219 : Conc Tryz.prog 219 := ⟨⟨_, Tryz.underlying219, rfl⟩⟩
instance flat219 : Flat Tryz.prog 219 := ⟨⟨_, Tryz.underlying219, rfl⟩⟩
instance siz219 : Siz Tryz.prog 219 1 := ⟨Tryz.sizeOf219⟩
instance conc221 : Conc Tryz.prog 221 := ⟨⟨_, Tryz.underlying221, rfl⟩⟩
instance aggr221 : Aggr Tryz.prog 221 := ⟨⟨_, Tryz.underlying221, rfl⟩⟩
instance siz221 : Siz Tryz.prog 221 3 := ⟨Tryz.sizeOf221⟩
instance uptr222 : UPtr Tryz.prog 222 227 := ⟨Tryz.underlying222⟩
instance conc222 : Conc Tryz.prog 222 := ⟨⟨_, Tryz.underlying222, rfl⟩⟩
instance flat222 : Flat Tryz.prog 222 := ⟨⟨_, Tryz.underlying222, rfl⟩⟩
instance siz222 : Siz Tryz.prog 222 1 := ⟨Tryz.sizeOf222⟩
instance uptr224 : UPtr Tryz.prog 224 264 := ⟨Tryz.underlying224⟩
instance conc224 : Conc Tryz.prog 224 := ⟨⟨_, Tryz.underlying224, rfl⟩⟩
instance flat224 : Flat Tryz.prog 224 := ⟨⟨_, Tryz.underlying224, rfl⟩⟩
instance siz224 : Siz Tryz.prog 224 1 := ⟨Tryz.sizeOf224⟩
instance conc225 : Conc Tryz.prog 225 := ⟨⟨_, Tryz.underlying225, rfl⟩⟩
instance ufunc225 : UFunc Tryz.prog 225 := ⟨⟨_, _, _, Tryz.underlying225⟩⟩
instance flat225 : Flat Tryz.prog 225 := ⟨⟨_, Tryz.underlying225, rfl⟩⟩
instance siz225 : Siz Tryz.prog 225 1 := ⟨Tryz.sizeOf225⟩
instance conc227 : Conc Tryz.prog 227 := ⟨⟨_, Tryz.underlying227, rfl⟩⟩
instance aggr227 : Aggr Tryz.prog 227 := ⟨⟨_, Tryz.underlying227, rfl⟩⟩
instance siz227 : Siz Tryz.prog 227 5 := ⟨Tryz.sizeOf227⟩
instance uptr231 : UPtr Tryz.prog 231 233 := ⟨Tryz.underlying231⟩
instance conc231 : Conc Tryz.prog 231 := ⟨⟨_, Tryz.underlying231, rfl⟩⟩
instance flat231 : Flat Tryz.prog 231 := ⟨⟨_, Tryz.underlying231, rfl⟩⟩
instance siz231 : Siz Tryz.prog 231 1 := ⟨Tryz.sizeOf231⟩
instance conc233 : Conc Tryz.prog 233 := ⟨⟨_, Tryz.underlying233, rfl⟩⟩
instance aggr233 : Aggr Tryz.prog 233 := ⟨⟨_, Tryz.underlying233, rfl⟩⟩
instance siz233 : Siz Tryz.prog 233 4 := ⟨Tryz.sizeOf233⟩
instance uptr235 : UPtr Tryz.prog 235 237 := ⟨Tryz.underlying235⟩
instance conc235 : Conc Tryz.prog 235 := ⟨⟨_, Tryz.underlying235, rfl⟩⟩
instance flat235 : Flat Tryz.prog 235 := ⟨⟨_, Tryz.underlying235, rfl⟩⟩
instance siz235 : Siz Tryz.prog 235 1 := ⟨Tryz.sizeOf235⟩
instance conc237 : Conc Tryz.prog 237 := ⟨⟨_, Tryz.underlying237, rfl⟩⟩
instance aggr237 : Aggr Tryz.prog 237 := ⟨⟨_, Tryz.underlying237, rfl⟩⟩
instance siz237 : Siz Tryz.prog 237 2 := ⟨Tryz.sizeOf237⟩
instance uptr241 : UPtr Tryz.prog 241 360 := ⟨Tryz.underlying241⟩
instance conc241 : Conc Tryz.prog 241 := ⟨⟨_, Tryz.underlying241, rfl⟩⟩
instance flat241 : Flat Tryz.prog 241 := ⟨⟨_, Tryz.underlying241, rfl⟩⟩
instance siz241 : Siz Tryz.prog 241 1 := ⟨Tryz.sizeOf241⟩
instance uptr242 : UPtr Tryz.prog 242 244 := ⟨Tryz.underlying242⟩
instance conc242 : Conc Tryz.prog 242 := ⟨⟨_, Tryz.underlying242, rfl⟩⟩
instance flat242 : Flat Tryz.prog 242 := ⟨⟨_, Tryz.underlying242, rfl⟩⟩
instance siz242 : Siz Tryz.prog 242 1 := ⟨Tryz.sizeOf242⟩
instance conc244 : Conc Tryz.prog 244 := ⟨⟨_, Tryz.underlying244, rfl⟩⟩
instance aggr244 : Aggr Tryz.prog 244 := ⟨⟨_, Tryz.underlying244, rfl⟩⟩
instance siz244 : Siz Tryz.prog 244 2 := ⟨Tryz.sizeOf244⟩
instance uint247 : UInt Tryz.prog 247 Go.IntKind.u64 := ⟨Tryz.underlying247⟩
instance conc247 : Conc Tryz.prog 247 := ⟨⟨_, Tryz.underlying247, rfl⟩⟩
instance flat247 : Flat Tryz.prog 247 := ⟨⟨_, Tryz.underlying247, rfl⟩⟩
instance siz247 : Siz Tryz.prog 247 1 := ⟨Tryz.sizeOf247⟩
instance conc252 : Conc Tryz.prog 252 := ⟨⟨_, Tryz.underlying252, rfl⟩⟩
instance aggr252 : Aggr Tryz.prog 252 := ⟨⟨_, Tryz.underlying252, rfl⟩⟩
instance siz252 : Siz Tryz.prog 252 2 := ⟨Tryz.sizeOf252⟩
instance conc253 : Conc Tryz.prog 253 := ⟨⟨_, Tryz.underlying253, rfl⟩⟩
instance aggr253 : Aggr Tryz.prog 253 := ⟨⟨_, Tryz.underlying253, rfl⟩⟩
instance siz253 : Siz Tryz.prog 253 24 := ⟨Tryz.sizeOf253⟩
instance conc254 : Conc Tryz.prog 254 := ⟨⟨_, Tryz.underlying254, rfl⟩⟩
instance aggr254 : Aggr Tryz.prog 254 := ⟨⟨_, Tryz.underlying254, rfl⟩⟩
instance siz254 : Siz Tryz.prog 254 0 := ⟨Tryz.sizeOf254⟩
instance conc257 : Conc Tryz.prog 257 := ⟨⟨_, Tryz.underlying257, rfl⟩⟩
instance aggr257 : Aggr Tryz.prog 257 := ⟨⟨_, Tryz.underlying257, rfl⟩⟩
instance siz257 : Siz Tryz.prog 257 2 := ⟨Tryz.sizeOf257⟩
instance conc264 : Conc Tryz.prog 264 := ⟨⟨_, Tryz.underlying264, rfl⟩⟩
instance aggr264 : Aggr Tryz.prog 264 := ⟨⟨_, Tryz.underlying264, rfl⟩⟩
instance siz264 : Siz Tryz.prog 264 3 := ⟨Tryz.sizeOf264⟩
instance uptr265 : UPtr Tryz.prog 265 267 := ⟨Tryz.underlying265⟩
instance conc265 : Conc Tryz.prog 265 := ⟨⟨_, Tryz.underlying265, rfl⟩⟩
instance flat265 : Flat Tryz.prog 265 := ⟨⟨_, Tryz.underlying265, rfl⟩⟩
instance siz265 : Siz Tryz.prog 265 1 := ⟨Tryz.sizeOf265⟩
instance conc267 : Conc Tryz.prog 267 := ⟨⟨_, Tryz.underlying267, rfl⟩⟩
instance aggr267 : Aggr Tryz.prog 267 := ⟨⟨_, Tryz.underlying267, rfl⟩⟩
instance siz267 : Siz Tryz.prog 267 3 := ⟨Tryz.sizeOf267⟩
instance uptr269 : UPtr Tryz.prog 269 270 := ⟨Tryz.underlying269⟩
instance conc269 : Conc Tryz.prog 269 := ⟨⟨_, Tryz.underlying269, rfl⟩⟩
instance flat269 : Flat Tryz.prog 269 := ⟨⟨_, Tryz.underlying269, rfl⟩⟩
instance siz269 : Siz Tryz.prog 269 1 := ⟨Tryz.sizeOf269⟩
instance conc270 : Conc Tryz.prog 270 := ⟨⟨_, Tryz.underlying270, rfl⟩⟩
instance aggr270 : Aggr Tryz.prog 270 := ⟨⟨_, Tryz.underlying270, rfl⟩⟩
instance siz270 : Siz Tryz.prog 270 1 := ⟨Tryz.sizeOf270⟩
instance conc272 : Conc Tryz.prog 272 := ⟨⟨_, Tryz.underlying272, rfl⟩⟩
instance aggr272 : Aggr Tryz.prog 272 := ⟨⟨_, Tryz.underlying272, rfl⟩⟩
instance siz272 : Siz Tryz.prog 272 256 := ⟨Tryz.sizeOf272⟩
instance conc274 : Conc Tryz.prog 274 := ⟨⟨_, Tryz.underlying274, rfl⟩⟩
instance aggr274 : Aggr Tryz.prog 274 := ⟨⟨_, Tryz.underlying274, rfl⟩⟩
instance siz274 : Siz Tryz.prog 274 2 := ⟨Tryz.sizeOf274⟩
instance conc275 : Conc Tryz.prog 275 := ⟨⟨_, Tryz.underlying275, rfl⟩⟩
instance aggr275 : Aggr Tryz.prog 275 := ⟨⟨_, Tryz.underlying275, rfl⟩⟩
instance siz275 : Siz Tryz.prog 275 32 := ⟨Tryz.sizeOf275⟩
instance conc276 : Conc Tryz.prog 276 := ⟨⟨_, Tryz.underlying276, rfl⟩⟩
instance aggr276 : Aggr Tryz.prog 276 := ⟨⟨_, Tryz.underlying276, rfl⟩⟩
instance siz276 : Siz Tryz.prog 276 3 := ⟨Tryz.sizeOf276⟩
instance conc277 : Conc Tryz.prog 277 := ⟨⟨_, Tryz.underlying277, rfl⟩⟩
instance aggr277 : Aggr Tryz.prog 277 := ⟨⟨_, Tryz.underlying277, rfl⟩⟩
instance siz277 : Siz Tryz.prog 277 522 := ⟨Tryz.sizeOf277⟩
instance uint278 : UInt Tryz.prog 278 Go.IntKind.u32 := ⟨Tryz.underlying278⟩
instance conc278 : Conc Tryz.prog 278 := ⟨⟨_, Tryz.underlying278, rfl⟩⟩
instance flat278 : Flat Tryz.prog 278 := ⟨⟨_, Tryz.underlying278, rfl⟩⟩
instance siz278 : Siz Tryz.prog 278 1 := ⟨Tryz.sizeOf278⟩
instance uint281 : UInt Tryz.prog 281 Go.IntKind.u64 := ⟨Tryz.underlying281⟩
instance conc281 : Conc Tryz.prog 281 := ⟨⟨_, Tryz.underlying281, rfl⟩⟩
instance flat281 : Flat Tryz.prog 281 := ⟨⟨_, Tryz.underlying281, rfl⟩⟩
instance siz281 : Siz Tryz.prog 281 1 := ⟨Tryz.sizeOf281⟩
instance uint284 : UInt Tryz.prog 284 Go.IntKind.i64 := ⟨Tryz.underlying284⟩
instance conc284 : Conc Tryz.prog 284 := ⟨⟨_, Tryz.underlying284, rfl⟩⟩
instance flat284 : Flat Tryz.prog 284 := ⟨⟨_, Tryz.underlying284, rfl⟩⟩
instance siz284 : Siz Tryz.prog 284 1 := ⟨Tryz.sizeOf284⟩
instance uptr287 : UPtr Tryz.prog 287 295 := ⟨Tryz.underlying287⟩
instance conc287 : Conc Tryz.prog 287 := ⟨⟨_, Tryz.underlying287, rfl⟩⟩
instance flat287 : Flat Tryz.prog 287 := ⟨⟨_, Tryz.underlying287, rfl⟩⟩
instance siz287 : Siz Tryz.prog 287 1 := ⟨Tryz.sizeOf287⟩
instance conc295 : Conc Tryz.prog 295 := ⟨⟨_, Tryz.underlying295, rfl⟩⟩
instance aggr295 : Aggr Tryz.prog 295 := ⟨⟨_, Tryz.underlying295, rfl⟩⟩
instance siz295 : Siz Tryz.prog 295 3 := ⟨Tryz.sizeOf295⟩
instance uptr299 : UPtr Tryz.prog 299 301 := ⟨Tryz.underlying299⟩
instance conc299 : Conc Tryz.prog 299 := ⟨⟨_, Tryz.underlying299, rfl⟩⟩
instance flat299 : Flat Tryz.prog 299 := ⟨⟨_, Tryz.underlying299, rfl⟩⟩
instance siz299 : Siz Tryz.prog 299 1 := ⟨Tryz.sizeOf299⟩
instance conc301 : Conc Tryz.prog 301 := ⟨⟨_, Tryz.underlying301, rfl⟩⟩
instance aggr301 : Aggr Tryz.prog 301 := ⟨⟨_, Tryz.underlying301, rfl⟩⟩
instance siz301 : Siz Tryz.prog 301 1 := ⟨Tryz.sizeOf301⟩
instance conc303 : Conc Tryz.prog 303 := ⟨⟨_, Tryz.underlying303, rfl⟩⟩
instance aggr303 : Aggr Tryz.prog 303 := ⟨⟨_, Tryz.underlying303, rfl⟩⟩
instance siz303 : Siz Tryz.prog 303 24 := ⟨Tryz.sizeOf303⟩
instance conc310 : Conc Tryz.prog 310 := ⟨⟨_, Tryz.underlying310, rfl⟩⟩
instance aggr310 : Aggr Tryz.prog 310 := ⟨⟨_, Tryz.underlying310, rfl⟩⟩
instance siz310 : Siz Tryz.prog 310 20 := ⟨Tryz.sizeOf310⟩
instance conc311 : Conc Tryz.prog 311 := ⟨⟨_, Tryz.underlying311, rfl⟩⟩
instance aggr311 : Aggr Tryz.prog 311 := ⟨⟨_, Tryz.underlying311, rfl⟩⟩
instance siz311 : Siz Tryz.prog 311 65 := ⟨Tryz.sizeOf311⟩
instance conc315 : Conc Tryz.prog 315 := ⟨⟨_, Tryz.underlying315, rfl⟩⟩
instance aggr315 : Aggr Tryz.prog 315 := ⟨⟨_, Tryz.underlying315, rfl⟩⟩
instance siz315 : Siz Tryz.prog 315 32 := ⟨Tryz.sizeOf315⟩
instance conc316 : Conc Tryz.prog 316 := ⟨⟨_, Tryz.underlying316, rfl⟩⟩
instance aggr316 : Aggr Tryz.prog 316 := ⟨⟨_, Tryz.underlying316, rfl⟩⟩
instance siz316 : Siz Tryz.prog 316 64 := ⟨Tryz.sizeOf316⟩
instance conc330 : Conc Tryz.prog 330 := ⟨⟨_, Tryz.underlying330, rfl⟩⟩
instance aggr330 : Aggr Tryz.prog 330 := ⟨⟨_, Tryz.underlying330, rfl⟩⟩
instance siz330 : Siz Tryz.prog 330 4 := ⟨Tryz.sizeOf330⟩
instance uiface334 : UIface Tryz.prog 334 := ⟨⟨_, Tryz.underlying334⟩⟩
instance flat334 : Flat Tryz.prog 334 := ⟨⟨_, Tryz.underlying334, rfl⟩⟩
instance siz334 : Siz Tryz.prog 334 1 := ⟨Tryz.sizeOf334⟩
instance uslice337 : USlice Tryz.prog 337 9 := ⟨Tryz.underlying337⟩
instance conc337 : Conc Tryz.prog 337 := ⟨⟨_, Tryz.underlying337, rfl⟩⟩
instance flat337 : Flat Tryz.prog 337 := ⟨⟨_, Tryz.underlying337, rfl⟩⟩
instance siz337 : Siz Tryz.prog 337 1 := ⟨Tryz.sizeOf337⟩
instance conc340 : Conc Tryz.prog 340 := ⟨⟨_, Tryz.underlying340, rfl⟩⟩
instance aggr340 : Aggr Tryz.prog 340 := ⟨⟨_, Tryz.underlying340, rfl⟩⟩
instance siz340 : Siz Tryz.prog 340 5 := ⟨Tryz.sizeOf340⟩
instance uptr344 : UPtr Tryz.prog 344 346 := ⟨Tryz.underlying344⟩
instance conc344 : Conc Tryz.prog 344 := ⟨⟨_, Tryz.underlying344, rfl⟩⟩
instance flat344 : Flat Tryz.prog 344 := ⟨⟨_, Tryz.underlying344, rfl⟩⟩
instance siz344 : Siz Tryz.prog 344 1 := ⟨Tryz.sizeOf344⟩
instance conc346 : Conc Tryz.prog 346 := ⟨⟨_, Tryz.underlying346, rfl⟩⟩
instance aggr346 : Aggr Tryz.prog 346 := ⟨⟨_, Tryz.underlying346, rfl⟩⟩
instance siz346 : Siz Tryz.prog 346 2 := ⟨Tryz.sizeOf346⟩
instance uptr347 : UPtr Tryz.prog 347 350 := ⟨Tryz.underlying347⟩
instance conc347 : Conc Tryz.prog 347 := ⟨⟨_, Tryz.underlying347, rfl⟩⟩
instance flat347 : Flat Tryz.prog 347 := ⟨⟨_, Tryz.underlying347, rfl⟩⟩
instance siz347 : Siz Tryz.prog 347 1 := ⟨Tryz.sizeOf347⟩
instance uslice348 : USlice Tryz.prog 348 66 := ⟨Tryz.underlying348⟩
instance conc348 : Conc Tryz.prog 348 := ⟨⟨_, Tryz.underlying348, rfl⟩⟩
instance flat348 : Flat Tryz.prog 348 := ⟨⟨_, Tryz.underlying348, rfl⟩⟩
instance siz348 : Siz Tryz.prog 348 1 := ⟨Tryz.sizeOf348⟩
instance conc350 : Conc Tryz.prog 350 := ⟨⟨_, Tryz.underlying350, rfl⟩⟩
instance aggr350 : Aggr Tryz.prog 350 := ⟨⟨_, Tryz.underlying350, rfl⟩⟩
instance siz350 : Siz Tryz.prog 350 5 := ⟨Tryz.sizeOf350⟩
instance uptr356 : UPtr Tryz.prog 356 358 := ⟨Tryz.underlying356⟩
instance conc356 : Conc Tryz.prog 356 := ⟨⟨_, Tryz.underlying356, rfl⟩⟩
instance flat356 : Flat Tryz.prog 356 := ⟨⟨_, Tryz.underlying356, rfl⟩⟩
instance siz356 : Siz Tryz.prog 356 1 := ⟨Tryz.sizeOf356⟩
instance conc358 : Conc Tryz.prog 358 := ⟨⟨_, Tryz.underlying358, rfl⟩⟩
instance aggr358 : Aggr Tryz.prog 358 := ⟨⟨_, Tryz.underlying358, rfl⟩⟩
instance siz358 : Siz Tryz.prog 358 3 := ⟨Tryz.sizeOf358⟩
instance conc360 : Conc Tryz.prog 360 := ⟨⟨_, Tryz.underlying360, rfl⟩⟩
instance aggr360 : Aggr Tryz.prog 360 := ⟨⟨_, Tryz.underlying360, rfl⟩⟩
instance siz360 : Siz Tryz.prog 360 5 := ⟨Tryz.sizeOf360⟩
instance uptr361 : UPtr Tryz.prog 361 363 := ⟨Tryz.underlying361⟩
instance conc361 : Conc Tryz.prog 361 := ⟨⟨_, Tryz.underlying361, rfl⟩⟩
instance flat361 : Flat Tryz.prog 361 := ⟨⟨_, Tryz.underlying361, rfl⟩⟩
instance siz361 : Siz Tryz.prog 361 1 := ⟨Tryz.sizeOf361⟩
instance conc363 : Conc Tryz.prog 363 := ⟨⟨_, Tryz.underlying363, rfl⟩⟩
instance aggr363 : Aggr Tryz.prog 363 := ⟨⟨_, Tryz.underlying363, rfl⟩⟩
instance siz363 : Siz Tryz.prog 363 3 := ⟨Tryz.sizeOf363⟩
instance zer3 : Zer Tryz.prog 3 (Go.Value.int Go.IntKind.i64 0) := ⟨Tryz.zeroValue3⟩
instance zer5 : Zer Tryz.prog 5 (Go.Value.int Go.IntKind.u8 0) := ⟨Tryz.zeroValue5⟩
instance zer9 : Zer Tryz.prog 9 (Go.Value.string ⟨([] : List UInt8).toArray⟩) := ⟨Tryz.zeroValue9⟩
instance zer26 : Zer Tryz.prog 26 (.agg ([(Go.Value.bool Bool.false), (Go.Value.bool Bool.false), (Go.Value.bool Bool.false), (Go.Value.bool Bool.false), (Go.Value.bool Bool.false), (Go.Value.bool Bool.false), (Go.Value.bool Bool.false), (Go.Value.bool Bool.false), (Go.Value.bool Bool.false), (Go.Value.bool Bool.false)] : List Value).toArray) := ⟨Tryz.zeroValue26⟩
instance zer36 : Zer Tryz.prog 36 (Go.Value.pointer (Option.none)) := ⟨Tryz.zeroValue36⟩
instance zer43 : Zer Tryz.prog 43 (.agg ([(Go.Value.pointer (Option.none)), (Go.Value.slice (Option.none) 0 0)] : List Value).toArray) := ⟨Tryz.zeroValue43⟩
instance zer50 : Zer Tryz.prog 50 Go.Value.nilIface := ⟨Tryz.zeroValue50⟩
instance zer54 : Zer Tryz.prog 54 (.agg ([(Go.Value.slice (Option.none) 0 0), (Go.Value.int Go.IntKind.i64 0), (Go.Value.int Go.IntKind.i8 0)] : List Value).toArray) := ⟨Tryz.zeroValue54⟩
instance zer58 : Zer Tryz.prog 58 (.agg ([(Go.Value.bool Bool.false), (Go.Value.bool Bool.false), (Go.Value.bool Bool.false), (Go.Value.bool Bool.false), (Go.Value.bool Bool.false), (Go.Value.bool Bool.false), (Go.Value.bool Bool.false), (Go.Value.bool Bool.false), (Go.Value.bool Bool.false), (Go.Value.bool Bool.false)] : List Value).toArray) := ⟨Tryz.zeroValue58⟩
instance zer66 : Zer Tryz.prog 66 (Go.Value.slice (Option.none) 0 0) := ⟨Tryz.zeroValue66⟩
instance zer77 : Zer Tryz.prog 77 (.agg ([] : List Value).toArray) := ⟨Tryz.zeroValue77⟩
instance zer81 : Zer Tryz.prog 81 (.agg ([(Go.Value.int Go.IntKind.i64 0), (Go.Value.int Go.IntKind.i64 0), (Go.Value.int Go.IntKind.i64 0), (Go.Value.string ⟨([] : List UInt8).toArray⟩), (Go.Value.int Go.IntKind.u8 0)] : List Value).toArray) := ⟨Tryz.zeroValue81⟩
instance zer83 : Zer Tryz.prog 83 (Go.Value.pointer (Option.none)) := ⟨Tryz.zeroValue83⟩
instance zer86 : Zer Tryz.prog 86 (.agg ([(Go.Value.int Go.IntKind.i64 0), (Go.Value.int Go.IntKind.i64 0)] : List Value).toArray) := ⟨Tryz.zeroValue86⟩
instance zer88 : Zer Tryz.prog 88 (.agg ([(Go.Value.int Go.IntKind.i64 0), (Go.Value.int Go.IntKind.i64 0), (Go.Value.slice (Option.none) 0 0), (Go.Value.string ⟨([] : List UInt8).toArray⟩)] : List Value).toArray) := ⟨Tryz.zeroValue88⟩
instance zer89 : Zer Tryz.prog 89 (Go.Value.pointer (Option.none)) := ⟨Tryz.zeroValue89⟩
instance zer93 : Zer Tryz.prog 93 (Go.Value.pointer (Option.none)) := ⟨Tryz.zeroValue93⟩
instance zer98 : Zer Tryz.prog 98 (.agg ([Go.Value.nilIface, (Go.Value.slice (Option.none) 0 0), (Go.Value.int Go.IntKind.i64 0), (Go.Value.int Go.IntKind.i64 0)] : List Value).toArray) := ⟨Tryz.zeroValue98⟩
instance zer101 : Zer Tryz.prog 101 Go.Value.nilFunc := ⟨Tryz.zeroValue101⟩
instance zer109 : Zer Tryz.prog 109 Go.Value.nilIface := ⟨Tryz.zeroValue109⟩
instance zer111 : Zer Tryz.prog 111 (Go.Value.pointer (Option.none)) := ⟨Tryz.zeroValue111⟩
instance zer114 : Zer Tryz.prog 114 (.agg ([(Go.Value.string ⟨([] : List UInt8).toArray⟩)] : List Value).toArray) := ⟨Tryz.zeroValue114⟩
instance zer116 : Zer Tryz.prog 116 (.agg ([(Go.Value.string ⟨([] : List UInt8).toArray⟩), (Go.Value.int Go.IntKind.i64 0)] : List Value).toArray) := ⟨Tryz.zeroValue116⟩
instance zer121 : Zer Tryz.prog 121 (.agg ([(Go.Value.slice (Option.none) 0 0), (Go.Value.string ⟨([] : List UInt8).toArray⟩), (Go.Value.string ⟨([] : List UInt8).toArray⟩), (Go.Value.int Go.IntKind.u8 0), (Go.Value.bool Bool.false)] : List Value).toArray) := ⟨Tryz.zeroValue121⟩
instance zer126 : Zer Tryz.prog 126 (.agg ([(Go.Value.int Go.IntKind.i64 0), (Go.Value.int Go.IntKind.i64 0), (Go.Value.int Go.IntKind.i32 0), (Go.Value.int Go.IntKind.i64 0), (Go.Value.bool Bool.false), (Go.Value.slice (Option.none) 0 0)] : List Value).toArray) := ⟨Tryz.zeroValue126⟩
instance zer127 : Zer Tryz.prog 127 (Go.Value.pointer (Option.none)) := ⟨Tryz.zeroValue127⟩
instance zer129 : Zer Tryz.prog 129 (.agg ([(Go.Value.int Go.IntKind.i64 0), (Go.Value.int Go.IntKind.i64 0), (Go.Value.slice (Option.none) 0 0), (Go.Value.int Go.IntKind.i64 0)] : List Value).toArray) := ⟨Tryz.zeroValue129⟩
instance zer130 : Zer Tryz.prog 130 (Go.Value.pointer (Option.none)) := ⟨Tryz.zeroValue130⟩
instance zer132 : Zer Tryz.prog 132 (.agg ([(Go.Value.int Go.IntKind.i64 0), (Go.Value.int Go.IntKind.i64 0), (Go.Value.pointer (Option.none))] : List Value).toArray) := ⟨Tryz.zeroValue132⟩
instance zer133 : Zer Tryz.prog 133 (Go.Value.pointer (Option.none)) := ⟨Tryz.zeroValue133⟩
instance zer137 : Zer Tryz.prog 137 (.agg ([(Go.Value.bool Bool.false)] : List Value).toArray) := ⟨Tryz.zeroValue137⟩
instance zer139 : Zer Tryz.prog 139 (Go.Value.pointer (Option.none)) := ⟨Tryz.zeroValue139⟩
instance zer143 : Zer Tryz.prog 143 (.agg ([(Go.Value.slice (Option.none) 0 0), (Go.Value.pointer (Option.none))] : List Value).toArray) := ⟨Tryz.zeroValue143⟩
instance zer145 : Zer Tryz.prog 145 (Go.Value.string ⟨([] : List UInt8).toArray⟩) := ⟨Tryz.zeroValue145⟩
instance zer148 : Zer Tryz.prog 148 (.agg ([(Go.Value.string ⟨([] : List UInt8).toArray⟩), (Go.Value.string ⟨([] : List UInt8).toArray⟩), (Go.Value.slice (Option.none) 0 0)] : List Value).toArray) := ⟨Tryz.zeroValue148⟩
instance zer155 : Zer Tryz.prog 155 (.agg ([(Go.Value.string ⟨([] : List UInt8).toArray⟩)] : List Value).toArray) := ⟨Tryz.zeroValue155⟩
instance zer157 : Zer Tryz.prog 157 (.agg ([] : List Value).toArray) := ⟨Tryz.zeroValue157⟩
instance zer160 : Zer Tryz.prog 160 (.agg ([(Go.Value.string ⟨([] : List UInt8).toArray⟩)] : List Value).toArray) := ⟨Tryz.zeroValue160⟩
instance zer167 : Zer Tryz.prog 167 (Go.Value.pointer (Option.none)) := ⟨Tryz.zeroValue167⟩
instance zer169 : Zer Tryz.prog 169 (.agg ([(Go.Value.string ⟨([] : List UInt8).toArray⟩), (Go.Value.bool Bool.false), (Go.Value.bool Bool.false), (Go.Value.int Go.IntKind.i64 0), (Go.Value.int Go.IntKind.i64 0)] : List Value).toArray) := ⟨Tryz.zeroValue169⟩
instance zer171 : Zer Tryz.prog 171 (.agg ([] : List Value).toArray) := ⟨Tryz.zeroValue171⟩
instance zer180 : Zer Tryz.prog 180 (.agg ([(Go.Value.string ⟨([] : List UInt8).toArray⟩), (Go.Value.string ⟨([] : List UInt8).toArray⟩)] : List Value).toArray) := ⟨Tryz.zeroValue180⟩
instance zer189 : Zer Tryz.prog 189 (.agg ([(Go.Value.slice (Option.none) 0 0), (Go.Value.slice (Option.none) 0 0), (Go.Value.slice (Option.none) 0 0), (Go.Value.slice (Option.none) 0 0), (Go.Value.slice (Option.none) 0 0)] : List Value).toArray) := ⟨Tryz.zeroValue189⟩
instance zer194 : Zer Tryz.prog 194 (Go.Value.pointer (Option.none)) := ⟨Tryz.zeroValue194⟩
instance zer196 : Zer Tryz.prog 196 (.agg ([(Go.Value.string ⟨([] : List UInt8).toArray⟩), (Go.Value.slice (Option.none) 0 0)] : List Value).toArray) := ⟨Tryz.zeroValue196⟩
instance zer197 : Zer Tryz.prog 197 (Go.Value.pointer (Option.none)) := ⟨Tryz.zeroValue197⟩
instance zer198 : Zer Tryz.prog 198 (Go.Value.pointer (Option.none)) := ⟨Tryz.zeroValue198⟩
instance zer205 : Zer Tryz.prog 205 (.agg ([] : List Value).toArray) := ⟨Tryz.zeroValue205⟩
instance zer215 : Zer Tryz.prog 215 (.agg ([(Go.Value.int Go.IntKind.i64 0), (Go.Value.int Go.IntKind.i64 0), (Go.Value.int Go.IntKind.i64 0), (Go.Value.pointer (Option.none)), (Go.Value.string ⟨([] : List UInt8).toArray⟩)] : List Value).toArray) := ⟨Tryz.zeroValue215⟩
instance zer219 : Zer Tryz.prog 219 (Go.Value.pointer (Option.none)) := ⟨Tryz.zeroValue219⟩
instance zer221 : Zer Tryz.prog 221 (.agg ([(Go.Value.int Go.IntKind.i64 0), (Go.Value.int Go.IntKind.i64 0), (Go.Value.string ⟨([] : List UInt8).toArray⟩)] : List Value).toArray) := ⟨Tryz.zeroValue221⟩
instance zer222 : Zer Tryz.prog 222 (Go.Value.pointer (Option.none)) := ⟨Tryz.zeroValue222⟩
instance zer224 : Zer Tryz.prog 224 (Go.Value.pointer (Option.none)) := ⟨Tryz.zeroValue224⟩
instance zer227 : Zer Tryz.prog 227 (.agg ([(Go.Value.int Go.IntKind.i32 0), (Go.Value.int Go.IntKind.i64 0), (Go.Value.bool Bool.false), (Go.Value.pointer (Option.none)), Go.Value.nilFunc] : List Value).toArray) := ⟨Tryz.zeroValue227⟩
instance zer233 : Zer Tryz.prog 233 (.agg ([(Go.Value.string ⟨([] : List UInt8).toArray⟩), (Go.Value.string ⟨([] : List UInt8).toArray⟩), (Go.Value.int Go.IntKind.i64 0), (Go.Value.slice (Option.none) 0 0)] : List Value).toArray) := ⟨Tryz.zeroValue233⟩
instance zer237 : Zer Tryz.prog 237 (.agg ([(Go.Value.string ⟨([] : List UInt8).toArray⟩), (Go.Value.slice (Option.none) 0 0)] : List Value).toArray) := ⟨Tryz.zeroValue237⟩
instance zer241 : Zer Tryz.prog 241 (Go.Value.pointer (Option.none)) := ⟨Tryz.zeroValue241⟩
instance zer244 : Zer Tryz.prog 244 (.agg ([(Go.Value.string ⟨([] : List UInt8).toArray⟩), (Go.Value.string ⟨([] : List UInt8).toArray⟩)] : List Value).toArray) := ⟨Tryz.zeroValue244⟩
instance zer252 : Zer Tryz.prog 252 (.agg ([(Go.Value.string ⟨([] : List UInt8).toArray⟩), (Go.Value.string ⟨([] : List UInt8).toArray⟩)] : List Value).toArray) := ⟨Tryz.zeroValue252⟩
instance zer253 : Zer Tryz.prog 253 (.agg ([(Go.Value.string ⟨([] : List UInt8).toArray⟩), (Go.Value.string ⟨([] : List UInt8).toArray⟩), (Go.Value.string ⟨([] : List UInt8).toArray⟩), (Go.Value.string ⟨([] : List UInt8).toArray⟩), (Go.Value.string ⟨([] : List UInt8).toArray⟩), (Go.Value.string ⟨([] : List UInt8).toArray⟩), (Go.Value.string ⟨([] : List UInt8).toArray⟩), (Go.Value.string ⟨([] : List UInt8).toArray⟩), (Go.Value.string ⟨([] : List UInt8).toArray⟩), (Go.Value.string ⟨([] : List UInt8).toArray⟩), (Go.Value.string ⟨([] : List UInt8).toArray⟩), (Go.Value.string ⟨([] : List UInt8).toArray⟩), (Go.Value.string ⟨([] : List UInt8).toArray⟩), (Go.Value.string ⟨([] : List UInt8).toArray⟩), (Go.Value.string ⟨([] : List UInt8).toArray⟩), (Go.Value.string ⟨([] : List UInt8).toArray⟩), (Go.Value.string ⟨([] : List UInt8).toArray⟩), (Go.Value.string ⟨([] : List UInt8).toArray⟩), (Go.Value.string ⟨([] : List UInt8).toArray⟩), (Go.Value.string ⟨([] : List UInt8).toArray⟩), (Go.Value.string ⟨([] : List UInt8).toArray⟩), (Go.Value.string ⟨([] : List UInt8).toArray⟩), (Go.Value.string ⟨([] : List UInt8).toArray⟩), (Go.Value.string ⟨([] : List UInt8).toArray⟩)] : List Value).toArray) := ⟨Tryz.zeroValue253⟩
instance zer254 : Zer Tryz.prog 254 (.agg ([] : List Value).toArray) := ⟨Tryz.zeroValue254⟩
instance zer257 : Zer Tryz.prog 257 (.agg ([(Go.Value.string ⟨([] : List UInt8).toArray⟩), (Go.Value.int Go.IntKind.i64 0)] : List Value).toArray) := ⟨Tryz.zeroValue257⟩
instance zer264 : Zer Tryz.prog 264 (.agg ([(Go.Value.pointer (Option.none)), (Go.Value.int Go.IntKind.i64 0), (Go.Value.bool Bool.false)] : List Value).toArray) := ⟨Tryz.zeroValue264⟩
instance zer267 : Zer Tryz.prog 267 (.agg ([(Go.Value.bool Bool.false), (Go.Value.slice (Option.none) 0 0), Go.Value.nilFunc] : List Value).toArray) := ⟨Tryz.zeroValue267⟩
instance zer269 : Zer Tryz.prog 269 (Go.Value.pointer (Option.none)) := ⟨Tryz.zeroValue269⟩
instance zer270 : Zer Tryz.prog 270 (.agg ([(Go.Value.string ⟨([] : List UInt8).toArray⟩)] : List Value).toArray) := ⟨Tryz.zeroValue270⟩
instance zer274 : Zer Tryz.prog 274 (.agg ([(Go.Value.int Go.IntKind.u8 0), (Go.Value.int Go.IntKind.u8 0)] : List Value).toArray) := ⟨Tryz.zeroValue274⟩
instance zer275 : Zer Tryz.prog 275 (.agg ([(Go.Value.int Go.IntKind.u8 0), (Go.Value.int Go.IntKind.u8 0), (Go.Value.int Go.IntKind.u8 0), (Go.Value.int Go.IntKind.u8 0), (Go.Value.int Go.IntKind.u8 0), (Go.Value.int Go.IntKind.u8 0), (Go.Value.int Go.IntKind.u8 0), (Go.Value.int Go.IntKind.u8 0), (Go.Value.int Go.IntKind.u8 0), (Go.Value.int Go.IntKind.u8 0), (Go.Value.int Go.IntKind.u8 0), (Go.Value.int Go.IntKind.u8 0), (Go.Value.int Go.IntKind.u8 0), (Go.Value.int Go.IntKind.u8 0), (Go.Value.int Go.IntKind.u8 0), (Go.Value.int Go.IntKind.u8 0), (Go.Value.int Go.IntKind.u8 0), (Go.Value.int Go.IntKind.u8 0), (Go.Value.int Go.IntKind.u8 0), (Go.Value.int Go.IntKind.u8 0), (Go.Value.int Go.IntKind.u8 0), (Go.Value.int Go.IntKind.u8 0), (Go.Value.int Go.IntKind.u8 0), (Go.Value.int Go.IntKind.u8 0), (Go.Value.int Go.IntKind.u8 0), (Go.Value.int Go.IntKind.u8 0), (Go.Value.int Go.IntKind.u8 0), (Go.Value.int Go.IntKind.u8 0), (Go.Value.int Go.IntKind.u8 0), (Go.Value.int Go.IntKind.u8 0), (Go.Value.int Go.IntKind.u8 0), (Go.Value.int Go.IntKind.u8 0)] : List Value).toArray) := ⟨Tryz.zeroValue275⟩
instance zer276 : Zer Tryz.prog 276 (.agg ([(Go.Value.int Go.IntKind.i32 0), (Go.Value.int Go.IntKind.i32 0), (Go.Value.int Go.IntKind.i32 0)] : List Value).toArray) := ⟨Tryz.zeroValue276⟩
instance zer295 : Zer Tryz.prog 295 (.agg ([(Go.Value.string ⟨([] : List UInt8).toArray⟩), (Go.Value.string ⟨([] : List UInt8).toArray⟩), Go.Value.nilIface] : List Value).toArray) := ⟨Tryz.zeroValue295⟩
instance zer301 : Zer Tryz.prog 301 (.agg ([(Go.Value.string ⟨([] : List UInt8).toArray⟩)] : List Value).toArray) := ⟨Tryz.zeroValue301⟩
instance zer303 : Zer Tryz.prog 303 (.agg ([(Go.Value.int Go.IntKind.u8 0), (Go.Value.int Go.IntKind.u8 0), (Go.Value.int Go.IntKind.u8 0), (Go.Value.int Go.IntKind.u8 0), (Go.Value.int Go.IntKind.u8 0), (Go.Value.int Go.IntKind.u8 0), (Go.Value.int Go.IntKind.u8 0), (Go.Value.int Go.IntKind.u8 0), (Go.Value.int Go.IntKind.u8 0), (Go.Value.int Go.IntKind.u8 0), (Go.Value.int Go.IntKind.u8 0), (Go.Value.int Go.IntKind.u8 0), (Go.Value.int Go.IntKind.u8 0), (Go.Value.int Go.IntKind.u8 0), (Go.Value.int Go.IntKind.u8 0), (Go.Value.int Go.IntKind.u8 0), (Go.Value.int Go.IntKind.u8 0), (Go.Value.int Go.IntKind.u8 0), (Go.Value.int Go.IntKind.u8 0), (Go.Value.int Go.IntKind.u8 0), (Go.Value.int Go.IntKind.u8 0), (Go.Value.int Go.IntKind.u8 0), (Go.Value.int Go.IntKind.u8 0), (Go.Value.int Go.IntKind.u8 0)] : List Value).toArray) := ⟨Tryz.zeroValue303⟩
instance zer310 : Zer Tryz.prog 310 (.agg ([(Go.Value.int Go.IntKind.u64 0), (Go.Value.int Go.IntKind.u64 0), (Go.Value.int Go.IntKind.u64 0), (Go.Value.int Go.IntKind.u64 0), (Go.Value.int Go.IntKind.u64 0), (Go.Value.int Go.IntKind.u64 0), (Go.Value.int Go.IntKind.u64 0), (Go.Value.int Go.IntKind.u64 0), (Go.Value.int Go.IntKind.u64 0), (Go.Value.int Go.IntKind.u64 0), (Go.Value.int Go.IntKind.u64 0), (Go.Value.int Go.IntKind.u64 0), (Go.Value.int Go.IntKind.u64 0), (Go.Value.int Go.IntKind.u64 0), (Go.Value.int Go.IntKind.u64 0), (Go.Value.int Go.IntKind.u64 0), (Go.Value.int Go.IntKind.u64 0), (Go.Value.int Go.IntKind.u64 0), (Go.Value.int Go.IntKind.u64 0), (Go.Value.int Go.IntKind.u64 0)] : List Value).toArray) := ⟨Tryz.zeroValue310⟩
instance zer315 : Zer Tryz.prog 315 (.agg ([(Go.Value.int Go.IntKind.u8 0), (Go.Value.int Go.IntKind.u8 0), (Go.Value.int Go.IntKind.u8 0), (Go.Value.int Go.IntKind.u8 0), (Go.Value.int Go.IntKind.u8 0), (Go.Value.int Go.IntKind.u8 0), (Go.Value.int Go.IntKind.u8 0), (Go.Value.int Go.IntKind.u8 0), (Go.Value.int Go.IntKind.u8 0), (Go.Value.int Go.IntKind.u8 0), (Go.Value.int Go.IntKind.u8 0), (Go.Value.int Go.IntKind.u8 0), (Go.Value.int Go.IntKind.u8 0), (Go.Value.int Go.IntKind.u8 0), (Go.Value.int Go.IntKind.u8 0), (Go.Value.int Go.IntKind.u8 0), (Go.Value.int Go.IntKind.u8 0), (Go.Value.int Go.IntKind.u8 0), (Go.Value.int Go.IntKind.u8 0), (Go.Value.int Go.IntKind.u8 0), (Go.Value.int Go.IntKind.u8 0), (Go.Value.int Go.IntKind.u8 0), (Go.Value.int Go.IntKind.u8 0), (Go.Value.int Go.IntKind.u8 0), (Go.Value.int Go.IntKind.u8 0), (Go.Value.int Go.IntKind.u8 0), (Go.Value.int Go.IntKind.u8 0), (Go.Value.int Go.IntKind.u8 0), (Go.Value.int Go.IntKind.u8 0), (Go.Value.int Go.IntKind.u8 0), (Go.Value.int Go.IntKind.u8 0), (Go.Value.int Go.IntKind.u8 0)] : List Value).toArray) := ⟨Tryz.zeroValue315⟩
instance zer316 : Zer Tryz.prog 316 (.agg ([(Go.Value.int Go.IntKind.u8 0), (Go.Value.int Go.IntKind.u8 0), (Go.Value.int Go.IntKind.u8 0), (Go.Value.int Go.IntKind.u8 0), (Go.Value.int Go.IntKind.u8 0), (Go.Value.int Go.IntKind.u8 0), (Go.Value.int Go.IntKind.u8 0), (Go.Value.int Go.IntKind.u8 0), (Go.Value.int Go.IntKind.u8 0), (Go.Value.int Go.IntKind.u8 0), (Go.Value.int Go.IntKind.u8 0), (Go.Value.int Go.IntKind.u8 0), (Go.Value.int Go.IntKind.u8 0), (Go.Value.int Go.IntKind.u8 0), (Go.Value.int Go.IntKind.u8 0), (Go.Value.int Go.IntKind.u8 0), (Go.Value.int Go.IntKind.u8 0), (Go.Value.int Go.IntKind.u8 0), (Go.Value.int Go.IntKind.u8 0), (Go.Value.int Go.IntKind.u8 0), (Go.Value.int Go.IntKind.u8 0), (Go.Value.int Go.IntKind.u8 0), (Go.Value.int Go.IntKind.u8 0), (Go.Value.int Go.IntKind.u8 0), (Go.Value.int Go.IntKind.u8 0), (Go.Value.int Go.IntKind.u8 0), (Go.Value.int Go.IntKind.u8 0), (Go.Value.int Go.IntKind.u8 0), (Go.Value.int Go.IntKind.u8 0), (Go.Value.int Go.IntKind.u8 0), (Go.Value.int Go.IntKind.u8 0), (Go.Value.int Go.IntKind.u8 0), (Go.Value.int Go.IntKind.u8 0), (Go.Value.int Go.IntKind.u8 0), (Go.Value.int Go.IntKind.u8 0), (Go.Value.int Go.IntKind.u8 0), (Go.Value.int Go.IntKind.u8 0), (Go.Value.int Go.IntKind.u8 0), (Go.Value.int Go.IntKind.u8 0), (Go.Value.int Go.IntKind.u8 0), (Go.Value.int Go.IntKind.u8 0), (Go.Value.int Go.IntKind.u8 0), (Go.Value.int Go.IntKind.u8 0), (Go.Value.int Go.IntKind.u8 0), (Go.Value.int Go.IntKind.u8 0), (Go.Value.int Go.IntKind.u8 0), (Go.Value.int Go.IntKind.u8 0), (Go.Value.int Go.IntKind.u8 0), (Go.Value.int Go.IntKind.u8 0), (Go.Value.int Go.IntKind.u8 0), (Go.Value.int Go.IntKind.u8 0), (Go.Value.int Go.IntKind.u8 0), (Go.Value.int Go.IntKind.u8 0), (Go.Value.int Go.IntKind.u8 0), (Go.Value.int Go.IntKind.u8 0), (Go.Value.int Go.IntKind.u8 0), (Go.Value.int Go.IntKind.u8 0), (Go.Value.int Go.IntKind.u8 0), (Go.Value.int Go.IntKind.u8 0), (Go.Value.int Go.IntKind.u8 0), (Go.Value.int Go.IntKind.u8 0), (Go.Value.int Go.IntKind.u8 0), (Go.Value.int Go.IntKind.u8 0), (Go.Value.int Go.IntKind.u8 0)] : List Value).toArray) := ⟨Tryz.zeroValue316⟩
instance zer330 : Zer Tryz.prog 330 (.agg ([(Go.Value.int Go.IntKind.i64 0), (Go.Value.int Go.IntKind.i64 0), (Go.Value.slice (Option.none) 0 0), (Go.Value.map (Option.none))] : List Value).toArray) := ⟨Tryz.zeroValue330⟩
instance zer346 : Zer Tryz.prog 346 (.agg ([(Go.Value.int Go.IntKind.i64 0), (Go.Value.int Go.IntKind.i64 0)] : List Value).toArray) := ⟨Tryz.zeroValue346⟩
instance zer350 : Zer Tryz.prog 350 (.agg ([(Go.Value.int Go.IntKind.i64 0), (Go.Value.int Go.IntKind.i64 0), (Go.Value.slice (Option.none) 0 0), (Go.Value.slice (Option.none) 0 0), (Go.Value.slice (Option.none) 0 0)] : List Value).toArray) := ⟨Tryz.zeroValue350⟩
instance zer358 : Zer Tryz.prog 358 (.agg ([(Go.Value.int Go.IntKind.i64 0), (Go.Value.int Go.IntKind.i64 0), (Go.Value.slice (Option.none) 0 0)] : List Value).toArray) := ⟨Tryz.zeroValue358⟩
instance zer360 : Zer Tryz.prog 360 (.agg ([(Go.Value.int Go.IntKind.i64 0), (Go.Value.int Go.IntKind.i64 0), (Go.Value.string ⟨([] : List UInt8).toArray⟩), (Go.Value.string ⟨([] : List UInt8).toArray⟩), (Go.Value.slice (Option.none) 0 0)] : List Value).toArray) := ⟨Tryz.zeroValue360⟩
instance zer363 : Zer Tryz.prog 363 (.agg ([(Go.Value.int Go.IntKind.i64 0), (Go.Value.int Go.IntKind.i64 0), (Go.Value.slice (Option.none) 0 0)] : List Value).toArray) := ⟨Tryz.zeroValue363⟩
instance pla26 : Places Tryz.prog 26 [(0, 1), (1, 1), (2, 1), (3, 1), (4, 1), (5, 1), (6, 1), (7, 1), (8, 1), (9, 1)] := ⟨⟨_, Tryz.underlying26, fun w => by kernel_rfl⟩⟩
instance pla58 : Places Tryz.prog 58 [(0, 1), (1, 1), (2, 1), (3, 1), (4, 1), (5, 1), (6, 1), (7, 1), (8, 1), (9, 1)] := ⟨⟨_, Tryz.underlying58, fun w => by kernel_rfl⟩⟩
instance pla69 : Places Tryz.prog 69 [(0, 80), (80, 1)] := ⟨⟨_, Tryz.underlying69, fun w => by kernel_rfl⟩⟩
instance pla77 : Places Tryz.prog 77 [] := ⟨⟨_, Tryz.underlying77, fun w => by kernel_rfl⟩⟩
instance pla81 : Places Tryz.prog 81 [(0, 1), (1, 1), (2, 1), (3, 1), (4, 1)] := ⟨⟨_, Tryz.underlying81, fun w => by kernel_rfl⟩⟩
instance pla86 : Places Tryz.prog 86 [(0, 1), (1, 1)] := ⟨⟨_, Tryz.underlying86, fun w => by kernel_rfl⟩⟩
instance pla88 : Places Tryz.prog 88 [(0, 2), (2, 1), (3, 1)] := ⟨⟨_, Tryz.underlying88, fun w => by kernel_rfl⟩⟩
instance pla98 : Places Tryz.prog 98 [(0, 1), (1, 1), (2, 2)] := ⟨⟨_, Tryz.underlying98, fun w => by kernel_rfl⟩⟩
instance pla114 : Places Tryz.prog 114 [(0, 1)] := ⟨⟨_, Tryz.underlying114, fun w => by kernel_rfl⟩⟩
instance pla116 : Places Tryz.prog 116 [(0, 1), (1, 1)] := ⟨⟨_, Tryz.underlying116, fun w => by kernel_rfl⟩⟩
instance pla121 : Places Tryz.prog 121 [(0, 1), (1, 1), (2, 1), (3, 1), (4, 1)] := ⟨⟨_, Tryz.underlying121, fun w => by kernel_rfl⟩⟩
instance pla126 : Places Tryz.prog 126 [(0, 2), (2, 1), (3, 1), (4, 1), (5, 1)] := ⟨⟨_, Tryz.underlying126, fun w => by kernel_rfl⟩⟩
instance pla129 : Places Tryz.prog 129 [(0, 2), (2, 1), (3, 1)] := ⟨⟨_, Tryz.underlying129, fun w => by kernel_rfl⟩⟩
instance pla132 : Places Tryz.prog 132 [(0, 2), (2, 1)] := ⟨⟨_, Tryz.underlying132, fun w => by kernel_rfl⟩⟩
instance pla137 : Places Tryz.prog 137 [(0, 1)] := ⟨⟨_, Tryz.underlying137, fun w => by kernel_rfl⟩⟩
instance pla155 : Places Tryz.prog 155 [(0, 1)] := ⟨⟨_, Tryz.underlying155, fun w => by kernel_rfl⟩⟩
instance pla157 : Places Tryz.prog 157 [] := ⟨⟨_, Tryz.underlying157, fun w => by kernel_rfl⟩⟩
instance pla160 : Places Tryz.prog 160 [(0, 1)] := ⟨⟨_, Tryz.underlying160, fun w => by kernel_rfl⟩⟩
instance pla169 : Places Tryz.prog 169 [(0, 1), (1, 1), (2, 1), (3, 1), (4, 1)] := ⟨⟨_, Tryz.underlying169, fun w => by kernel_rfl⟩⟩
instance pla171 : Places Tryz.prog 171 [] := ⟨⟨_, Tryz.underlying171, fun w => by kernel_rfl⟩⟩
instance pla180 : Places Tryz.prog 180 [(0, 1), (1, 1)] := ⟨⟨_, Tryz.underlying180, fun w => by kernel_rfl⟩⟩
instance pla196 : Places Tryz.prog 196 [(0, 1), (1, 1)] := ⟨⟨_, Tryz.underlying196, fun w => by kernel_rfl⟩⟩
instance pla215 : Places Tryz.prog 215 [(0, 2), (2, 1), (3, 1), (4, 1)] := ⟨⟨_, Tryz.underlying215, fun w => by kernel_rfl⟩⟩
instance pla221 : Places Tryz.prog 221 [(0, 2), (2, 1)] := ⟨⟨_, Tryz.underlying221, fun w => by kernel_rfl⟩⟩
instance pla227 : Places Tryz.prog 227 [(0, 1), (1, 1), (2, 1), (3, 1), (4, 1)] := ⟨⟨_, Tryz.underlying227, fun w => by kernel_rfl⟩⟩
instance pla233 : Places Tryz.prog 233 [(0, 1), (1, 1), (2, 1), (3, 1)] := ⟨⟨_, Tryz.underlying233, fun w => by kernel_rfl⟩⟩
instance pla237 : Places Tryz.prog 237 [(0, 1), (1, 1)] := ⟨⟨_, Tryz.underlying237, fun w => by kernel_rfl⟩⟩
instance pla244 : Places Tryz.prog 244 [(0, 1), (1, 1)] := ⟨⟨_, Tryz.underlying244, fun w => by kernel_rfl⟩⟩
instance pla254 : Places Tryz.prog 254 [] := ⟨⟨_, Tryz.underlying254, fun w => by kernel_rfl⟩⟩
instance pla257 : Places Tryz.prog 257 [(0, 1), (1, 1)] := ⟨⟨_, Tryz.underlying257, fun w => by kernel_rfl⟩⟩
instance pla264 : Places Tryz.prog 264 [(0, 1), (1, 1), (2, 1)] := ⟨⟨_, Tryz.underlying264, fun w => by kernel_rfl⟩⟩
instance pla267 : Places Tryz.prog 267 [(0, 1), (1, 1), (2, 1)] := ⟨⟨_, Tryz.underlying267, fun w => by kernel_rfl⟩⟩
instance pla270 : Places Tryz.prog 270 [(0, 1)] := ⟨⟨_, Tryz.underlying270, fun w => by kernel_rfl⟩⟩
instance pla274 : Places Tryz.prog 274 [(0, 1), (1, 1)] := ⟨⟨_, Tryz.underlying274, fun w => by kernel_rfl⟩⟩
instance pla295 : Places Tryz.prog 295 [(0, 1), (1, 1), (2, 1)] := ⟨⟨_, Tryz.underlying295, fun w => by kernel_rfl⟩⟩
instance pla301 : Places Tryz.prog 301 [(0, 1)] := ⟨⟨_, Tryz.underlying301, fun w => by kernel_rfl⟩⟩
instance pla330 : Places Tryz.prog 330 [(0, 2), (2, 1), (3, 1)] := ⟨⟨_, Tryz.underlying330, fun w => by kernel_rfl⟩⟩
instance pla346 : Places Tryz.prog 346 [(0, 2)] := ⟨⟨_, Tryz.underlying346, fun w => by kernel_rfl⟩⟩
instance pla350 : Places Tryz.prog 350 [(0, 2), (2, 1), (3, 1), (4, 1)] := ⟨⟨_, Tryz.underlying350, fun w => by kernel_rfl⟩⟩
instance pla358 : Places Tryz.prog 358 [(0, 2), (2, 1)] := ⟨⟨_, Tryz.underlying358, fun w => by kernel_rfl⟩⟩
instance pla360 : Places Tryz.prog 360 [(0, 2), (2, 1), (3, 1), (4, 1)] := ⟨⟨_, Tryz.underlying360, fun w => by kernel_rfl⟩⟩
instance pla363 : Places Tryz.prog 363 [(0, 2), (2, 1)] := ⟨⟨_, Tryz.underlying363, fun w => by kernel_rfl⟩⟩
instance fat26_0 : FAt Tryz.prog 26 0 0 := ⟨FieldAt.mk Tryz.underlying26 rfl rfl Tryz.sizeOf4 rfl⟩
instance fat26_1 : FAt Tryz.prog 26 1 1 := ⟨FieldAt.mk Tryz.underlying26 rfl rfl Tryz.sizeOf4 rfl⟩
instance fat26_2 : FAt Tryz.prog 26 2 2 := ⟨FieldAt.mk Tryz.underlying26 rfl rfl Tryz.sizeOf4 rfl⟩
instance fat26_3 : FAt Tryz.prog 26 3 3 := ⟨FieldAt.mk Tryz.underlying26 rfl rfl Tryz.sizeOf4 rfl⟩
instance fat26_4 : FAt Tryz.prog 26 4 4 := ⟨FieldAt.mk Tryz.underlying26 rfl rfl Tryz.sizeOf4 rfl⟩
instance fat26_5 : FAt Tryz.prog 26 5 5 := ⟨FieldAt.mk Tryz.underlying26 rfl rfl Tryz.sizeOf4 rfl⟩
instance fat26_6 : FAt Tryz.prog 26 6 6 := ⟨FieldAt.mk Tryz.underlying26 rfl rfl Tryz.sizeOf4 rfl⟩
instance fat26_7 : FAt Tryz.prog 26 7 7 := ⟨FieldAt.mk Tryz.underlying26 rfl rfl Tryz.sizeOf4 rfl⟩
instance fat26_8 : FAt Tryz.prog 26 8 8 := ⟨FieldAt.mk Tryz.underlying26 rfl rfl Tryz.sizeOf4 rfl⟩
instance fat26_9 : FAt Tryz.prog 26 9 9 := ⟨FieldAt.mk Tryz.underlying26 rfl rfl Tryz.sizeOf4 rfl⟩
instance fat43_0 : FAt Tryz.prog 43 0 0 := ⟨FieldAt.mk Tryz.underlying43 rfl rfl Tryz.sizeOf40 rfl⟩
instance fat43_1 : FAt Tryz.prog 43 1 1 := ⟨FieldAt.mk Tryz.underlying43 rfl rfl Tryz.sizeOf41 rfl⟩
instance fat54_0 : FAt Tryz.prog 54 0 0 := ⟨FieldAt.mk Tryz.underlying54 rfl rfl Tryz.sizeOf41 rfl⟩
instance fat54_1 : FAt Tryz.prog 54 1 1 := ⟨FieldAt.mk Tryz.underlying54 rfl rfl Tryz.sizeOf3 rfl⟩
instance fat54_2 : FAt Tryz.prog 54 2 2 := ⟨FieldAt.mk Tryz.underlying54 rfl rfl Tryz.sizeOf52 rfl⟩
instance fat58_0 : FAt Tryz.prog 58 0 0 := ⟨FieldAt.mk Tryz.underlying58 rfl rfl Tryz.sizeOf4 rfl⟩
instance fat58_1 : FAt Tryz.prog 58 1 1 := ⟨FieldAt.mk Tryz.underlying58 rfl rfl Tryz.sizeOf4 rfl⟩
instance fat58_2 : FAt Tryz.prog 58 2 2 := ⟨FieldAt.mk Tryz.underlying58 rfl rfl Tryz.sizeOf4 rfl⟩
instance fat58_3 : FAt Tryz.prog 58 3 3 := ⟨FieldAt.mk Tryz.underlying58 rfl rfl Tryz.sizeOf4 rfl⟩
instance fat58_4 : FAt Tryz.prog 58 4 4 := ⟨FieldAt.mk Tryz.underlying58 rfl rfl Tryz.sizeOf4 rfl⟩
instance fat58_5 : FAt Tryz.prog 58 5 5 := ⟨FieldAt.mk Tryz.underlying58 rfl rfl Tryz.sizeOf4 rfl⟩
instance fat58_6 : FAt Tryz.prog 58 6 6 := ⟨FieldAt.mk Tryz.underlying58 rfl rfl Tryz.sizeOf4 rfl⟩
instance fat58_7 : FAt Tryz.prog 58 7 7 := ⟨FieldAt.mk Tryz.underlying58 rfl rfl Tryz.sizeOf4 rfl⟩
instance fat58_8 : FAt Tryz.prog 58 8 8 := ⟨FieldAt.mk Tryz.underlying58 rfl rfl Tryz.sizeOf4 rfl⟩
instance fat58_9 : FAt Tryz.prog 58 9 9 := ⟨FieldAt.mk Tryz.underlying58 rfl rfl Tryz.sizeOf4 rfl⟩
instance fat69_0 : FAt Tryz.prog 69 0 0 := ⟨FieldAt.mk Tryz.underlying69 rfl rfl Tryz.sizeOf67 rfl⟩
instance fat69_1 : FAt Tryz.prog 69 1 80 := ⟨FieldAt.mk Tryz.underlying69 rfl rfl Tryz.sizeOf4 rfl⟩
instance fat71_0 : FAt Tryz.prog 71 0 0 := ⟨FieldAt.mk Tryz.underlying71 rfl rfl Tryz.sizeOf37 rfl⟩
instance fat71_1 : FAt Tryz.prog 71 1 1 := ⟨FieldAt.mk Tryz.underlying71 rfl rfl Tryz.sizeOf36 rfl⟩
instance fat71_2 : FAt Tryz.prog 71 2 2 := ⟨FieldAt.mk Tryz.underlying71 rfl rfl Tryz.sizeOf62 rfl⟩
instance fat71_3 : FAt Tryz.prog 71 3 3 := ⟨FieldAt.mk Tryz.underlying71 rfl rfl Tryz.sizeOf3 rfl⟩
instance fat71_4 : FAt Tryz.prog 71 4 4 := ⟨FieldAt.mk Tryz.underlying71 rfl rfl Tryz.sizeOf63 rfl⟩
instance fat71_5 : FAt Tryz.prog 71 5 5 := ⟨FieldAt.mk Tryz.underlying71 rfl rfl Tryz.sizeOf3 rfl⟩
instance fat71_6 : FAt Tryz.prog 71 6 6 := ⟨FieldAt.mk Tryz.underlying71 rfl rfl Tryz.sizeOf4 rfl⟩
instance fat71_7 : FAt Tryz.prog 71 7 7 := ⟨FieldAt.mk Tryz.underlying71 rfl rfl Tryz.sizeOf9 rfl⟩
instance fat71_8 : FAt Tryz.prog 71 8 8 := ⟨FieldAt.mk Tryz.underlying71 rfl rfl Tryz.sizeOf3 rfl⟩
instance fat71_9 : FAt Tryz.prog 71 9 9 := ⟨FieldAt.mk Tryz.underlying71 rfl rfl Tryz.sizeOf64 rfl⟩
instance fat71_10 : FAt Tryz.prog 71 10 10 := ⟨FieldAt.mk Tryz.underlying71 rfl rfl Tryz.sizeOf65 rfl⟩
instance fat71_11 : FAt Tryz.prog 71 11 11 := ⟨FieldAt.mk Tryz.underlying71 rfl rfl Tryz.sizeOf66 rfl⟩
instance fat71_12 : FAt Tryz.prog 71 12 12 := ⟨FieldAt.mk Tryz.underlying71 rfl rfl Tryz.sizeOf69 rfl⟩
instance fat81_0 : FAt Tryz.prog 81 0 0 := ⟨FieldAt.mk Tryz.underlying81 rfl rfl Tryz.sizeOf3 rfl⟩
instance fat81_1 : FAt Tryz.prog 81 1 1 := ⟨FieldAt.mk Tryz.underlying81 rfl rfl Tryz.sizeOf3 rfl⟩
instance fat81_2 : FAt Tryz.prog 81 2 2 := ⟨FieldAt.mk Tryz.underlying81 rfl rfl Tryz.sizeOf3 rfl⟩
instance fat81_3 : FAt Tryz.prog 81 3 3 := ⟨FieldAt.mk Tryz.underlying81 rfl rfl Tryz.sizeOf9 rfl⟩
instance fat81_4 : FAt Tryz.prog 81 4 4 := ⟨FieldAt.mk Tryz.underlying81 rfl rfl Tryz.sizeOf5 rfl⟩
instance fat86_0 : FAt Tryz.prog 86 0 0 := ⟨FieldAt.mk Tryz.underlying86 rfl rfl Tryz.sizeOf3 rfl⟩
instance fat86_1 : FAt Tryz.prog 86 1 1 := ⟨FieldAt.mk Tryz.underlying86 rfl rfl Tryz.sizeOf3 rfl⟩
instance fat88_1 : FAt Tryz.prog 88 1 2 := ⟨FieldAt.mk Tryz.underlying88 rfl rfl Tryz.sizeOf64 rfl⟩
instance fat88_2 : FAt Tryz.prog 88 2 3 := ⟨FieldAt.mk Tryz.underlying88 rfl rfl Tryz.sizeOf9 rfl⟩
instance fat98_0 : FAt Tryz.prog 98 0 0 := ⟨FieldAt.mk Tryz.underlying98 rfl rfl Tryz.sizeOf95 rfl⟩
instance fat98_1 : FAt Tryz.prog 98 1 1 := ⟨FieldAt.mk Tryz.underlying98 rfl rfl Tryz.sizeOf96 rfl⟩
instance fat98_2 : FAt Tryz.prog 98 2 2 := ⟨FieldAt.mk Tryz.underlying98 rfl rfl Tryz.sizeOf86 rfl⟩
instance fat114_0 : FAt Tryz.prog 114 0 0 := ⟨FieldAt.mk Tryz.underlying114 rfl rfl Tryz.sizeOf9 rfl⟩
instance fat116_0 : FAt Tryz.prog 116 0 0 := ⟨FieldAt.mk Tryz.underlying116 rfl rfl Tryz.sizeOf114 rfl⟩
instance fat116_1 : FAt Tryz.prog 116 1 1 := ⟨FieldAt.mk Tryz.underlying116 rfl rfl Tryz.sizeOf3 rfl⟩
instance fat121_0 : FAt Tryz.prog 121 0 0 := ⟨FieldAt.mk Tryz.underlying121 rfl rfl Tryz.sizeOf64 rfl⟩
instance fat121_1 : FAt Tryz.prog 121 1 1 := ⟨FieldAt.mk Tryz.underlying121 rfl rfl Tryz.sizeOf9 rfl⟩
instance fat121_2 : FAt Tryz.prog 121 2 2 := ⟨FieldAt.mk Tryz.underlying121 rfl rfl Tryz.sizeOf9 rfl⟩
instance fat121_4 : FAt Tryz.prog 121 4 4 := ⟨FieldAt.mk Tryz.underlying121 rfl rfl Tryz.sizeOf4 rfl⟩
instance fat126_1 : FAt Tryz.prog 126 1 2 := ⟨FieldAt.mk Tryz.underlying126 rfl rfl Tryz.sizeOf21 rfl⟩
instance fat126_2 : FAt Tryz.prog 126 2 3 := ⟨FieldAt.mk Tryz.underlying126 rfl rfl Tryz.sizeOf3 rfl⟩
instance fat126_4 : FAt Tryz.prog 126 4 5 := ⟨FieldAt.mk Tryz.underlying126 rfl rfl Tryz.sizeOf96 rfl⟩
instance fat129_0 : FAt Tryz.prog 129 0 0 := ⟨FieldAt.mk Tryz.underlying129 rfl rfl Tryz.sizeOf86 rfl⟩
instance fat129_1 : FAt Tryz.prog 129 1 2 := ⟨FieldAt.mk Tryz.underlying129 rfl rfl Tryz.sizeOf96 rfl⟩
instance fat132_0 : FAt Tryz.prog 132 0 0 := ⟨FieldAt.mk Tryz.underlying132 rfl rfl Tryz.sizeOf86 rfl⟩
instance fat132_1 : FAt Tryz.prog 132 1 2 := ⟨FieldAt.mk Tryz.underlying132 rfl rfl Tryz.sizeOf83 rfl⟩
instance fat137_0 : FAt Tryz.prog 137 0 0 := ⟨FieldAt.mk Tryz.underlying137 rfl rfl Tryz.sizeOf4 rfl⟩
instance fat143_0 : FAt Tryz.prog 143 0 0 := ⟨FieldAt.mk Tryz.underlying143 rfl rfl Tryz.sizeOf28 rfl⟩
instance fat143_1 : FAt Tryz.prog 143 1 1 := ⟨FieldAt.mk Tryz.underlying143 rfl rfl Tryz.sizeOf141 rfl⟩
instance fat148_0 : FAt Tryz.prog 148 0 0 := ⟨FieldAt.mk Tryz.underlying148 rfl rfl Tryz.sizeOf145 rfl⟩
instance fat148_1 : FAt Tryz.prog 148 1 1 := ⟨FieldAt.mk Tryz.underlying148 rfl rfl Tryz.sizeOf145 rfl⟩
instance fat148_2 : FAt Tryz.prog 148 2 2 := ⟨FieldAt.mk Tryz.underlying148 rfl rfl Tryz.sizeOf146 rfl⟩
instance fat160_0 : FAt Tryz.prog 160 0 0 := ⟨FieldAt.mk Tryz.underlying160 rfl rfl Tryz.sizeOf9 rfl⟩
instance fat169_0 : FAt Tryz.prog 169 0 0 := ⟨FieldAt.mk Tryz.underlying169 rfl rfl Tryz.sizeOf114 rfl⟩
instance fat169_1 : FAt Tryz.prog 169 1 1 := ⟨FieldAt.mk Tryz.underlying169 rfl rfl Tryz.sizeOf4 rfl⟩
instance fat169_2 : FAt Tryz.prog 169 2 2 := ⟨FieldAt.mk Tryz.underlying169 rfl rfl Tryz.sizeOf4 rfl⟩
instance fat169_3 : FAt Tryz.prog 169 3 3 := ⟨FieldAt.mk Tryz.underlying169 rfl rfl Tryz.sizeOf3 rfl⟩
instance fat169_4 : FAt Tryz.prog 169 4 4 := ⟨FieldAt.mk Tryz.underlying169 rfl rfl Tryz.sizeOf3 rfl⟩
instance fat180_1 : FAt Tryz.prog 180 1 1 := ⟨FieldAt.mk Tryz.underlying180 rfl rfl Tryz.sizeOf9 rfl⟩
instance fat196_1 : FAt Tryz.prog 196 1 1 := ⟨FieldAt.mk Tryz.underlying196 rfl rfl Tryz.sizeOf64 rfl⟩
instance fat201_1 : FAt Tryz.prog 201 1 1 := ⟨FieldAt.mk Tryz.underlying201 rfl rfl Tryz.sizeOf64 rfl⟩
instance fat202_1 : FAt Tryz.prog 202 1 1 := ⟨FieldAt.mk Tryz.underlying202 rfl rfl Tryz.sizeOf64 rfl⟩
instance fat215_1 : FAt Tryz.prog 215 1 2 := ⟨FieldAt.mk Tryz.underlying215 rfl rfl Tryz.sizeOf3 rfl⟩
instance fat215_2 : FAt Tryz.prog 215 2 3 := ⟨FieldAt.mk Tryz.underlying215 rfl rfl Tryz.sizeOf83 rfl⟩
instance fat215_3 : FAt Tryz.prog 215 3 4 := ⟨FieldAt.mk Tryz.underlying215 rfl rfl Tryz.sizeOf9 rfl⟩
instance fat227_0 : FAt Tryz.prog 227 0 0 := ⟨FieldAt.mk Tryz.underlying227 rfl rfl Tryz.sizeOf21 rfl⟩
instance fat227_1 : FAt Tryz.prog 227 1 1 := ⟨FieldAt.mk Tryz.underlying227 rfl rfl Tryz.sizeOf3 rfl⟩
instance fat227_2 : FAt Tryz.prog 227 2 2 := ⟨FieldAt.mk Tryz.underlying227 rfl rfl Tryz.sizeOf4 rfl⟩
instance fat227_3 : FAt Tryz.prog 227 3 3 := ⟨FieldAt.mk Tryz.underlying227 rfl rfl Tryz.sizeOf224 rfl⟩
instance fat227_4 : FAt Tryz.prog 227 4 4 := ⟨FieldAt.mk Tryz.underlying227 rfl rfl Tryz.sizeOf225 rfl⟩
instance fat233_0 : FAt Tryz.prog 233 0 0 := ⟨FieldAt.mk Tryz.underlying233 rfl rfl Tryz.sizeOf9 rfl⟩
instance fat233_1 : FAt Tryz.prog 233 1 1 := ⟨FieldAt.mk Tryz.underlying233 rfl rfl Tryz.sizeOf9 rfl⟩
instance fat233_2 : FAt Tryz.prog 233 2 2 := ⟨FieldAt.mk Tryz.underlying233 rfl rfl Tryz.sizeOf3 rfl⟩
instance fat233_3 : FAt Tryz.prog 233 3 3 := ⟨FieldAt.mk Tryz.underlying233 rfl rfl Tryz.sizeOf28 rfl⟩
instance fat237_1 : FAt Tryz.prog 237 1 1 := ⟨FieldAt.mk Tryz.underlying237 rfl rfl Tryz.sizeOf28 rfl⟩
instance fat244_0 : FAt Tryz.prog 244 0 0 := ⟨FieldAt.mk Tryz.underlying244 rfl rfl Tryz.sizeOf9 rfl⟩
instance fat244_1 : FAt Tryz.prog 244 1 1 := ⟨FieldAt.mk Tryz.underlying244 rfl rfl Tryz.sizeOf9 rfl⟩
instance fat257_0 : FAt Tryz.prog 257 0 0 := ⟨FieldAt.mk Tryz.underlying257 rfl rfl Tryz.sizeOf9 rfl⟩
instance fat257_1 : FAt Tryz.prog 257 1 1 := ⟨FieldAt.mk Tryz.underlying257 rfl rfl Tryz.sizeOf3 rfl⟩
instance fat264_0 : FAt Tryz.prog 264 0 0 := ⟨FieldAt.mk Tryz.underlying264 rfl rfl Tryz.sizeOf222 rfl⟩
instance fat264_1 : FAt Tryz.prog 264 1 1 := ⟨FieldAt.mk Tryz.underlying264 rfl rfl Tryz.sizeOf3 rfl⟩
instance fat264_2 : FAt Tryz.prog 264 2 2 := ⟨FieldAt.mk Tryz.underlying264 rfl rfl Tryz.sizeOf4 rfl⟩
instance fat267_0 : FAt Tryz.prog 267 0 0 := ⟨FieldAt.mk Tryz.underlying267 rfl rfl Tryz.sizeOf4 rfl⟩
instance fat267_1 : FAt Tryz.prog 267 1 1 := ⟨FieldAt.mk Tryz.underlying267 rfl rfl Tryz.sizeOf28 rfl⟩
instance fat267_2 : FAt Tryz.prog 267 2 2 := ⟨FieldAt.mk Tryz.underlying267 rfl rfl Tryz.sizeOf23 rfl⟩
instance fat270_0 : FAt Tryz.prog 270 0 0 := ⟨FieldAt.mk Tryz.underlying270 rfl rfl Tryz.sizeOf9 rfl⟩
instance fat274_0 : FAt Tryz.prog 274 0 0 := ⟨FieldAt.mk Tryz.underlying274 rfl rfl Tryz.sizeOf5 rfl⟩
instance fat274_1 : FAt Tryz.prog 274 1 1 := ⟨FieldAt.mk Tryz.underlying274 rfl rfl Tryz.sizeOf5 rfl⟩
instance fat330_1 : FAt Tryz.prog 330 1 2 := ⟨FieldAt.mk Tryz.underlying330 rfl rfl Tryz.sizeOf96 rfl⟩
instance fat340_0 : FAt Tryz.prog 340 0 0 := ⟨FieldAt.mk Tryz.underlying340 rfl rfl Tryz.sizeOf64 rfl⟩
instance fat340_1 : FAt Tryz.prog 340 1 1 := ⟨FieldAt.mk Tryz.underlying340 rfl rfl Tryz.sizeOf9 rfl⟩
instance fat340_2 : FAt Tryz.prog 340 2 2 := ⟨FieldAt.mk Tryz.underlying340 rfl rfl Tryz.sizeOf9 rfl⟩
instance fat350_1 : FAt Tryz.prog 350 1 2 := ⟨FieldAt.mk Tryz.underlying350 rfl rfl Tryz.sizeOf66 rfl⟩
instance fat350_2 : FAt Tryz.prog 350 2 3 := ⟨FieldAt.mk Tryz.underlying350 rfl rfl Tryz.sizeOf28 rfl⟩
instance fat350_3 : FAt Tryz.prog 350 3 4 := ⟨FieldAt.mk Tryz.underlying350 rfl rfl Tryz.sizeOf348 rfl⟩
instance fat358_1 : FAt Tryz.prog 358 1 2 := ⟨FieldAt.mk Tryz.underlying358 rfl rfl Tryz.sizeOf96 rfl⟩
instance fat360_1 : FAt Tryz.prog 360 1 2 := ⟨FieldAt.mk Tryz.underlying360 rfl rfl Tryz.sizeOf9 rfl⟩
instance fat360_2 : FAt Tryz.prog 360 2 3 := ⟨FieldAt.mk Tryz.underlying360 rfl rfl Tryz.sizeOf9 rfl⟩
instance fat360_3 : FAt Tryz.prog 360 3 4 := ⟨FieldAt.mk Tryz.underlying360 rfl rfl Tryz.sizeOf28 rfl⟩
instance fat363_1 : FAt Tryz.prog 363 1 2 := ⟨FieldAt.mk Tryz.underlying363 rfl rfl Tryz.sizeOf28 rfl⟩
instance cal2 : Cal Tryz.prog 2 := ⟨Tryz.call2⟩
instance fun2 : Fun Tryz.prog 2 Tryz.f2 := ⟨Tryz.func2⟩
instance cal3 : Cal Tryz.prog 3 := ⟨Tryz.call3⟩
instance fun3 : Fun Tryz.prog 3 Tryz.f3 := ⟨Tryz.func3⟩
instance cal4 : Cal Tryz.prog 4 := ⟨Tryz.call4⟩
instance fun4 : Fun Tryz.prog 4 Tryz.f4 := ⟨Tryz.func4⟩
instance cal5 : Cal Tryz.prog 5 := ⟨Tryz.call5⟩
instance fun5 : Fun Tryz.prog 5 Tryz.f5 := ⟨Tryz.func5⟩
instance cal6 : Cal Tryz.prog 6 := ⟨Tryz.call6⟩
instance fun6 : Fun Tryz.prog 6 Tryz.f6 := ⟨Tryz.func6⟩
instance cal7 : Cal Tryz.prog 7 := ⟨Tryz.call7⟩
instance fun7 : Fun Tryz.prog 7 Tryz.f7 := ⟨Tryz.func7⟩
instance cal8 : Cal Tryz.prog 8 := ⟨Tryz.call8⟩
instance fun8 : Fun Tryz.prog 8 Tryz.f8 := ⟨Tryz.func8⟩
instance cal9 : Cal Tryz.prog 9 := ⟨Tryz.call9⟩
instance fun9 : Fun Tryz.prog 9 Tryz.f9 := ⟨Tryz.func9⟩
instance cal10 : Cal Tryz.prog 10 := ⟨Tryz.call10⟩
instance fun10 : Fun Tryz.prog 10 Tryz.f10 := ⟨Tryz.func10⟩
instance cal11 : Cal Tryz.prog 11 := ⟨Tryz.call11⟩
instance fun11 : Fun Tryz.prog 11 Tryz.f11 := ⟨Tryz.func11⟩
instance cal12 : Cal Tryz.prog 12 := ⟨Tryz.call12⟩
instance fun12 : Fun Tryz.prog 12 Tryz.f12 := ⟨Tryz.func12⟩
instance cal13 : Cal Tryz.prog 13 := ⟨Tryz.call13⟩
instance fun13 : Fun Tryz.prog 13 Tryz.f13 := ⟨Tryz.func13⟩
instance cal14 : Cal Tryz.prog 14 := ⟨Tryz.call14⟩
instance fun14 : Fun Tryz.prog 14 Tryz.f14 := ⟨Tryz.func14⟩
instance cal15 : Cal Tryz.prog 15 := ⟨Tryz.call15⟩
instance fun15 : Fun Tryz.prog 15 Tryz.f15 := ⟨Tryz.func15⟩
instance cal16 : Cal Tryz.prog 16 := ⟨Tryz.call16⟩
instance fun16 : Fun Tryz.prog 16 Tryz.f16 := ⟨Tryz.func16⟩
instance cal17 : Cal Tryz.prog 17 := ⟨Tryz.call17⟩
instance fun17 : Fun Tryz.prog 17 Tryz.f17 := ⟨Tryz.func17⟩
instance cal18 : Cal Tryz.prog 18 := ⟨Tryz.call18⟩
instance fun18 : Fun Tryz.prog 18 Tryz.f18 := ⟨Tryz.func18⟩
instance cal19 : Cal Tryz.prog 19 := ⟨Tryz.call19⟩
instance fun19 : Fun Tryz.prog 19 Tryz.f19 := ⟨Tryz.func19⟩
instance cal20 : Cal Tryz.prog 20 := ⟨Tryz.call20⟩
instance fun20 : Fun Tryz.prog 20 Tryz.f20 := ⟨Tryz.func20⟩
instance cal21 : Cal Tryz.prog 21 := ⟨Tryz.call21⟩
instance fun21 : Fun Tryz.prog 21 Tryz.f21 := ⟨Tryz.func21⟩
instance cal22 : Cal Tryz.prog 22 := ⟨Tryz.call22⟩
instance fun22 : Fun Tryz.prog 22 Tryz.f22 := ⟨Tryz.func22⟩
instance cal23 : Cal Tryz.prog 23 := ⟨Tryz.call23⟩
instance fun23 : Fun Tryz.prog 23 Tryz.f23 := ⟨Tryz.func23⟩
instance cal24 : Cal Tryz.prog 24 := ⟨Tryz.call24⟩
instance fun24 : Fun Tryz.prog 24 Tryz.f24 := ⟨Tryz.func24⟩
instance cal25 : Cal Tryz.prog 25 := ⟨Tryz.call25⟩
instance fun25 : Fun Tryz.prog 25 Tryz.f25 := ⟨Tryz.func25⟩
instance cal26 : Cal Tryz.prog 26 := ⟨Tryz.call26⟩
instance fun26 : Fun Tryz.prog 26 Tryz.f26 := ⟨Tryz.func26⟩
instance cal27 : Cal Tryz.prog 27 := ⟨Tryz.call27⟩
instance fun27 : Fun Tryz.prog 27 Tryz.f27 := ⟨Tryz.func27⟩
instance cal28 : Cal Tryz.prog 28 := ⟨Tryz.call28⟩
instance fun28 : Fun Tryz.prog 28 Tryz.f28 := ⟨Tryz.func28⟩
instance cal29 : Cal Tryz.prog 29 := ⟨Tryz.call29⟩
instance fun29 : Fun Tryz.prog 29 Tryz.f29 := ⟨Tryz.func29⟩
instance cal30 : Cal Tryz.prog 30 := ⟨Tryz.call30⟩
instance fun30 : Fun Tryz.prog 30 Tryz.f30 := ⟨Tryz.func30⟩
instance cal31 : Cal Tryz.prog 31 := ⟨Tryz.call31⟩
instance fun31 : Fun Tryz.prog 31 Tryz.f31 := ⟨Tryz.func31⟩
instance cal32 : Cal Tryz.prog 32 := ⟨Tryz.call32⟩
instance fun32 : Fun Tryz.prog 32 Tryz.f32 := ⟨Tryz.func32⟩
instance cal33 : Cal Tryz.prog 33 := ⟨Tryz.call33⟩
instance fun33 : Fun Tryz.prog 33 Tryz.f33 := ⟨Tryz.func33⟩
instance cal34 : Cal Tryz.prog 34 := ⟨Tryz.call34⟩
instance fun34 : Fun Tryz.prog 34 Tryz.f34 := ⟨Tryz.func34⟩
instance cal36 : Cal Tryz.prog 36 := ⟨Tryz.call36⟩
instance fun36 : Fun Tryz.prog 36 Tryz.f36 := ⟨Tryz.func36⟩
instance cal37 : Cal Tryz.prog 37 := ⟨Tryz.call37⟩
instance fun37 : Fun Tryz.prog 37 Tryz.f37 := ⟨Tryz.func37⟩
instance cal38 : Cal Tryz.prog 38 := ⟨Tryz.call38⟩
instance fun38 : Fun Tryz.prog 38 Tryz.f38 := ⟨Tryz.func38⟩
instance cal39 : Cal Tryz.prog 39 := ⟨Tryz.call39⟩
instance fun39 : Fun Tryz.prog 39 Tryz.f39 := ⟨Tryz.func39⟩
instance cal40 : Cal Tryz.prog 40 := ⟨Tryz.call40⟩
instance fun40 : Fun Tryz.prog 40 Tryz.f40 := ⟨Tryz.func40⟩
instance cal41 : Cal Tryz.prog 41 := ⟨Tryz.call41⟩
instance fun41 : Fun Tryz.prog 41 Tryz.f41 := ⟨Tryz.func41⟩
instance cal42 : Cal Tryz.prog 42 := ⟨Tryz.call42⟩
instance fun42 : Fun Tryz.prog 42 Tryz.f42 := ⟨Tryz.func42⟩
instance cal43 : Cal Tryz.prog 43 := ⟨Tryz.call43⟩
instance fun43 : Fun Tryz.prog 43 Tryz.f43 := ⟨Tryz.func43⟩
instance cal44 : Cal Tryz.prog 44 := ⟨Tryz.call44⟩
instance fun44 : Fun Tryz.prog 44 Tryz.f44 := ⟨Tryz.func44⟩
instance cal45 : Cal Tryz.prog 45 := ⟨Tryz.call45⟩
instance fun45 : Fun Tryz.prog 45 Tryz.f45 := ⟨Tryz.func45⟩
instance cal46 : Cal Tryz.prog 46 := ⟨Tryz.call46⟩
instance fun46 : Fun Tryz.prog 46 Tryz.f46 := ⟨Tryz.func46⟩
instance cal47 : Cal Tryz.prog 47 := ⟨Tryz.call47⟩
instance fun47 : Fun Tryz.prog 47 Tryz.f47 := ⟨Tryz.func47⟩
instance cal48 : Cal Tryz.prog 48 := ⟨Tryz.call48⟩
instance fun48 : Fun Tryz.prog 48 Tryz.f48 := ⟨Tryz.func48⟩
instance cal49 : Cal Tryz.prog 49 := ⟨Tryz.call49⟩
instance fun49 : Fun Tryz.prog 49 Tryz.f49 := ⟨Tryz.func49⟩
instance cal50 : Cal Tryz.prog 50 := ⟨Tryz.call50⟩
instance fun50 : Fun Tryz.prog 50 Tryz.f50 := ⟨Tryz.func50⟩
instance cal51 : Cal Tryz.prog 51 := ⟨Tryz.call51⟩
instance fun51 : Fun Tryz.prog 51 Tryz.f51 := ⟨Tryz.func51⟩
instance cal52 : Cal Tryz.prog 52 := ⟨Tryz.call52⟩
instance fun52 : Fun Tryz.prog 52 Tryz.f52 := ⟨Tryz.func52⟩
instance cal53 : Cal Tryz.prog 53 := ⟨Tryz.call53⟩
instance fun53 : Fun Tryz.prog 53 Tryz.f53 := ⟨Tryz.func53⟩
instance cal54 : Cal Tryz.prog 54 := ⟨Tryz.call54⟩
instance fun54 : Fun Tryz.prog 54 Tryz.f54 := ⟨Tryz.func54⟩
instance cal55 : Cal Tryz.prog 55 := ⟨Tryz.call55⟩
instance fun55 : Fun Tryz.prog 55 Tryz.f55 := ⟨Tryz.func55⟩
instance cal56 : Cal Tryz.prog 56 := ⟨Tryz.call56⟩
instance fun56 : Fun Tryz.prog 56 Tryz.f56 := ⟨Tryz.func56⟩
instance cal57 : Cal Tryz.prog 57 := ⟨Tryz.call57⟩
instance fun57 : Fun Tryz.prog 57 Tryz.f57 := ⟨Tryz.func57⟩
instance cal58 : Cal Tryz.prog 58 := ⟨Tryz.call58⟩
instance fun58 : Fun Tryz.prog 58 Tryz.f58 := ⟨Tryz.func58⟩
instance cal59 : Cal Tryz.prog 59 := ⟨Tryz.call59⟩
instance fun59 : Fun Tryz.prog 59 Tryz.f59 := ⟨Tryz.func59⟩
instance cal60 : Cal Tryz.prog 60 := ⟨Tryz.call60⟩
instance fun60 : Fun Tryz.prog 60 Tryz.f60 := ⟨Tryz.func60⟩
instance cal61 : Cal Tryz.prog 61 := ⟨Tryz.call61⟩
instance fun61 : Fun Tryz.prog 61 Tryz.f61 := ⟨Tryz.func61⟩
instance cal62 : Cal Tryz.prog 62 := ⟨Tryz.call62⟩
instance fun62 : Fun Tryz.prog 62 Tryz.f62 := ⟨Tryz.func62⟩
instance cal63 : Cal Tryz.prog 63 := ⟨Tryz.call63⟩
instance fun63 : Fun Tryz.prog 63 Tryz.f63 := ⟨Tryz.func63⟩
instance cal64 : Cal Tryz.prog 64 := ⟨Tryz.call64⟩
instance fun64 : Fun Tryz.prog 64 Tryz.f64 := ⟨Tryz.func64⟩
instance cal65 : Cal Tryz.prog 65 := ⟨Tryz.call65⟩
instance fun65 : Fun Tryz.prog 65 Tryz.f65 := ⟨Tryz.func65⟩
instance cal66 : Cal Tryz.prog 66 := ⟨Tryz.call66⟩
instance fun66 : Fun Tryz.prog 66 Tryz.f66 := ⟨Tryz.func66⟩
instance cal67 : Cal Tryz.prog 67 := ⟨Tryz.call67⟩
instance fun67 : Fun Tryz.prog 67 Tryz.f67 := ⟨Tryz.func67⟩
instance cal68 : Cal Tryz.prog 68 := ⟨Tryz.call68⟩
instance fun68 : Fun Tryz.prog 68 Tryz.f68 := ⟨Tryz.func68⟩
instance cal69 : Cal Tryz.prog 69 := ⟨Tryz.call69⟩
instance fun69 : Fun Tryz.prog 69 Tryz.f69 := ⟨Tryz.func69⟩
instance cal70 : Cal Tryz.prog 70 := ⟨Tryz.call70⟩
instance fun70 : Fun Tryz.prog 70 Tryz.f70 := ⟨Tryz.func70⟩
instance cal71 : Cal Tryz.prog 71 := ⟨Tryz.call71⟩
instance fun71 : Fun Tryz.prog 71 Tryz.f71 := ⟨Tryz.func71⟩
instance cal72 : Cal Tryz.prog 72 := ⟨Tryz.call72⟩
instance fun72 : Fun Tryz.prog 72 Tryz.f72 := ⟨Tryz.func72⟩
instance cal73 : Cal Tryz.prog 73 := ⟨Tryz.call73⟩
instance fun73 : Fun Tryz.prog 73 Tryz.f73 := ⟨Tryz.func73⟩
instance cal74 : Cal Tryz.prog 74 := ⟨Tryz.call74⟩
instance fun74 : Fun Tryz.prog 74 Tryz.f74 := ⟨Tryz.func74⟩
instance cal75 : Cal Tryz.prog 75 := ⟨Tryz.call75⟩
instance fun75 : Fun Tryz.prog 75 Tryz.f75 := ⟨Tryz.func75⟩
instance cal76 : Cal Tryz.prog 76 := ⟨Tryz.call76⟩
instance fun76 : Fun Tryz.prog 76 Tryz.f76 := ⟨Tryz.func76⟩
instance cal77 : Cal Tryz.prog 77 := ⟨Tryz.call77⟩
instance fun77 : Fun Tryz.prog 77 Tryz.f77 := ⟨Tryz.func77⟩
instance cal78 : Cal Tryz.prog 78 := ⟨Tryz.call78⟩
instance fun78 : Fun Tryz.prog 78 Tryz.f78 := ⟨Tryz.func78⟩
instance cal79 : Cal Tryz.prog 79 := ⟨Tryz.call79⟩
instance fun79 : Fun Tryz.prog 79 Tryz.f79 := ⟨Tryz.func79⟩
instance cal80 : Cal Tryz.prog 80 := ⟨Tryz.call80⟩
instance fun80 : Fun Tryz.prog 80 Tryz.f80 := ⟨Tryz.func80⟩
instance cal81 : Cal Tryz.prog 81 := ⟨Tryz.call81⟩
instance fun81 : Fun Tryz.prog 81 Tryz.f81 := ⟨Tryz.func81⟩
instance cal82 : Cal Tryz.prog 82 := ⟨Tryz.call82⟩
instance fun82 : Fun Tryz.prog 82 Tryz.f82 := ⟨Tryz.func82⟩
instance cal83 : Cal Tryz.prog 83 := ⟨Tryz.call83⟩
instance fun83 : Fun Tryz.prog 83 Tryz.f83 := ⟨Tryz.func83⟩
instance cal84 : Cal Tryz.prog 84 := ⟨Tryz.call84⟩
instance fun84 : Fun Tryz.prog 84 Tryz.f84 := ⟨Tryz.func84⟩
instance cal85 : Cal Tryz.prog 85 := ⟨Tryz.call85⟩
instance fun85 : Fun Tryz.prog 85 Tryz.f85 := ⟨Tryz.func85⟩
instance cal86 : Cal Tryz.prog 86 := ⟨Tryz.call86⟩
instance fun86 : Fun Tryz.prog 86 Tryz.f86 := ⟨Tryz.func86⟩
instance cal87 : Cal Tryz.prog 87 := ⟨Tryz.call87⟩
instance fun87 : Fun Tryz.prog 87 Tryz.f87 := ⟨Tryz.func87⟩
instance cal88 : Cal Tryz.prog 88 := ⟨Tryz.call88⟩
instance fun88 : Fun Tryz.prog 88 Tryz.f88 := ⟨Tryz.func88⟩
instance cal89 : Cal Tryz.prog 89 := ⟨Tryz.call89⟩
instance fun89 : Fun Tryz.prog 89 Tryz.f89 := ⟨Tryz.func89⟩
instance cal90 : Cal Tryz.prog 90 := ⟨Tryz.call90⟩
instance fun90 : Fun Tryz.prog 90 Tryz.f90 := ⟨Tryz.func90⟩
instance cal91 : Cal Tryz.prog 91 := ⟨Tryz.call91⟩
instance fun91 : Fun Tryz.prog 91 Tryz.f91 := ⟨Tryz.func91⟩
instance cal92 : Cal Tryz.prog 92 := ⟨Tryz.call92⟩
instance fun92 : Fun Tryz.prog 92 Tryz.f92 := ⟨Tryz.func92⟩
instance cal93 : Cal Tryz.prog 93 := ⟨Tryz.call93⟩
instance fun93 : Fun Tryz.prog 93 Tryz.f93 := ⟨Tryz.func93⟩
instance cal94 : Cal Tryz.prog 94 := ⟨Tryz.call94⟩
instance fun94 : Fun Tryz.prog 94 Tryz.f94 := ⟨Tryz.func94⟩
instance cal95 : Cal Tryz.prog 95 := ⟨Tryz.call95⟩
instance fun95 : Fun Tryz.prog 95 Tryz.f95 := ⟨Tryz.func95⟩
instance cal96 : Cal Tryz.prog 96 := ⟨Tryz.call96⟩
instance fun96 : Fun Tryz.prog 96 Tryz.f96 := ⟨Tryz.func96⟩
instance cal97 : Cal Tryz.prog 97 := ⟨Tryz.call97⟩
instance fun97 : Fun Tryz.prog 97 Tryz.f97 := ⟨Tryz.func97⟩
instance cal98 : Cal Tryz.prog 98 := ⟨Tryz.call98⟩
instance fun98 : Fun Tryz.prog 98 Tryz.f98 := ⟨Tryz.func98⟩
instance cal99 : Cal Tryz.prog 99 := ⟨Tryz.call99⟩
instance fun99 : Fun Tryz.prog 99 Tryz.f99 := ⟨Tryz.func99⟩
instance cal100 : Cal Tryz.prog 100 := ⟨Tryz.call100⟩
instance fun100 : Fun Tryz.prog 100 Tryz.f100 := ⟨Tryz.func100⟩
instance cal101 : Cal Tryz.prog 101 := ⟨Tryz.call101⟩
instance fun101 : Fun Tryz.prog 101 Tryz.f101 := ⟨Tryz.func101⟩
instance cal102 : Cal Tryz.prog 102 := ⟨Tryz.call102⟩
instance fun102 : Fun Tryz.prog 102 Tryz.f102 := ⟨Tryz.func102⟩
instance cal103 : Cal Tryz.prog 103 := ⟨Tryz.call103⟩
instance fun103 : Fun Tryz.prog 103 Tryz.f103 := ⟨Tryz.func103⟩
instance cal104 : Cal Tryz.prog 104 := ⟨Tryz.call104⟩
instance fun104 : Fun Tryz.prog 104 Tryz.f104 := ⟨Tryz.func104⟩
instance cal105 : Cal Tryz.prog 105 := ⟨Tryz.call105⟩
instance fun105 : Fun Tryz.prog 105 Tryz.f105 := ⟨Tryz.func105⟩
instance cal106 : Cal Tryz.prog 106 := ⟨Tryz.call106⟩
instance fun106 : Fun Tryz.prog 106 Tryz.f106 := ⟨Tryz.func106⟩
instance cal107 : Cal Tryz.prog 107 := ⟨Tryz.call107⟩
instance fun107 : Fun Tryz.prog 107 Tryz.f107 := ⟨Tryz.func107⟩
instance cal108 : Cal Tryz.prog 108 := ⟨Tryz.call108⟩
instance fun108 : Fun Tryz.prog 108 Tryz.f108 := ⟨Tryz.func108⟩
instance cal109 : Cal Tryz.prog 109 := ⟨Tryz.call109⟩
instance fun109 : Fun Tryz.prog 109 Tryz.f109 := ⟨Tryz.func109⟩
instance cal110 : Cal Tryz.prog 110 := ⟨Tryz.call110⟩
instance fun110 : Fun Tryz.prog 110 Tryz.f110 := ⟨Tryz.func110⟩
instance cal111 : Cal Tryz.prog 111 := ⟨Tryz.call111⟩
instance fun111 : Fun Tryz.prog 111 Tryz.f111 := ⟨Tryz.func111⟩
instance cal112 : Cal Tryz.prog 112 := ⟨Tryz.call112⟩
instance fun112 : Fun Tryz.prog 112 Tryz.f112 := ⟨Tryz.func112⟩
instance cal113 : Cal Tryz.prog 113 := ⟨Tryz.call113⟩
instance fun113 : Fun Tryz.prog 113 Tryz.f113 := ⟨Tryz.func113⟩
instance cal114 : Cal Tryz.prog 114 := ⟨Tryz.call114⟩
instance fun114 : Fun Tryz.prog 114 Tryz.f114 := ⟨Tryz.func114⟩
instance cal115 : Cal Tryz.prog 115 := ⟨Tryz.call115⟩
instance fun115 : Fun Tryz.prog 115 Tryz.f115 := ⟨Tryz.func115⟩
instance cal116 : Cal Tryz.prog 116 := ⟨Tryz.call116⟩
instance fun116 : Fun Tryz.prog 116 Tryz.f116 := ⟨Tryz.func116⟩
instance cal117 : Cal Tryz.prog 117 := ⟨Tryz.call117⟩
instance fun117 : Fun Tryz.prog 117 Tryz.f117 := ⟨Tryz.func117⟩
instance cal118 : Cal Tryz.prog 118 := ⟨Tryz.call118⟩
instance fun118 : Fun Tryz.prog 118 Tryz.f118 := ⟨Tryz.func118⟩
instance cal119 : Cal Tryz.prog 119 := ⟨Tryz.call119⟩
instance fun119 : Fun Tryz.prog 119 Tryz.f119 := ⟨Tryz.func119⟩
instance cal120 : Cal Tryz.prog 120 := ⟨Tryz.call120⟩
instance fun120 : Fun Tryz.prog 120 Tryz.f120 := ⟨Tryz.func120⟩
instance cal121 : Cal Tryz.prog 121 := ⟨Tryz.call121⟩
instance fun121 : Fun Tryz.prog 121 Tryz.f121 := ⟨Tryz.func121⟩
instance cal122 : Cal Tryz.prog 122 := ⟨Tryz.call122⟩
instance fun122 : Fun Tryz.prog 122 Tryz.f122 := ⟨Tryz.func122⟩
instance cal123 : Cal Tryz.prog 123 := ⟨Tryz.call123⟩
instance fun123 : Fun Tryz.prog 123 Tryz.f123 := ⟨Tryz.func123⟩
instance cal124 : Cal Tryz.prog 124 := ⟨Tryz.call124⟩
instance fun124 : Fun Tryz.prog 124 Tryz.f124 := ⟨Tryz.func124⟩
instance cal125 : Cal Tryz.prog 125 := ⟨Tryz.call125⟩
instance fun125 : Fun Tryz.prog 125 Tryz.f125 := ⟨Tryz.func125⟩
instance cal126 : Cal Tryz.prog 126 := ⟨Tryz.call126⟩
instance fun126 : Fun Tryz.prog 126 Tryz.f126 := ⟨Tryz.func126⟩
instance cal127 : Cal Tryz.prog 127 := ⟨Tryz.call127⟩
instance fun127 : Fun Tryz.prog 127 Tryz.f127 := ⟨Tryz.func127⟩
instance cal128 : Cal Tryz.prog 128 := ⟨Tryz.call128⟩
instance fun128 : Fun Tryz.prog 128 Tryz.f128 := ⟨Tryz.func128⟩
instance cal129 : Cal Tryz.prog 129 := ⟨Tryz.call129⟩
instance fun129 : Fun Tryz.prog 129 Tryz.f129 := ⟨Tryz.func129⟩
instance cal130 : Cal Tryz.prog 130 := ⟨Tryz.call130⟩
instance fun130 : Fun Tryz.prog 130 Tryz.f130 := ⟨Tryz.func130⟩
instance cal131 : Cal Tryz.prog 131 := ⟨Tryz.call131⟩
instance fun131 : Fun Tryz.prog 131 Tryz.f131 := ⟨Tryz.func131⟩
instance cal132 : Cal Tryz.prog 132 := ⟨Tryz.call132⟩
instance fun132 : Fun Tryz.prog 132 Tryz.f132 := ⟨Tryz.func132⟩
instance cal133 : Cal Tryz.prog 133 := ⟨Tryz.call133⟩
instance fun133 : Fun Tryz.prog 133 Tryz.f133 := ⟨Tryz.func133⟩
instance cal134 : Cal Tryz.prog 134 := ⟨Tryz.call134⟩
instance fun134 : Fun Tryz.prog 134 Tryz.f134 := ⟨Tryz.func134⟩
instance cal135 : Cal Tryz.prog 135 := ⟨Tryz.call135⟩
instance fun135 : Fun Tryz.prog 135 Tryz.f135 := ⟨Tryz.func135⟩
instance cal136 : Cal Tryz.prog 136 := ⟨Tryz.call136⟩
instance fun136 : Fun Tryz.prog 136 Tryz.f136 := ⟨Tryz.func136⟩
instance cal137 : Cal Tryz.prog 137 := ⟨Tryz.call137⟩
instance fun137 : Fun Tryz.prog 137 Tryz.f137 := ⟨Tryz.func137⟩
instance cal138 : Cal Tryz.prog 138 := ⟨Tryz.call138⟩
instance fun138 : Fun Tryz.prog 138 Tryz.f138 := ⟨Tryz.func138⟩
instance cal139 : Cal Tryz.prog 139 := ⟨Tryz.call139⟩
instance fun139 : Fun Tryz.prog 139 Tryz.f139 := ⟨Tryz.func139⟩
instance cal140 : Cal Tryz.prog 140 := ⟨Tryz.call140⟩
instance fun140 : Fun Tryz.prog 140 Tryz.f140 := ⟨Tryz.func140⟩
instance cal141 : Cal Tryz.prog 141 := ⟨Tryz.call141⟩
instance fun141 : Fun Tryz.prog 141 Tryz.f141 := ⟨Tryz.func141⟩
instance cal142 : Cal Tryz.prog 142 := ⟨Tryz.call142⟩
instance fun142 : Fun Tryz.prog 142 Tryz.f142 := ⟨Tryz.func142⟩
instance cal143 : Cal Tryz.prog 143 := ⟨Tryz.call143⟩
instance fun143 : Fun Tryz.prog 143 Tryz.f143 := ⟨Tryz.func143⟩
instance cal144 : Cal Tryz.prog 144 := ⟨Tryz.call144⟩
instance fun144 : Fun Tryz.prog 144 Tryz.f144 := ⟨Tryz.func144⟩
instance cal145 : Cal Tryz.prog 145 := ⟨Tryz.call145⟩
instance fun145 : Fun Tryz.prog 145 Tryz.f145 := ⟨Tryz.func145⟩
instance cal146 : Cal Tryz.prog 146 := ⟨Tryz.call146⟩
instance fun146 : Fun Tryz.prog 146 Tryz.f146 := ⟨Tryz.func146⟩
instance cal147 : Cal Tryz.prog 147 := ⟨Tryz.call147⟩
instance fun147 : Fun Tryz.prog 147 Tryz.f147 := ⟨Tryz.func147⟩
instance cal148 : Cal Tryz.prog 148 := ⟨Tryz.call148⟩
instance fun148 : Fun Tryz.prog 148 Tryz.f148 := ⟨Tryz.func148⟩
instance cal149 : Cal Tryz.prog 149 := ⟨Tryz.call149⟩
instance fun149 : Fun Tryz.prog 149 Tryz.f149 := ⟨Tryz.func149⟩
instance cal150 : Cal Tryz.prog 150 := ⟨Tryz.call150⟩
instance fun150 : Fun Tryz.prog 150 Tryz.f150 := ⟨Tryz.func150⟩
instance cal151 : Cal Tryz.prog 151 := ⟨Tryz.call151⟩
instance fun151 : Fun Tryz.prog 151 Tryz.f151 := ⟨Tryz.func151⟩
instance cal152 : Cal Tryz.prog 152 := ⟨Tryz.call152⟩
instance fun152 : Fun Tryz.prog 152 Tryz.f152 := ⟨Tryz.func152⟩
instance cal153 : Cal Tryz.prog 153 := ⟨Tryz.call153⟩
instance fun153 : Fun Tryz.prog 153 Tryz.f153 := ⟨Tryz.func153⟩
instance cal154 : Cal Tryz.prog 154 := ⟨Tryz.call154⟩
instance fun154 : Fun Tryz.prog 154 Tryz.f154 := ⟨Tryz.func154⟩
instance cal155 : Cal Tryz.prog 155 := ⟨Tryz.call155⟩
instance fun155 : Fun Tryz.prog 155 Tryz.f155 := ⟨Tryz.func155⟩
instance cal156 : Cal Tryz.prog 156 := ⟨Tryz.call156⟩
instance fun156 : Fun Tryz.prog 156 Tryz.f156 := ⟨Tryz.func156⟩
instance cal157 : Cal Tryz.prog 157 := ⟨Tryz.call157⟩
instance fun157 : Fun Tryz.prog 157 Tryz.f157 := ⟨Tryz.func157⟩
instance cal158 : Cal Tryz.prog 158 := ⟨Tryz.call158⟩
instance fun158 : Fun Tryz.prog 158 Tryz.f158 := ⟨Tryz.func158⟩
instance cal159 : Cal Tryz.prog 159 := ⟨Tryz.call159⟩
instance fun159 : Fun Tryz.prog 159 Tryz.f159 := ⟨Tryz.func159⟩
instance cal160 : Cal Tryz.prog 160 := ⟨Tryz.call160⟩
instance fun160 : Fun Tryz.prog 160 Tryz.f160 := ⟨Tryz.func160⟩
instance cal161 : Cal Tryz.prog 161 := ⟨Tryz.call161⟩
instance fun161 : Fun Tryz.prog 161 Tryz.f161 := ⟨Tryz.func161⟩
instance cal162 : Cal Tryz.prog 162 := ⟨Tryz.call162⟩
instance fun162 : Fun Tryz.prog 162 Tryz.f162 := ⟨Tryz.func162⟩
instance cal163 : Cal Tryz.prog 163 := ⟨Tryz.call163⟩
instance fun163 : Fun Tryz.prog 163 Tryz.f163 := ⟨Tryz.func163⟩
instance cal164 : Cal Tryz.prog 164 := ⟨Tryz.call164⟩
instance fun164 : Fun Tryz.prog 164 Tryz.f164 := ⟨Tryz.func164⟩
instance cal165 : Cal Tryz.prog 165 := ⟨Tryz.call165⟩
instance fun165 : Fun Tryz.prog 165 Tryz.f165 := ⟨Tryz.func165⟩
instance cal166 : Cal Tryz.prog 166 := ⟨Tryz.call166⟩
instance fun166 : Fun Tryz.prog 166 Tryz.f166 := ⟨Tryz.func166⟩
instance cal167 : Cal Tryz.prog 167 := ⟨Tryz.call167⟩
instance fun167 : Fun Tryz.prog 167 Tryz.f167 := ⟨Tryz.func167⟩
instance cal168 : Cal Tryz.prog 168 := ⟨Tryz.call168⟩
instance fun168 : Fun Tryz.prog 168 Tryz.f168 := ⟨Tryz.func168⟩
instance cal169 : Cal Tryz.prog 169 := ⟨Tryz.call169⟩
instance fun169 : Fun Tryz.prog 169 Tryz.f169 := ⟨Tryz.func169⟩
instance cal170 : Cal Tryz.prog 170 := ⟨Tryz.call170⟩
instance fun170 : Fun Tryz.prog 170 Tryz.f170 := ⟨Tryz.func170⟩
instance cal171 : Cal Tryz.prog 171 := ⟨Tryz.call171⟩
instance fun171 : Fun Tryz.prog 171 Tryz.f171 := ⟨Tryz.func171⟩
instance cal172 : Cal Tryz.prog 172 := ⟨Tryz.call172⟩
instance fun172 : Fun Tryz.prog 172 Tryz.f172 := ⟨Tryz.func172⟩
instance cal173 : Cal Tryz.prog 173 := ⟨Tryz.call173⟩
instance fun173 : Fun Tryz.prog 173 Tryz.f173 := ⟨Tryz.func173⟩
instance cal174 : Cal Tryz.prog 174 := ⟨Tryz.call174⟩
instance fun174 : Fun Tryz.prog 174 Tryz.f174 := ⟨Tryz.func174⟩
instance cal175 : Cal Tryz.prog 175 := ⟨Tryz.call175⟩
instance fun175 : Fun Tryz.prog 175 Tryz.f175 := ⟨Tryz.func175⟩
instance cal176 : Cal Tryz.prog 176 := ⟨Tryz.call176⟩
instance fun176 : Fun Tryz.prog 176 Tryz.f176 := ⟨Tryz.func176⟩
instance cal177 : Cal Tryz.prog 177 := ⟨Tryz.call177⟩
instance fun177 : Fun Tryz.prog 177 Tryz.f177 := ⟨Tryz.func177⟩
instance cal178 : Cal Tryz.prog 178 := ⟨Tryz.call178⟩
instance fun178 : Fun Tryz.prog 178 Tryz.f178 := ⟨Tryz.func178⟩
instance cal179 : Cal Tryz.prog 179 := ⟨Tryz.call179⟩
instance fun179 : Fun Tryz.prog 179 Tryz.f179 := ⟨Tryz.func179⟩
instance cal180 : Cal Tryz.prog 180 := ⟨Tryz.call180⟩
instance fun180 : Fun Tryz.prog 180 Tryz.f180 := ⟨Tryz.func180⟩
instance cal182 : Cal Tryz.prog 182 := ⟨Tryz.call182⟩
instance fun182 : Fun Tryz.prog 182 Tryz.f182 := ⟨Tryz.func182⟩
instance cal183 : Cal Tryz.prog 183 := ⟨Tryz.call183⟩
instance fun183 : Fun Tryz.prog 183 Tryz.f183 := ⟨Tryz.func183⟩
instance cal184 : Cal Tryz.prog 184 := ⟨Tryz.call184⟩
instance fun184 : Fun Tryz.prog 184 Tryz.f184 := ⟨Tryz.func184⟩
instance cal185 : Cal Tryz.prog 185 := ⟨Tryz.call185⟩
instance fun185 : Fun Tryz.prog 185 Tryz.f185 := ⟨Tryz.func185⟩
instance cal186 : Cal Tryz.prog 186 := ⟨Tryz.call186⟩
instance fun186 : Fun Tryz.prog 186 Tryz.f186 := ⟨Tryz.func186⟩
instance cal187 : Cal Tryz.prog 187 := ⟨Tryz.call187⟩
instance fun187 : Fun Tryz.prog 187 Tryz.f187 := ⟨Tryz.func187⟩
instance cal189 : Cal Tryz.prog 189 := ⟨Tryz.call189⟩
instance fun189 : Fun Tryz.prog 189 Tryz.f189 := ⟨Tryz.func189⟩
instance cal190 : Cal Tryz.prog 190 := ⟨Tryz.call190⟩
instance fun190 : Fun Tryz.prog 190 Tryz.f190 := ⟨Tryz.func190⟩
instance cal191 : Cal Tryz.prog 191 := ⟨Tryz.call191⟩
instance fun191 : Fun Tryz.prog 191 Tryz.f191 := ⟨Tryz.func191⟩
instance cal192 : Cal Tryz.prog 192 := ⟨Tryz.call192⟩
instance fun192 : Fun Tryz.prog 192 Tryz.f192 := ⟨Tryz.func192⟩
instance cal193 : Cal Tryz.prog 193 := ⟨Tryz.call193⟩
instance fun193 : Fun Tryz.prog 193 Tryz.f193 := ⟨Tryz.func193⟩
instance cal194 : Cal Tryz.prog 194 := ⟨Tryz.call194⟩
instance fun194 : Fun Tryz.prog 194 Tryz.f194 := ⟨Tryz.func194⟩
instance cal195 : Cal Tryz.prog 195 := ⟨Tryz.call195⟩
instance fun195 : Fun Tryz.prog 195 Tryz.f195 := ⟨Tryz.func195⟩
instance cal196 : Cal Tryz.prog 196 := ⟨Tryz.call196⟩
instance fun196 : Fun Tryz.prog 196 Tryz.f196 := ⟨Tryz.func196⟩
instance cal197 : Cal Tryz.prog 197 := ⟨Tryz.call197⟩
instance fun197 : Fun Tryz.prog 197 Tryz.f197 := ⟨Tryz.func197⟩
instance cal198 : Cal Tryz.prog 198 := ⟨Tryz.call198⟩
instance fun198 : Fun Tryz.prog 198 Tryz.f198 := ⟨Tryz.func198⟩
instance cal199 : Cal Tryz.prog 199 := ⟨Tryz.call199⟩
instance fun199 : Fun Tryz.prog 199 Tryz.f199 := ⟨Tryz.func199⟩
instance cal200 : Cal Tryz.prog 200 := ⟨Tryz.call200⟩
instance fun200 : Fun Tryz.prog 200 Tryz.f200 := ⟨Tryz.func200⟩
instance cal201 : Cal Tryz.prog 201 := ⟨Tryz.call201⟩
instance fun201 : Fun Tryz.prog 201 Tryz.f201 := ⟨Tryz.func201⟩
instance cal202 : Cal Tryz.prog 202 := ⟨Tryz.call202⟩
instance fun202 : Fun Tryz.prog 202 Tryz.f202 := ⟨Tryz.func202⟩
instance cal203 : Cal Tryz.prog 203 := ⟨Tryz.call203⟩
instance fun203 : Fun Tryz.prog 203 Tryz.f203 := ⟨Tryz.func203⟩
instance cal204 : Cal Tryz.prog 204 := ⟨Tryz.call204⟩
instance fun204 : Fun Tryz.prog 204 Tryz.f204 := ⟨Tryz.func204⟩
instance cal205 : Cal Tryz.prog 205 := ⟨Tryz.call205⟩
instance fun205 : Fun Tryz.prog 205 Tryz.f205 := ⟨Tryz.func205⟩
instance cal206 : Cal Tryz.prog 206 := ⟨Tryz.call206⟩
instance fun206 : Fun Tryz.prog 206 Tryz.f206 := ⟨Tryz.func206⟩
instance cal207 : Cal Tryz.prog 207 := ⟨Tryz.call207⟩
instance fun207 : Fun Tryz.prog 207 Tryz.f207 := ⟨Tryz.func207⟩
instance cal208 : Cal Tryz.prog 208 := ⟨Tryz.call208⟩
instance fun208 : Fun Tryz.prog 208 Tryz.f208 := ⟨Tryz.func208⟩
instance cal224 : Cal Tryz.prog 224 := ⟨Tryz.call224⟩
instance fun224 : Fun Tryz.prog 224 Tryz.f224 := ⟨Tryz.func224⟩
instance cal225 : Cal Tryz.prog 225 := ⟨Tryz.call225⟩
instance fun225 : Fun Tryz.prog 225 Tryz.f225 := ⟨Tryz.func225⟩
instance cal227 : Cal Tryz.prog 227 := ⟨Tryz.call227⟩
instance fun227 : Fun Tryz.prog 227 Tryz.f227 := ⟨Tryz.func227⟩
instance cal228 : Cal Tryz.prog 228 := ⟨Tryz.call228⟩
instance fun228 : Fun Tryz.prog 228 Tryz.f228 := ⟨Tryz.func228⟩
instance cal229 : Cal Tryz.prog 229 := ⟨Tryz.call229⟩
instance fun229 : Fun Tryz.prog 229 Tryz.f229 := ⟨Tryz.func229⟩
instance cal230 : Cal Tryz.prog 230 := ⟨Tryz.call230⟩
instance fun230 : Fun Tryz.prog 230 Tryz.f230 := ⟨Tryz.func230⟩
instance cal232 : Cal Tryz.prog 232 := ⟨Tryz.call232⟩
instance fun232 : Fun Tryz.prog 232 Tryz.f232 := ⟨Tryz.func232⟩
instance cal234 : Cal Tryz.prog 234 := ⟨Tryz.call234⟩
instance fun234 : Fun Tryz.prog 234 Tryz.f234 := ⟨Tryz.func234⟩
instance cal235 : Cal Tryz.prog 235 := ⟨Tryz.call235⟩
instance fun235 : Fun Tryz.prog 235 Tryz.f235 := ⟨Tryz.func235⟩
instance cal236 : Cal Tryz.prog 236 := ⟨Tryz.call236⟩
instance fun236 : Fun Tryz.prog 236 Tryz.f236 := ⟨Tryz.func236⟩
instance cal237 : Cal Tryz.prog 237 := ⟨Tryz.call237⟩
instance fun237 : Fun Tryz.prog 237 Tryz.f237 := ⟨Tryz.func237⟩
instance cal238 : Cal Tryz.prog 238 := ⟨Tryz.call238⟩
instance fun238 : Fun Tryz.prog 238 Tryz.f238 := ⟨Tryz.func238⟩
instance cal239 : Cal Tryz.prog 239 := ⟨Tryz.call239⟩
instance fun239 : Fun Tryz.prog 239 Tryz.f239 := ⟨Tryz.func239⟩
instance cal240 : Cal Tryz.prog 240 := ⟨Tryz.call240⟩
instance fun240 : Fun Tryz.prog 240 Tryz.f240 := ⟨Tryz.func240⟩
instance cal241 : Cal Tryz.prog 241 := ⟨Tryz.call241⟩
instance fun241 : Fun Tryz.prog 241 Tryz.f241 := ⟨Tryz.func241⟩
instance cal243 : Cal Tryz.prog 243 := ⟨Tryz.call243⟩
instance fun243 : Fun Tryz.prog 243 Tryz.f243 := ⟨Tryz.func243⟩
instance cal244 : Cal Tryz.prog 244 := ⟨Tryz.call244⟩
instance fun244 : Fun Tryz.prog 244 Tryz.f244 := ⟨Tryz.func244⟩
instance cal246 : Cal Tryz.prog 246 := ⟨Tryz.call246⟩
instance fun246 : Fun Tryz.prog 246 Tryz.f246 := ⟨Tryz.func246⟩
instance cal247 : Cal Tryz.prog 247 := ⟨Tryz.call247⟩
instance fun247 : Fun Tryz.prog 247 Tryz.f247 := ⟨Tryz.func247⟩
instance cal248 : Cal Tryz.prog 248 := ⟨Tryz.call248⟩
instance fun248 : Fun Tryz.prog 248 Tryz.f248 := ⟨Tryz.func248⟩
instance cal250 : Cal Tryz.prog 250 := ⟨Tryz.call250⟩
instance fun250 : Fun Tryz.prog 250 Tryz.f250 := ⟨Tryz.func250⟩
instance cal251 : Cal Tryz.prog 251 := ⟨Tryz.call251⟩
instance fun251 : Fun Tryz.prog 251 Tryz.f251 := ⟨Tryz.func251⟩
instance cal253 : Cal Tryz.prog 253 := ⟨Tryz.call253⟩
instance fun253 : Fun Tryz.prog 253 Tryz.f253 := ⟨Tryz.func253⟩
instance cal254 : Cal Tryz.prog 254 := ⟨Tryz.call254⟩
instance fun254 : Fun Tryz.prog 254 Tryz.f254 := ⟨Tryz.func254⟩
instance cal255 : Cal Tryz.prog 255 := ⟨Tryz.call255⟩
instance fun255 : Fun Tryz.prog 255 Tryz.f255 := ⟨Tryz.func255⟩
instance cal257 : Cal Tryz.prog 257 := ⟨Tryz.call257⟩
instance fun257 : Fun Tryz.prog 257 Tryz.f257 := ⟨Tryz.func257⟩
instance cal258 : Cal Tryz.prog 258 := ⟨Tryz.call258⟩
instance fun258 : Fun Tryz.prog 258 Tryz.f258 := ⟨Tryz.func258⟩
instance cal260 : Cal Tryz.prog 260 := ⟨Tryz.call260⟩
instance fun260 : Fun Tryz.prog 260 Tryz.f260 := ⟨Tryz.func260⟩
instance cal261 : Cal Tryz.prog 261 := ⟨Tryz.call261⟩
instance fun261 : Fun Tryz.prog 261 Tryz.f261 := ⟨Tryz.func261⟩
instance cal263 : Cal Tryz.prog 263 := ⟨Tryz.call263⟩
instance fun263 : Fun Tryz.prog 263 Tryz.f263 := ⟨Tryz.func263⟩
instance cal266 : Cal Tryz.prog 266 := ⟨Tryz.call266⟩
instance fun266 : Fun Tryz.prog 266 Tryz.f266 := ⟨Tryz.func266⟩
instance cal267 : Cal Tryz.prog 267 := ⟨Tryz.call267⟩
instance fun267 : Fun Tryz.prog 267 Tryz.f267 := ⟨Tryz.func267⟩
instance cal269 : Cal Tryz.prog 269 := ⟨Tryz.call269⟩
instance fun269 : Fun Tryz.prog 269 Tryz.f269 := ⟨Tryz.func269⟩
instance cal270 : Cal Tryz.prog 270 := ⟨Tryz.call270⟩
instance fun270 : Fun Tryz.prog 270 Tryz.f270 := ⟨Tryz.func270⟩
instance cal271 : Cal Tryz.prog 271 := ⟨Tryz.call271⟩
instance fun271 : Fun Tryz.prog 271 Tryz.f271 := ⟨Tryz.func271⟩
instance cal272 : Cal Tryz.prog 272 := ⟨Tryz.call272⟩
instance fun272 : Fun Tryz.prog 272 Tryz.f272 := ⟨Tryz.func272⟩
instance cal273 : Cal Tryz.prog 273 := ⟨Tryz.call273⟩
instance fun273 : Fun Tryz.prog 273 Tryz.f273 := ⟨Tryz.func273⟩
instance cal274 : Cal Tryz.prog 274 := ⟨Tryz.call274⟩
instance fun274 : Fun Tryz.prog 274 Tryz.f274 := ⟨Tryz.func274⟩
instance cal275 : Cal Tryz.prog 275 := ⟨Tryz.call275⟩
instance fun275 : Fun Tryz.prog 275 Tryz.f275 := ⟨Tryz.func275⟩
instance cal276 : Cal Tryz.prog 276 := ⟨Tryz.call276⟩
instance fun276 : Fun Tryz.prog 276 Tryz.f276 := ⟨Tryz.func276⟩
instance cal277 : Cal Tryz.prog 277 := ⟨Tryz.call277⟩
instance fun277 : Fun Tryz.prog 277 Tryz.f277 := ⟨Tryz.func277⟩
instance cal278 : Cal Tryz.prog 278 := ⟨Tryz.call278⟩
instance fun278 : Fun Tryz.prog 278 Tryz.f278 := ⟨Tryz.func278⟩
instance cal279 : Cal Tryz.prog 279 := ⟨Tryz.call279⟩
instance fun279 : Fun Tryz.prog 279 Tryz.f279 := ⟨Tryz.func279⟩
instance cal280 : Cal Tryz.prog 280 := ⟨Tryz.call280⟩
instance fun280 : Fun Tryz.prog 280 Tryz.f280 := ⟨Tryz.func280⟩
instance cal283 : Cal Tryz.prog 283 := ⟨Tryz.call283⟩
instance fun283 : Fun Tryz.prog 283 Tryz.f283 := ⟨Tryz.func283⟩
instance cal284 : Cal Tryz.prog 284 := ⟨Tryz.call284⟩
instance fun284 : Fun Tryz.prog 284 Tryz.f284 := ⟨Tryz.func284⟩
instance cal287 : Cal Tryz.prog 287 := ⟨Tryz.call287⟩
instance fun287 : Fun Tryz.prog 287 Tryz.f287 := ⟨Tryz.func287⟩
instance cal288 : Cal Tryz.prog 288 := ⟨Tryz.call288⟩
instance fun288 : Fun Tryz.prog 288 Tryz.f288 := ⟨Tryz.func288⟩
instance cal291 : Cal Tryz.prog 291 := ⟨Tryz.call291⟩
instance fun291 : Fun Tryz.prog 291 Tryz.f291 := ⟨Tryz.func291⟩
instance cal292 : Cal Tryz.prog 292 := ⟨Tryz.call292⟩
instance fun292 : Fun Tryz.prog 292 Tryz.f292 := ⟨Tryz.func292⟩
instance cal295 : Cal Tryz.prog 295 := ⟨Tryz.call295⟩
instance fun295 : Fun Tryz.prog 295 Tryz.f295 := ⟨Tryz.func295⟩
instance cal296 : Cal Tryz.prog 296 := ⟨Tryz.call296⟩
instance fun296 : Fun Tryz.prog 296 Tryz.f296 := ⟨Tryz.func296⟩
instance cal299 : Cal Tryz.prog 299 := ⟨Tryz.call299⟩
instance fun299 : Fun Tryz.prog 299 Tryz.f299 := ⟨Tryz.func299⟩
instance cal300 : Cal Tryz.prog 300 := ⟨Tryz.call300⟩
instance fun300 : Fun Tryz.prog 300 Tryz.f300 := ⟨Tryz.func300⟩
instance cal303 : Cal Tryz.prog 303 := ⟨Tryz.call303⟩
instance fun303 : Fun Tryz.prog 303 Tryz.f303 := ⟨Tryz.func303⟩
instance cal304 : Cal Tryz.prog 304 := ⟨Tryz.call304⟩
instance fun304 : Fun Tryz.prog 304 Tryz.f304 := ⟨Tryz.func304⟩
instance cal307 : Cal Tryz.prog 307 := ⟨Tryz.call307⟩
instance fun307 : Fun Tryz.prog 307 Tryz.f307 := ⟨Tryz.func307⟩
instance cal308 : Cal Tryz.prog 308 := ⟨Tryz.call308⟩
instance fun308 : Fun Tryz.prog 308 Tryz.f308 := ⟨Tryz.func308⟩
instance cal310 : Cal Tryz.prog 310 := ⟨Tryz.call310⟩
instance fun310 : Fun Tryz.prog 310 Tryz.f310 := ⟨Tryz.func310⟩
instance cal311 : Cal Tryz.prog 311 := ⟨Tryz.call311⟩
instance fun311 : Fun Tryz.prog 311 Tryz.f311 := ⟨Tryz.func311⟩
instance cal312 : Cal Tryz.prog 312 := ⟨Tryz.call312⟩
instance fun312 : Fun Tryz.prog 312 Tryz.f312 := ⟨Tryz.func312⟩
instance cal314 : Cal Tryz.prog 314 := ⟨Tryz.call314⟩
instance fun314 : Fun Tryz.prog 314 Tryz.f314 := ⟨Tryz.func314⟩
instance cal316 : Cal Tryz.prog 316 := ⟨Tryz.call316⟩
instance fun316 : Fun Tryz.prog 316 Tryz.f316 := ⟨Tryz.func316⟩
instance cal317 : Cal Tryz.prog 317 := ⟨Tryz.call317⟩
instance fun317 : Fun Tryz.prog 317 Tryz.f317 := ⟨Tryz.func317⟩
instance cal318 : Cal Tryz.prog 318 := ⟨Tryz.call318⟩
instance fun318 : Fun Tryz.prog 318 Tryz.f318 := ⟨Tryz.func318⟩
instance cal319 : Cal Tryz.prog 319 := ⟨Tryz.call319⟩
instance fun319 : Fun Tryz.prog 319 Tryz.f319 := ⟨Tryz.func319⟩
instance cal320 : Cal Tryz.prog 320 := ⟨Tryz.call320⟩
instance fun320 : Fun Tryz.prog 320 Tryz.f320 := ⟨Tryz.func320⟩
instance cal321 : Cal Tryz.prog 321 := ⟨Tryz.call321⟩
instance fun321 : Fun Tryz.prog 321 Tryz.f321 := ⟨Tryz.func321⟩
instance cal322 : Cal Tryz.prog 322 := ⟨Tryz.call322⟩
instance fun322 : Fun Tryz.prog 322 Tryz.f322 := ⟨Tryz.func322⟩
instance cal323 : Cal Tryz.prog 323 := ⟨Tryz.call323⟩
instance fun323 : Fun Tryz.prog 323 Tryz.f323 := ⟨Tryz.func323⟩
instance cal324 : Cal Tryz.prog 324 := ⟨Tryz.call324⟩
instance fun324 : Fun Tryz.prog 324 Tryz.f324 := ⟨Tryz.func324⟩
instance cal327 : Cal Tryz.prog 327 := ⟨Tryz.call327⟩
instance fun327 : Fun Tryz.prog 327 Tryz.f327 := ⟨Tryz.func327⟩
instance cal328 : Cal Tryz.prog 328 := ⟨Tryz.call328⟩
instance fun328 : Fun Tryz.prog 328 Tryz.f328 := ⟨Tryz.func328⟩
instance cal330 : Cal Tryz.prog 330 := ⟨Tryz.call330⟩
instance fun330 : Fun Tryz.prog 330 Tryz.f330 := ⟨Tryz.func330⟩
instance cal331 : Cal Tryz.prog 331 := ⟨Tryz.call331⟩
instance fun331 : Fun Tryz.prog 331 Tryz.f331 := ⟨Tryz.func331⟩
instance cal333 : Cal Tryz.prog 333 := ⟨Tryz.call333⟩
instance fun333 : Fun Tryz.prog 333 Tryz.f333 := ⟨Tryz.func333⟩
instance cal334 : Cal Tryz.prog 334 := ⟨Tryz.call334⟩
instance fun334 : Fun Tryz.prog 334 Tryz.f334 := ⟨Tryz.func334⟩
instance cal340 : Cal Tryz.prog 340 := ⟨Tryz.call340⟩
instance fun340 : Fun Tryz.prog 340 Tryz.f340 := ⟨Tryz.func340⟩
instance cal342 : Cal Tryz.prog 342 := ⟨Tryz.call342⟩
instance fun342 : Fun Tryz.prog 342 Tryz.f342 := ⟨Tryz.func342⟩
instance cal344 : Cal Tryz.prog 344 := ⟨Tryz.call344⟩
instance fun344 : Fun Tryz.prog 344 Tryz.f344 := ⟨Tryz.func344⟩
instance cal346 : Cal Tryz.prog 346 := ⟨Tryz.call346⟩
instance fun346 : Fun Tryz.prog 346 Tryz.f346 := ⟨Tryz.func346⟩
instance cal349 : Cal Tryz.prog 349 := ⟨Tryz.call349⟩
instance fun349 : Fun Tryz.prog 349 Tryz.f349 := ⟨Tryz.func349⟩
instance cal350 : Cal Tryz.prog 350 := ⟨Tryz.call350⟩
instance fun350 : Fun Tryz.prog 350 Tryz.f350 := ⟨Tryz.func350⟩
instance cal362 : Cal Tryz.prog 362 := ⟨Tryz.call362⟩
instance fun362 : Fun Tryz.prog 362 Tryz.f362 := ⟨Tryz.func362⟩
instance meth36_225 : Meth Tryz.prog 36 "PrintHTML" 225 := ⟨fun v w => by kernel_rfl⟩
instance meth75_228 : Meth Tryz.prog 75 "pub-paratext/pub/rscmarkdown.build" 228 := ⟨fun v w => by kernel_rfl⟩
instance meth75_229 : Meth Tryz.prog 75 "pub-paratext/pub/rscmarkdown.extend" 229 := ⟨fun v w => by kernel_rfl⟩
instance meth83_230 : Meth Tryz.prog 83 "PrintHTML" 230 := ⟨fun v w => by kernel_rfl⟩
instance meth89_232 : Meth Tryz.prog 89 "PrintHTML" 232 := ⟨fun v w => by kernel_rfl⟩
instance meth93_240 : Meth Tryz.prog 93 "pub-paratext/pub/rscmarkdown.blocks" 240 := ⟨fun v w => by kernel_rfl⟩
instance meth93_349 : Meth Tryz.prog 93 "pub-paratext/pub/rscmarkdown.defineLink" 349 := ⟨fun v w => by kernel_rfl⟩
instance meth93_350 : Meth Tryz.prog 93 "pub-paratext/pub/rscmarkdown.link" 350 := ⟨fun v w => by kernel_rfl⟩
instance meth93_111 : Meth Tryz.prog 93 "pub-paratext/pub/rscmarkdown.newText" 111 := ⟨fun v w => by kernel_rfl⟩
instance meth93_241 : Meth Tryz.prog 93 "pub-paratext/pub/rscmarkdown.pos" 241 := ⟨fun v w => by kernel_rfl⟩
instance meth117_250 : Meth Tryz.prog 117 "PrintHTML" 250 := ⟨fun v w => by kernel_rfl⟩
instance meth117_251 : Meth Tryz.prog 117 "PrintText" 251 := ⟨fun v w => by kernel_rfl⟩
instance meth123_257 : Meth Tryz.prog 123 "PrintHTML" 257 := ⟨fun v w => by kernel_rfl⟩
instance meth123_258 : Meth Tryz.prog 123 "PrintText" 258 := ⟨fun v w => by kernel_rfl⟩
instance meth127_261 : Meth Tryz.prog 127 "PrintHTML" 261 := ⟨fun v w => by kernel_rfl⟩
instance meth130_263 : Meth Tryz.prog 130 "PrintHTML" 263 := ⟨fun v w => by kernel_rfl⟩
instance meth133_243 : Meth Tryz.prog 133 "PrintHTML" 243 := ⟨fun v w => by kernel_rfl⟩
instance meth133_244 : Meth Tryz.prog 133 "PrintText" 244 := ⟨fun v w => by kernel_rfl⟩
instance meth135_266 : Meth Tryz.prog 135 "PrintHTML" 266 := ⟨fun v w => by kernel_rfl⟩
instance meth135_267 : Meth Tryz.prog 135 "PrintText" 267 := ⟨fun v w => by kernel_rfl⟩
instance meth139_269 : Meth Tryz.prog 139 "pub-paratext/pub/rscmarkdown.build" 269 := ⟨fun v w => by kernel_rfl⟩
instance meth139_270 : Meth Tryz.prog 139 "pub-paratext/pub/rscmarkdown.extend" 270 := ⟨fun v w => by kernel_rfl⟩
instance meth156_283 : Meth Tryz.prog 156 "PrintHTML" 283 := ⟨fun v w => by kernel_rfl⟩
instance meth156_284 : Meth Tryz.prog 156 "PrintText" 284 := ⟨fun v w => by kernel_rfl⟩
instance meth159_287 : Meth Tryz.prog 159 "PrintHTML" 287 := ⟨fun v w => by kernel_rfl⟩
instance meth159_288 : Meth Tryz.prog 159 "PrintText" 288 := ⟨fun v w => by kernel_rfl⟩
instance meth170_291 : Meth Tryz.prog 170 "PrintHTML" 291 := ⟨fun v w => by kernel_rfl⟩
instance meth170_292 : Meth Tryz.prog 170 "PrintText" 292 := ⟨fun v w => by kernel_rfl⟩
instance meth178_295 : Meth Tryz.prog 178 "PrintHTML" 295 := ⟨fun v w => by kernel_rfl⟩
instance meth178_296 : Meth Tryz.prog 178 "PrintText" 296 := ⟨fun v w => by kernel_rfl⟩
instance meth194_299 : Meth Tryz.prog 194 "PrintHTML" 299 := ⟨fun v w => by kernel_rfl⟩
instance meth194_300 : Meth Tryz.prog 194 "PrintText" 300 := ⟨fun v w => by kernel_rfl⟩
instance meth197_303 : Meth Tryz.prog 197 "PrintHTML" 303 := ⟨fun v w => by kernel_rfl⟩
instance meth197_304 : Meth Tryz.prog 197 "PrintText" 304 := ⟨fun v w => by kernel_rfl⟩
instance meth198_307 : Meth Tryz.prog 198 "PrintHTML" 307 := ⟨fun v w => by kernel_rfl⟩
instance meth198_308 : Meth Tryz.prog 198 "PrintText" 308 := ⟨fun v w => by kernel_rfl⟩
instance meth204_310 : Meth Tryz.prog 204 "pub-paratext/pub/rscmarkdown.build" 310 := ⟨fun v w => by kernel_rfl⟩
instance meth204_311 : Meth Tryz.prog 204 "pub-paratext/pub/rscmarkdown.extend" 311 := ⟨fun v w => by kernel_rfl⟩
instance meth212_312 : Meth Tryz.prog 212 "PrintHTML" 312 := ⟨fun v w => by kernel_rfl⟩
instance meth219_314 : Meth Tryz.prog 219 "PrintHTML" 314 := ⟨fun v w => by kernel_rfl⟩
instance meth222_316 : Meth Tryz.prog 222 "pub-paratext/pub/rscmarkdown.build" 316 := ⟨fun v w => by kernel_rfl⟩
instance meth222_317 : Meth Tryz.prog 222 "pub-paratext/pub/rscmarkdown.extend" 317 := ⟨fun v w => by kernel_rfl⟩
instance meth224_318 : Meth Tryz.prog 224 "pub-paratext/pub/rscmarkdown.build" 318 := ⟨fun v w => by kernel_rfl⟩
instance meth224_319 : Meth Tryz.prog 224 "pub-paratext/pub/rscmarkdown.extend" 319 := ⟨fun v w => by kernel_rfl⟩
instance meth231_320 : Meth Tryz.prog 231 "pub-paratext/pub/rscmarkdown.build" 320 := ⟨fun v w => by kernel_rfl⟩
instance meth231_321 : Meth Tryz.prog 231 "pub-paratext/pub/rscmarkdown.extend" 321 := ⟨fun v w => by kernel_rfl⟩
instance meth235_322 : Meth Tryz.prog 235 "pub-paratext/pub/rscmarkdown.build" 322 := ⟨fun v w => by kernel_rfl⟩
instance meth235_323 : Meth Tryz.prog 235 "pub-paratext/pub/rscmarkdown.extend" 323 := ⟨fun v w => by kernel_rfl⟩
instance meth241_324 : Meth Tryz.prog 241 "PrintHTML" 324 := ⟨fun v w => by kernel_rfl⟩
instance meth242_327 : Meth Tryz.prog 242 "PrintHTML" 327 := ⟨fun v w => by kernel_rfl⟩
instance meth242_328 : Meth Tryz.prog 242 "PrintText" 328 := ⟨fun v w => by kernel_rfl⟩
instance meth265_330 : Meth Tryz.prog 265 "pub-paratext/pub/rscmarkdown.build" 330 := ⟨fun v w => by kernel_rfl⟩
instance meth265_331 : Meth Tryz.prog 265 "pub-paratext/pub/rscmarkdown.extend" 331 := ⟨fun v w => by kernel_rfl⟩
instance meth269_333 : Meth Tryz.prog 269 "PrintHTML" 333 := ⟨fun v w => by kernel_rfl⟩
instance meth269_334 : Meth Tryz.prog 269 "PrintText" 334 := ⟨fun v w => by kernel_rfl⟩
instance meth344_340 : Meth Tryz.prog 344 "PrintHTML" 340 := ⟨fun v w => by kernel_rfl⟩
instance meth347_342 : Meth Tryz.prog 347 "PrintHTML" 342 := ⟨fun v w => by kernel_rfl⟩
instance meth356_344 : Meth Tryz.prog 356 "PrintHTML" 344 := ⟨fun v w => by kernel_rfl⟩
instance meth361_346 : Meth Tryz.prog 361 "PrintHTML" 346 := ⟨fun v w => by kernel_rfl⟩
theorem info36 : Tryz.prog.info? 36 = some Tryz.t36 := by kernel_rfl
instance cmp36 : CmpPtr Tryz.prog 36 := ⟨⟨_, _, _, Tryz.underlying36, info36, rfl, Tryz.sizeOf330, by decide⟩⟩
theorem info83 : Tryz.prog.info? 83 = some Tryz.t83 := by kernel_rfl
instance cmp83 : CmpPtr Tryz.prog 83 := ⟨⟨_, _, _, Tryz.underlying83, info83, rfl, Tryz.sizeOf88, by decide⟩⟩
theorem info89 : Tryz.prog.info? 89 = some Tryz.t89 := by kernel_rfl
instance cmp89 : CmpPtr Tryz.prog 89 := ⟨⟨_, _, _, Tryz.underlying89, info89, rfl, Tryz.sizeOf126, by decide⟩⟩
theorem info93 : Tryz.prog.info? 93 = some Tryz.t93 := by kernel_rfl
instance cmp93 : CmpPtr Tryz.prog 93 := ⟨⟨_, _, _, Tryz.underlying93, info93, rfl, Tryz.sizeOf71, by decide⟩⟩
theorem info111 : Tryz.prog.info? 111 = some Tryz.t111 := by kernel_rfl
instance cmp111 : CmpPtr Tryz.prog 111 := ⟨⟨_, _, _, Tryz.underlying111, info111, rfl, Tryz.sizeOf116, by decide⟩⟩
theorem info117 : Tryz.prog.info? 117 = some Tryz.t117 := by kernel_rfl
instance cmp117 : CmpPtr Tryz.prog 117 := ⟨⟨_, _, _, Tryz.underlying117, info117, rfl, Tryz.sizeOf121, by decide⟩⟩
theorem info123 : Tryz.prog.info? 123 = some Tryz.t123 := by kernel_rfl
instance cmp123 : CmpPtr Tryz.prog 123 := ⟨⟨_, _, _, Tryz.underlying123, info123, rfl, Tryz.sizeOf340, by decide⟩⟩
theorem info127 : Tryz.prog.info? 127 = some Tryz.t127 := by kernel_rfl
instance cmp127 : CmpPtr Tryz.prog 127 := ⟨⟨_, _, _, Tryz.underlying127, info127, rfl, Tryz.sizeOf129, by decide⟩⟩
theorem info130 : Tryz.prog.info? 130 = some Tryz.t130 := by kernel_rfl
instance cmp130 : CmpPtr Tryz.prog 130 := ⟨⟨_, _, _, Tryz.underlying130, info130, rfl, Tryz.sizeOf132, by decide⟩⟩
theorem info133 : Tryz.prog.info? 133 = some Tryz.t133 := by kernel_rfl
instance cmp133 : CmpPtr Tryz.prog 133 := ⟨⟨_, _, _, Tryz.underlying133, info133, rfl, Tryz.sizeOf114, by decide⟩⟩
theorem info135 : Tryz.prog.info? 135 = some Tryz.t135 := by kernel_rfl
instance cmp135 : CmpPtr Tryz.prog 135 := ⟨⟨_, _, _, Tryz.underlying135, info135, rfl, Tryz.sizeOf137, by decide⟩⟩
theorem info139 : Tryz.prog.info? 139 = some Tryz.t139 := by kernel_rfl
instance cmp139 : CmpPtr Tryz.prog 139 := ⟨⟨_, _, _, Tryz.underlying139, info139, rfl, Tryz.sizeOf143, by decide⟩⟩
theorem info153 : Tryz.prog.info? 153 = some Tryz.t153 := by kernel_rfl
instance cmp153 : CmpPtr Tryz.prog 153 := ⟨⟨_, _, _, Tryz.underlying153, info153, rfl, Tryz.sizeOf155, by decide⟩⟩
theorem info159 : Tryz.prog.info? 159 = some Tryz.t159 := by kernel_rfl
instance cmp159 : CmpPtr Tryz.prog 159 := ⟨⟨_, _, _, Tryz.underlying159, info159, rfl, Tryz.sizeOf160, by decide⟩⟩
theorem info167 : Tryz.prog.info? 167 = some Tryz.t167 := by kernel_rfl
instance cmp167 : CmpPtr Tryz.prog 167 := ⟨⟨_, _, _, Tryz.underlying167, info167, rfl, Tryz.sizeOf169, by decide⟩⟩
theorem info178 : Tryz.prog.info? 178 = some Tryz.t178 := by kernel_rfl
instance cmp178 : CmpPtr Tryz.prog 178 := ⟨⟨_, _, _, Tryz.underlying178, info178, rfl, Tryz.sizeOf180, by decide⟩⟩
theorem info194 : Tryz.prog.info? 194 = some Tryz.t194 := by kernel_rfl
instance cmp194 : CmpPtr Tryz.prog 194 := ⟨⟨_, _, _, Tryz.underlying194, info194, rfl, Tryz.sizeOf196, by decide⟩⟩
theorem info197 : Tryz.prog.info? 197 = some Tryz.t197 := by kernel_rfl
instance cmp197 : CmpPtr Tryz.prog 197 := ⟨⟨_, _, _, Tryz.underlying197, info197, rfl, Tryz.sizeOf202, by decide⟩⟩
theorem info198 : Tryz.prog.info? 198 = some Tryz.t198 := by kernel_rfl
instance cmp198 : CmpPtr Tryz.prog 198 := ⟨⟨_, _, _, Tryz.underlying198, info198, rfl, Tryz.sizeOf201, by decide⟩⟩
theorem info212 : Tryz.prog.info? 212 = some Tryz.t212 := by kernel_rfl
instance cmp212 : CmpPtr Tryz.prog 212 := ⟨⟨_, _, _, Tryz.underlying212, info212, rfl, Tryz.sizeOf215, by decide⟩⟩
theorem info219 : Tryz.prog.info? 219 = some Tryz.t219 := by kernel_rfl
instance cmp219 : CmpPtr Tryz.prog 219 := ⟨⟨_, _, _, Tryz.underlying219, info219, rfl, Tryz.sizeOf221, by decide⟩⟩
theorem info222 : Tryz.prog.info? 222 = some Tryz.t222 := by kernel_rfl
instance cmp222 : CmpPtr Tryz.prog 222 := ⟨⟨_, _, _, Tryz.underlying222, info222, rfl, Tryz.sizeOf227, by decide⟩⟩
theorem info224 : Tryz.prog.info? 224 = some Tryz.t224 := by kernel_rfl
instance cmp224 : CmpPtr Tryz.prog 224 := ⟨⟨_, _, _, Tryz.underlying224, info224, rfl, Tryz.sizeOf264, by decide⟩⟩
theorem info231 : Tryz.prog.info? 231 = some Tryz.t231 := by kernel_rfl
instance cmp231 : CmpPtr Tryz.prog 231 := ⟨⟨_, _, _, Tryz.underlying231, info231, rfl, Tryz.sizeOf233, by decide⟩⟩
theorem info235 : Tryz.prog.info? 235 = some Tryz.t235 := by kernel_rfl
instance cmp235 : CmpPtr Tryz.prog 235 := ⟨⟨_, _, _, Tryz.underlying235, info235, rfl, Tryz.sizeOf237, by decide⟩⟩
theorem info241 : Tryz.prog.info? 241 = some Tryz.t241 := by kernel_rfl
instance cmp241 : CmpPtr Tryz.prog 241 := ⟨⟨_, _, _, Tryz.underlying241, info241, rfl, Tryz.sizeOf360, by decide⟩⟩
theorem info242 : Tryz.prog.info? 242 = some Tryz.t242 := by kernel_rfl
instance cmp242 : CmpPtr Tryz.prog 242 := ⟨⟨_, _, _, Tryz.underlying242, info242, rfl, Tryz.sizeOf244, by decide⟩⟩
theorem info265 : Tryz.prog.info? 265 = some Tryz.t265 := by kernel_rfl
instance cmp265 : CmpPtr Tryz.prog 265 := ⟨⟨_, _, _, Tryz.underlying265, info265, rfl, Tryz.sizeOf267, by decide⟩⟩
theorem info269 : Tryz.prog.info? 269 = some Tryz.t269 := by kernel_rfl
instance cmp269 : CmpPtr Tryz.prog 269 := ⟨⟨_, _, _, Tryz.underlying269, info269, rfl, Tryz.sizeOf270, by decide⟩⟩
theorem info287 : Tryz.prog.info? 287 = some Tryz.t287 := by kernel_rfl
instance cmp287 : CmpPtr Tryz.prog 287 := ⟨⟨_, _, _, Tryz.underlying287, info287, rfl, Tryz.sizeOf295, by decide⟩⟩
theorem info299 : Tryz.prog.info? 299 = some Tryz.t299 := by kernel_rfl
instance cmp299 : CmpPtr Tryz.prog 299 := ⟨⟨_, _, _, Tryz.underlying299, info299, rfl, Tryz.sizeOf301, by decide⟩⟩
theorem info344 : Tryz.prog.info? 344 = some Tryz.t344 := by kernel_rfl
instance cmp344 : CmpPtr Tryz.prog 344 := ⟨⟨_, _, _, Tryz.underlying344, info344, rfl, Tryz.sizeOf346, by decide⟩⟩
theorem info347 : Tryz.prog.info? 347 = some Tryz.t347 := by kernel_rfl
instance cmp347 : CmpPtr Tryz.prog 347 := ⟨⟨_, _, _, Tryz.underlying347, info347, rfl, Tryz.sizeOf350, by decide⟩⟩
theorem info356 : Tryz.prog.info? 356 = some Tryz.t356 := by kernel_rfl
instance cmp356 : CmpPtr Tryz.prog 356 := ⟨⟨_, _, _, Tryz.underlying356, info356, rfl, Tryz.sizeOf358, by decide⟩⟩
theorem info361 : Tryz.prog.info? 361 = some Tryz.t361 := by kernel_rfl
instance cmp361 : CmpPtr Tryz.prog 361 := ⟨⟨_, _, _, Tryz.underlying361, info361, rfl, Tryz.sizeOf363, by decide⟩⟩
theorem info9 : Tryz.prog.info? 9 = some Tryz.t9 := by kernel_rfl
instance elem28 : ElemI Tryz.prog 28 9 1 16 Tryz.t9 (Go.Value.string ⟨([] : List UInt8).toArray⟩) := ⟨⟨Tryz.underlying28, info9, rfl, rfl, rfl, rfl, by decide⟩⟩
theorem info5 : Tryz.prog.info? 5 = some Tryz.t5 := by kernel_rfl
instance elem41 : ElemI Tryz.prog 41 5 1 1 Tryz.t5 (Go.Value.int Go.IntKind.u8 0) := ⟨⟨Tryz.underlying41, info5, rfl, rfl, rfl, rfl, by decide⟩⟩
theorem info98 : Tryz.prog.info? 98 = some Tryz.t98 := by kernel_rfl
instance elem63 : ElemI Tryz.prog 63 98 4 56 Tryz.t98 (.agg ([Go.Value.nilIface, (Go.Value.slice (Option.none) 0 0), (Go.Value.int Go.IntKind.i64 0), (Go.Value.int Go.IntKind.i64 0)] : List Value).toArray) := ⟨⟨Tryz.underlying63, info98, rfl, rfl, rfl, rfl, by decide⟩⟩
theorem info109 : Tryz.prog.info? 109 = some Tryz.t109 := by kernel_rfl
instance elem64 : ElemI Tryz.prog 64 109 1 16 Tryz.t109 Go.Value.nilIface := ⟨⟨Tryz.underlying64, info109, rfl, rfl, rfl, rfl, by decide⟩⟩
instance elem65 : ElemI Tryz.prog 65 89 1 8 Tryz.t89 (Go.Value.pointer (Option.none)) := ⟨⟨Tryz.underlying65, info89, rfl, rfl, rfl, rfl, by decide⟩⟩
instance elem66 : ElemI Tryz.prog 66 83 1 8 Tryz.t83 (Go.Value.pointer (Option.none)) := ⟨⟨Tryz.underlying66, info83, rfl, rfl, rfl, rfl, by decide⟩⟩
theorem info50 : Tryz.prog.info? 50 = some Tryz.t50 := by kernel_rfl
instance elem96 : ElemI Tryz.prog 96 50 1 16 Tryz.t50 Go.Value.nilIface := ⟨⟨Tryz.underlying96, info50, rfl, rfl, rfl, rfl, by decide⟩⟩
theorem info3 : Tryz.prog.info? 3 = some Tryz.t3 := by kernel_rfl
instance elem106 : ElemI Tryz.prog 106 3 1 8 Tryz.t3 (Go.Value.int Go.IntKind.i64 0) := ⟨⟨Tryz.underlying106, info3, rfl, rfl, rfl, rfl, by decide⟩⟩
theorem info145 : Tryz.prog.info? 145 = some Tryz.t145 := by kernel_rfl
instance elem146 : ElemI Tryz.prog 146 145 1 16 Tryz.t145 (Go.Value.string ⟨([] : List UInt8).toArray⟩) := ⟨⟨Tryz.underlying146, info145, rfl, rfl, rfl, rfl, by decide⟩⟩
instance elem188 : ElemI Tryz.prog 188 167 1 8 Tryz.t167 (Go.Value.pointer (Option.none)) := ⟨⟨Tryz.underlying188, info167, rfl, rfl, rfl, rfl, by decide⟩⟩
end Go.Proofs
