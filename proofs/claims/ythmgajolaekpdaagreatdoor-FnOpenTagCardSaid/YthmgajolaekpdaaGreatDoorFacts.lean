/- The facts of the program's tables (kinds of types, sizes, zero values, places of fields, bodies of functions, methods) as the engine looks them up. No conditions. -/
import Derived.Test.YthmgajolaekpdaaGreatDoorProg
import Derived.Test.YthmgajolaekpdaaGreatDoorEngB
import Derived.KernelRfl
namespace Go.Proofs
open Go Go.Eng
instance mixed : Mixed Tryz.prog := ⟨by kernel_rfl⟩
instance uint2 : UInt Tryz.prog 2 Go.IntKind.i64 := ⟨Tryz.underlying2⟩
instance conc2 : Conc Tryz.prog 2 := ⟨⟨_, Tryz.underlying2, rfl⟩⟩
instance flat2 : Flat Tryz.prog 2 := ⟨⟨_, Tryz.underlying2, rfl⟩⟩
instance siz2 : Siz Tryz.prog 2 1 := ⟨Tryz.sizeOf2⟩
instance uint3 : UInt Tryz.prog 3 Go.IntKind.i64 := ⟨Tryz.underlying3⟩
instance conc3 : Conc Tryz.prog 3 := ⟨⟨_, Tryz.underlying3, rfl⟩⟩
instance flat3 : Flat Tryz.prog 3 := ⟨⟨_, Tryz.underlying3, rfl⟩⟩
instance siz3 : Siz Tryz.prog 3 1 := ⟨Tryz.sizeOf3⟩
instance conc4 : Conc Tryz.prog 4 := ⟨⟨_, Tryz.underlying4, rfl⟩⟩
instance flat4 : Flat Tryz.prog 4 := ⟨⟨_, Tryz.underlying4, rfl⟩⟩
instance siz4 : Siz Tryz.prog 4 1 := ⟨Tryz.sizeOf4⟩
instance uint5 : UInt Tryz.prog 5 Go.IntKind.u8 := ⟨Tryz.underlying5⟩
instance conc5 : Conc Tryz.prog 5 := ⟨⟨_, Tryz.underlying5, rfl⟩⟩
instance flat5 : Flat Tryz.prog 5 := ⟨⟨_, Tryz.underlying5, rfl⟩⟩
instance siz5 : Siz Tryz.prog 5 1 := ⟨Tryz.sizeOf5⟩
instance ustr9 : UStr Tryz.prog 9 := ⟨Tryz.underlying9⟩
instance conc9 : Conc Tryz.prog 9 := ⟨⟨_, Tryz.underlying9, rfl⟩⟩
instance flat9 : Flat Tryz.prog 9 := ⟨⟨_, Tryz.underlying9, rfl⟩⟩
instance siz9 : Siz Tryz.prog 9 1 := ⟨Tryz.sizeOf9⟩
instance uiface20 : UIface Tryz.prog 20 := ⟨⟨_, Tryz.underlying20⟩⟩
instance flat20 : Flat Tryz.prog 20 := ⟨⟨_, Tryz.underlying20, rfl⟩⟩
instance siz20 : Siz Tryz.prog 20 1 := ⟨Tryz.sizeOf20⟩
instance uint21 : UInt Tryz.prog 21 Go.IntKind.i32 := ⟨Tryz.underlying21⟩
instance conc21 : Conc Tryz.prog 21 := ⟨⟨_, Tryz.underlying21, rfl⟩⟩
instance flat21 : Flat Tryz.prog 21 := ⟨⟨_, Tryz.underlying21, rfl⟩⟩
instance siz21 : Siz Tryz.prog 21 1 := ⟨Tryz.sizeOf21⟩
instance conc26 : Conc Tryz.prog 26 := ⟨⟨_, Tryz.underlying26, rfl⟩⟩
instance aggr26 : Aggr Tryz.prog 26 := ⟨⟨_, Tryz.underlying26, rfl⟩⟩
instance siz26 : Siz Tryz.prog 26 10 := ⟨Tryz.sizeOf26⟩
instance conc29 : Conc Tryz.prog 29 := ⟨⟨_, Tryz.underlying29, rfl⟩⟩
instance ufunc29 : UFunc Tryz.prog 29 := ⟨⟨_, _, _, Tryz.underlying29⟩⟩
instance flat29 : Flat Tryz.prog 29 := ⟨⟨_, Tryz.underlying29, rfl⟩⟩
instance siz29 : Siz Tryz.prog 29 1 := ⟨Tryz.sizeOf29⟩
instance uslice30 : USlice Tryz.prog 30 5 := ⟨Tryz.underlying30⟩
instance conc30 : Conc Tryz.prog 30 := ⟨⟨_, Tryz.underlying30, rfl⟩⟩
instance flat30 : Flat Tryz.prog 30 := ⟨⟨_, Tryz.underlying30, rfl⟩⟩
instance siz30 : Siz Tryz.prog 30 1 := ⟨Tryz.sizeOf30⟩
instance uslice31 : USlice Tryz.prog 31 9 := ⟨Tryz.underlying31⟩
instance conc31 : Conc Tryz.prog 31 := ⟨⟨_, Tryz.underlying31, rfl⟩⟩
instance flat31 : Flat Tryz.prog 31 := ⟨⟨_, Tryz.underlying31, rfl⟩⟩
instance siz31 : Siz Tryz.prog 31 1 := ⟨Tryz.sizeOf31⟩
instance uslice38 : USlice Tryz.prog 38 31 := ⟨Tryz.underlying38⟩
instance conc38 : Conc Tryz.prog 38 := ⟨⟨_, Tryz.underlying38, rfl⟩⟩
instance flat38 : Flat Tryz.prog 38 := ⟨⟨_, Tryz.underlying38, rfl⟩⟩
instance siz38 : Siz Tryz.prog 38 1 := ⟨Tryz.sizeOf38⟩
instance uptr42 : UPtr Tryz.prog 42 333 := ⟨Tryz.underlying42⟩
instance conc42 : Conc Tryz.prog 42 := ⟨⟨_, Tryz.underlying42, rfl⟩⟩
instance flat42 : Flat Tryz.prog 42 := ⟨⟨_, Tryz.underlying42, rfl⟩⟩
instance siz42 : Siz Tryz.prog 42 1 := ⟨Tryz.sizeOf42⟩
instance uptr43 : UPtr Tryz.prog 43 69 := ⟨Tryz.underlying43⟩
instance conc43 : Conc Tryz.prog 43 := ⟨⟨_, Tryz.underlying43, rfl⟩⟩
instance flat43 : Flat Tryz.prog 43 := ⟨⟨_, Tryz.underlying43, rfl⟩⟩
instance siz43 : Siz Tryz.prog 43 1 := ⟨Tryz.sizeOf43⟩
instance uint47 : UInt Tryz.prog 47 Go.IntKind.u64 := ⟨Tryz.underlying47⟩
instance conc47 : Conc Tryz.prog 47 := ⟨⟨_, Tryz.underlying47, rfl⟩⟩
instance flat47 : Flat Tryz.prog 47 := ⟨⟨_, Tryz.underlying47, rfl⟩⟩
instance siz47 : Siz Tryz.prog 47 1 := ⟨Tryz.sizeOf47⟩
instance uptr50 : UPtr Tryz.prog 50 52 := ⟨Tryz.underlying50⟩
instance conc50 : Conc Tryz.prog 50 := ⟨⟨_, Tryz.underlying50, rfl⟩⟩
instance flat50 : Flat Tryz.prog 50 := ⟨⟨_, Tryz.underlying50, rfl⟩⟩
instance siz50 : Siz Tryz.prog 50 1 := ⟨Tryz.sizeOf50⟩
instance conc52 : Conc Tryz.prog 52 := ⟨⟨_, Tryz.underlying52, rfl⟩⟩
instance aggr52 : Aggr Tryz.prog 52 := ⟨⟨_, Tryz.underlying52, rfl⟩⟩
instance siz52 : Siz Tryz.prog 52 2 := ⟨Tryz.sizeOf52⟩
instance uiface55 : UIface Tryz.prog 55 := ⟨⟨_, Tryz.underlying55⟩⟩
instance flat55 : Flat Tryz.prog 55 := ⟨⟨_, Tryz.underlying55, rfl⟩⟩
instance siz55 : Siz Tryz.prog 55 1 := ⟨Tryz.sizeOf55⟩
instance uiface61 : UIface Tryz.prog 61 := ⟨⟨_, Tryz.underlying61⟩⟩
instance flat61 : Flat Tryz.prog 61 := ⟨⟨_, Tryz.underlying61, rfl⟩⟩
instance siz61 : Siz Tryz.prog 61 1 := ⟨Tryz.sizeOf61⟩
instance uint63 : UInt Tryz.prog 63 Go.IntKind.i8 := ⟨Tryz.underlying63⟩
instance conc63 : Conc Tryz.prog 63 := ⟨⟨_, Tryz.underlying63, rfl⟩⟩
instance flat63 : Flat Tryz.prog 63 := ⟨⟨_, Tryz.underlying63, rfl⟩⟩
instance siz63 : Siz Tryz.prog 63 1 := ⟨Tryz.sizeOf63⟩
instance conc65 : Conc Tryz.prog 65 := ⟨⟨_, Tryz.underlying65, rfl⟩⟩
instance aggr65 : Aggr Tryz.prog 65 := ⟨⟨_, Tryz.underlying65, rfl⟩⟩
instance siz65 : Siz Tryz.prog 65 3 := ⟨Tryz.sizeOf65⟩
instance uptr67 : UPtr Tryz.prog 67 65 := ⟨Tryz.underlying67⟩
instance conc67 : Conc Tryz.prog 67 := ⟨⟨_, Tryz.underlying67, rfl⟩⟩
instance flat67 : Flat Tryz.prog 67 := ⟨⟨_, Tryz.underlying67, rfl⟩⟩
instance siz67 : Siz Tryz.prog 67 1 := ⟨Tryz.sizeOf67⟩
instance conc69 : Conc Tryz.prog 69 := ⟨⟨_, Tryz.underlying69, rfl⟩⟩
instance aggr69 : Aggr Tryz.prog 69 := ⟨⟨_, Tryz.underlying69, rfl⟩⟩
instance siz69 : Siz Tryz.prog 69 10 := ⟨Tryz.sizeOf69⟩
instance uint72 : UInt Tryz.prog 72 Go.IntKind.u32 := ⟨Tryz.underlying72⟩
instance conc72 : Conc Tryz.prog 72 := ⟨⟨_, Tryz.underlying72, rfl⟩⟩
instance flat72 : Flat Tryz.prog 72 := ⟨⟨_, Tryz.underlying72, rfl⟩⟩
instance siz72 : Siz Tryz.prog 72 1 := ⟨Tryz.sizeOf72⟩
instance uint75 : UInt Tryz.prog 75 Go.IntKind.u64 := ⟨Tryz.underlying75⟩
instance conc75 : Conc Tryz.prog 75 := ⟨⟨_, Tryz.underlying75, rfl⟩⟩
instance flat75 : Flat Tryz.prog 75 := ⟨⟨_, Tryz.underlying75, rfl⟩⟩
instance siz75 : Siz Tryz.prog 75 1 := ⟨Tryz.sizeOf75⟩
instance uptr78 : UPtr Tryz.prog 78 5 := ⟨Tryz.underlying78⟩
instance conc78 : Conc Tryz.prog 78 := ⟨⟨_, Tryz.underlying78, rfl⟩⟩
instance flat78 : Flat Tryz.prog 78 := ⟨⟨_, Tryz.underlying78, rfl⟩⟩
instance siz78 : Siz Tryz.prog 78 1 := ⟨Tryz.sizeOf78⟩
instance conc79 : Conc Tryz.prog 79 := ⟨⟨_, Tryz.underlying79, rfl⟩⟩
instance flat79 : Flat Tryz.prog 79 := ⟨⟨_, Tryz.underlying79, rfl⟩⟩
instance siz79 : Siz Tryz.prog 79 1 := ⟨Tryz.sizeOf79⟩
instance uslice80 : USlice Tryz.prog 80 114 := ⟨Tryz.underlying80⟩
instance conc80 : Conc Tryz.prog 80 := ⟨⟨_, Tryz.underlying80, rfl⟩⟩
instance flat80 : Flat Tryz.prog 80 := ⟨⟨_, Tryz.underlying80, rfl⟩⟩
instance siz80 : Siz Tryz.prog 80 1 := ⟨Tryz.sizeOf80⟩
instance uslice81 : USlice Tryz.prog 81 125 := ⟨Tryz.underlying81⟩
instance conc81 : Conc Tryz.prog 81 := ⟨⟨_, Tryz.underlying81, rfl⟩⟩
instance flat81 : Flat Tryz.prog 81 := ⟨⟨_, Tryz.underlying81, rfl⟩⟩
instance siz81 : Siz Tryz.prog 81 1 := ⟨Tryz.sizeOf81⟩
instance uslice82 : USlice Tryz.prog 82 104 := ⟨Tryz.underlying82⟩
instance conc82 : Conc Tryz.prog 82 := ⟨⟨_, Tryz.underlying82, rfl⟩⟩
instance flat82 : Flat Tryz.prog 82 := ⟨⟨_, Tryz.underlying82, rfl⟩⟩
instance siz82 : Siz Tryz.prog 82 1 := ⟨Tryz.sizeOf82⟩
instance uslice83 : USlice Tryz.prog 83 98 := ⟨Tryz.underlying83⟩
instance conc83 : Conc Tryz.prog 83 := ⟨⟨_, Tryz.underlying83, rfl⟩⟩
instance flat83 : Flat Tryz.prog 83 := ⟨⟨_, Tryz.underlying83, rfl⟩⟩
instance siz83 : Siz Tryz.prog 83 1 := ⟨Tryz.sizeOf83⟩
instance conc84 : Conc Tryz.prog 84 := ⟨⟨_, Tryz.underlying84, rfl⟩⟩
instance aggr84 : Aggr Tryz.prog 84 := ⟨⟨_, Tryz.underlying84, rfl⟩⟩
instance siz84 : Siz Tryz.prog 84 80 := ⟨Tryz.sizeOf84⟩
instance conc86 : Conc Tryz.prog 86 := ⟨⟨_, Tryz.underlying86, rfl⟩⟩
instance aggr86 : Aggr Tryz.prog 86 := ⟨⟨_, Tryz.underlying86, rfl⟩⟩
instance siz86 : Siz Tryz.prog 86 81 := ⟨Tryz.sizeOf86⟩
instance conc88 : Conc Tryz.prog 88 := ⟨⟨_, Tryz.underlying88, rfl⟩⟩
instance aggr88 : Aggr Tryz.prog 88 := ⟨⟨_, Tryz.underlying88, rfl⟩⟩
instance siz88 : Siz Tryz.prog 88 93 := ⟨Tryz.sizeOf88⟩
instance uptr91 : UPtr Tryz.prog 91 93 := ⟨Tryz.underlying91⟩
instance conc91 : Conc Tryz.prog 91 := ⟨⟨_, Tryz.underlying91, rfl⟩⟩
instance flat91 : Flat Tryz.prog 91 := ⟨⟨_, Tryz.underlying91, rfl⟩⟩
instance siz91 : Siz Tryz.prog 91 1 := ⟨Tryz.sizeOf91⟩
instance conc93 : Conc Tryz.prog 93 := ⟨⟨_, Tryz.underlying93, rfl⟩⟩
instance aggr93 : Aggr Tryz.prog 93 := ⟨⟨_, Tryz.underlying93, rfl⟩⟩
instance siz93 : Siz Tryz.prog 93 0 := ⟨Tryz.sizeOf93⟩
instance conc97 : Conc Tryz.prog 97 := ⟨⟨_, Tryz.underlying97, rfl⟩⟩
instance aggr97 : Aggr Tryz.prog 97 := ⟨⟨_, Tryz.underlying97, rfl⟩⟩
instance siz97 : Siz Tryz.prog 97 5 := ⟨Tryz.sizeOf97⟩
instance uptr98 : UPtr Tryz.prog 98 103 := ⟨Tryz.underlying98⟩
instance conc98 : Conc Tryz.prog 98 := ⟨⟨_, Tryz.underlying98, rfl⟩⟩
instance flat98 : Flat Tryz.prog 98 := ⟨⟨_, Tryz.underlying98, rfl⟩⟩
instance siz98 : Siz Tryz.prog 98 1 := ⟨Tryz.sizeOf98⟩
instance conc101 : Conc Tryz.prog 101 := ⟨⟨_, Tryz.underlying101, rfl⟩⟩
instance aggr101 : Aggr Tryz.prog 101 := ⟨⟨_, Tryz.underlying101, rfl⟩⟩
instance siz101 : Siz Tryz.prog 101 2 := ⟨Tryz.sizeOf101⟩
instance conc103 : Conc Tryz.prog 103 := ⟨⟨_, Tryz.underlying103, rfl⟩⟩
instance aggr103 : Aggr Tryz.prog 103 := ⟨⟨_, Tryz.underlying103, rfl⟩⟩
instance siz103 : Siz Tryz.prog 103 4 := ⟨Tryz.sizeOf103⟩
instance uptr104 : UPtr Tryz.prog 104 142 := ⟨Tryz.underlying104⟩
instance conc104 : Conc Tryz.prog 104 := ⟨⟨_, Tryz.underlying104, rfl⟩⟩
instance flat104 : Flat Tryz.prog 104 := ⟨⟨_, Tryz.underlying104, rfl⟩⟩
instance siz104 : Siz Tryz.prog 104 1 := ⟨Tryz.sizeOf104⟩
instance conc106 : Conc Tryz.prog 106 := ⟨⟨_, Tryz.underlying106, rfl⟩⟩
instance flat106 : Flat Tryz.prog 106 := ⟨⟨_, Tryz.underlying106, rfl⟩⟩
instance siz106 : Siz Tryz.prog 106 1 := ⟨Tryz.sizeOf106⟩
instance uptr109 : UPtr Tryz.prog 109 88 := ⟨Tryz.underlying109⟩
instance conc109 : Conc Tryz.prog 109 := ⟨⟨_, Tryz.underlying109, rfl⟩⟩
instance flat109 : Flat Tryz.prog 109 := ⟨⟨_, Tryz.underlying109, rfl⟩⟩
instance siz109 : Siz Tryz.prog 109 1 := ⟨Tryz.sizeOf109⟩
instance uiface111 : UIface Tryz.prog 111 := ⟨⟨_, Tryz.underlying111⟩⟩
instance flat111 : Flat Tryz.prog 111 := ⟨⟨_, Tryz.underlying111, rfl⟩⟩
instance siz111 : Siz Tryz.prog 111 1 := ⟨Tryz.sizeOf111⟩
instance uslice112 : USlice Tryz.prog 112 61 := ⟨Tryz.underlying112⟩
instance conc112 : Conc Tryz.prog 112 := ⟨⟨_, Tryz.underlying112, rfl⟩⟩
instance flat112 : Flat Tryz.prog 112 := ⟨⟨_, Tryz.underlying112, rfl⟩⟩
instance siz112 : Siz Tryz.prog 112 1 := ⟨Tryz.sizeOf112⟩
instance conc114 : Conc Tryz.prog 114 := ⟨⟨_, Tryz.underlying114, rfl⟩⟩
instance aggr114 : Aggr Tryz.prog 114 := ⟨⟨_, Tryz.underlying114, rfl⟩⟩
instance siz114 : Siz Tryz.prog 114 4 := ⟨Tryz.sizeOf114⟩
instance conc117 : Conc Tryz.prog 117 := ⟨⟨_, Tryz.underlying117, rfl⟩⟩
instance ufunc117 : UFunc Tryz.prog 117 := ⟨⟨_, _, _, Tryz.underlying117⟩⟩
instance flat117 : Flat Tryz.prog 117 := ⟨⟨_, Tryz.underlying117, rfl⟩⟩
instance siz117 : Siz Tryz.prog 117 1 := ⟨Tryz.sizeOf117⟩
instance uslice119 : USlice Tryz.prog 119 117 := ⟨Tryz.underlying119⟩
instance conc119 : Conc Tryz.prog 119 := ⟨⟨_, Tryz.underlying119, rfl⟩⟩
instance flat119 : Flat Tryz.prog 119 := ⟨⟨_, Tryz.underlying119, rfl⟩⟩
instance siz119 : Siz Tryz.prog 119 1 := ⟨Tryz.sizeOf119⟩
instance uslice122 : USlice Tryz.prog 122 3 := ⟨Tryz.underlying122⟩
instance conc122 : Conc Tryz.prog 122 := ⟨⟨_, Tryz.underlying122, rfl⟩⟩
instance flat122 : Flat Tryz.prog 122 := ⟨⟨_, Tryz.underlying122, rfl⟩⟩
instance siz122 : Siz Tryz.prog 122 1 := ⟨Tryz.sizeOf122⟩
instance conc123 : Conc Tryz.prog 123 := ⟨⟨_, Tryz.underlying123, rfl⟩⟩
instance ufunc123 : UFunc Tryz.prog 123 := ⟨⟨_, _, _, Tryz.underlying123⟩⟩
instance flat123 : Flat Tryz.prog 123 := ⟨⟨_, Tryz.underlying123, rfl⟩⟩
instance siz123 : Siz Tryz.prog 123 1 := ⟨Tryz.sizeOf123⟩
instance uiface125 : UIface Tryz.prog 125 := ⟨⟨_, Tryz.underlying125⟩⟩
instance flat125 : Flat Tryz.prog 125 := ⟨⟨_, Tryz.underlying125, rfl⟩⟩
instance siz125 : Siz Tryz.prog 125 1 := ⟨Tryz.sizeOf125⟩
instance uptr127 : UPtr Tryz.prog 127 132 := ⟨Tryz.underlying127⟩
instance conc127 : Conc Tryz.prog 127 := ⟨⟨_, Tryz.underlying127, rfl⟩⟩
instance flat127 : Flat Tryz.prog 127 := ⟨⟨_, Tryz.underlying127, rfl⟩⟩
instance siz127 : Siz Tryz.prog 127 1 := ⟨Tryz.sizeOf127⟩
instance conc130 : Conc Tryz.prog 130 := ⟨⟨_, Tryz.underlying130, rfl⟩⟩
instance aggr130 : Aggr Tryz.prog 130 := ⟨⟨_, Tryz.underlying130, rfl⟩⟩
instance siz130 : Siz Tryz.prog 130 1 := ⟨Tryz.sizeOf130⟩
instance conc132 : Conc Tryz.prog 132 := ⟨⟨_, Tryz.underlying132, rfl⟩⟩
instance aggr132 : Aggr Tryz.prog 132 := ⟨⟨_, Tryz.underlying132, rfl⟩⟩
instance siz132 : Siz Tryz.prog 132 2 := ⟨Tryz.sizeOf132⟩
instance uptr133 : UPtr Tryz.prog 133 137 := ⟨Tryz.underlying133⟩
instance conc133 : Conc Tryz.prog 133 := ⟨⟨_, Tryz.underlying133, rfl⟩⟩
instance flat133 : Flat Tryz.prog 133 := ⟨⟨_, Tryz.underlying133, rfl⟩⟩
instance siz133 : Siz Tryz.prog 133 1 := ⟨Tryz.sizeOf133⟩
instance conc137 : Conc Tryz.prog 137 := ⟨⟨_, Tryz.underlying137, rfl⟩⟩
instance aggr137 : Aggr Tryz.prog 137 := ⟨⟨_, Tryz.underlying137, rfl⟩⟩
instance siz137 : Siz Tryz.prog 137 5 := ⟨Tryz.sizeOf137⟩
instance uptr139 : UPtr Tryz.prog 139 343 := ⟨Tryz.underlying139⟩
instance conc139 : Conc Tryz.prog 139 := ⟨⟨_, Tryz.underlying139, rfl⟩⟩
instance flat139 : Flat Tryz.prog 139 := ⟨⟨_, Tryz.underlying139, rfl⟩⟩
instance siz139 : Siz Tryz.prog 139 1 := ⟨Tryz.sizeOf139⟩
instance conc142 : Conc Tryz.prog 142 := ⟨⟨_, Tryz.underlying142, rfl⟩⟩
instance aggr142 : Aggr Tryz.prog 142 := ⟨⟨_, Tryz.underlying142, rfl⟩⟩
instance siz142 : Siz Tryz.prog 142 6 := ⟨Tryz.sizeOf142⟩
instance uptr143 : UPtr Tryz.prog 143 145 := ⟨Tryz.underlying143⟩
instance conc143 : Conc Tryz.prog 143 := ⟨⟨_, Tryz.underlying143, rfl⟩⟩
instance flat143 : Flat Tryz.prog 143 := ⟨⟨_, Tryz.underlying143, rfl⟩⟩
instance siz143 : Siz Tryz.prog 143 1 := ⟨Tryz.sizeOf143⟩
instance conc145 : Conc Tryz.prog 145 := ⟨⟨_, Tryz.underlying145, rfl⟩⟩
instance aggr145 : Aggr Tryz.prog 145 := ⟨⟨_, Tryz.underlying145, rfl⟩⟩
instance siz145 : Siz Tryz.prog 145 4 := ⟨Tryz.sizeOf145⟩
instance uptr146 : UPtr Tryz.prog 146 148 := ⟨Tryz.underlying146⟩
instance conc146 : Conc Tryz.prog 146 := ⟨⟨_, Tryz.underlying146, rfl⟩⟩
instance flat146 : Flat Tryz.prog 146 := ⟨⟨_, Tryz.underlying146, rfl⟩⟩
instance siz146 : Siz Tryz.prog 146 1 := ⟨Tryz.sizeOf146⟩
instance conc148 : Conc Tryz.prog 148 := ⟨⟨_, Tryz.underlying148, rfl⟩⟩
instance aggr148 : Aggr Tryz.prog 148 := ⟨⟨_, Tryz.underlying148, rfl⟩⟩
instance siz148 : Siz Tryz.prog 148 3 := ⟨Tryz.sizeOf148⟩
instance uptr149 : UPtr Tryz.prog 149 130 := ⟨Tryz.underlying149⟩
instance conc149 : Conc Tryz.prog 149 := ⟨⟨_, Tryz.underlying149, rfl⟩⟩
instance flat149 : Flat Tryz.prog 149 := ⟨⟨_, Tryz.underlying149, rfl⟩⟩
instance siz149 : Siz Tryz.prog 149 1 := ⟨Tryz.sizeOf149⟩
instance uptr151 : UPtr Tryz.prog 151 153 := ⟨Tryz.underlying151⟩
instance conc151 : Conc Tryz.prog 151 := ⟨⟨_, Tryz.underlying151, rfl⟩⟩
instance flat151 : Flat Tryz.prog 151 := ⟨⟨_, Tryz.underlying151, rfl⟩⟩
instance siz151 : Siz Tryz.prog 151 1 := ⟨Tryz.sizeOf151⟩
instance conc153 : Conc Tryz.prog 153 := ⟨⟨_, Tryz.underlying153, rfl⟩⟩
instance aggr153 : Aggr Tryz.prog 153 := ⟨⟨_, Tryz.underlying153, rfl⟩⟩
instance siz153 : Siz Tryz.prog 153 1 := ⟨Tryz.sizeOf153⟩
instance uptr155 : UPtr Tryz.prog 155 159 := ⟨Tryz.underlying155⟩
instance conc155 : Conc Tryz.prog 155 := ⟨⟨_, Tryz.underlying155, rfl⟩⟩
instance flat155 : Flat Tryz.prog 155 := ⟨⟨_, Tryz.underlying155, rfl⟩⟩
instance siz155 : Siz Tryz.prog 155 1 := ⟨Tryz.sizeOf155⟩
instance uptr157 : UPtr Tryz.prog 157 164 := ⟨Tryz.underlying157⟩
instance conc157 : Conc Tryz.prog 157 := ⟨⟨_, Tryz.underlying157, rfl⟩⟩
instance flat157 : Flat Tryz.prog 157 := ⟨⟨_, Tryz.underlying157, rfl⟩⟩
instance siz157 : Siz Tryz.prog 157 1 := ⟨Tryz.sizeOf157⟩
instance conc159 : Conc Tryz.prog 159 := ⟨⟨_, Tryz.underlying159, rfl⟩⟩
instance aggr159 : Aggr Tryz.prog 159 := ⟨⟨_, Tryz.underlying159, rfl⟩⟩
instance siz159 : Siz Tryz.prog 159 2 := ⟨Tryz.sizeOf159⟩
instance ustr161 : UStr Tryz.prog 161 := ⟨Tryz.underlying161⟩
instance conc161 : Conc Tryz.prog 161 := ⟨⟨_, Tryz.underlying161, rfl⟩⟩
instance flat161 : Flat Tryz.prog 161 := ⟨⟨_, Tryz.underlying161, rfl⟩⟩
instance siz161 : Siz Tryz.prog 161 1 := ⟨Tryz.sizeOf161⟩
instance uslice162 : USlice Tryz.prog 162 161 := ⟨Tryz.underlying162⟩
instance conc162 : Conc Tryz.prog 162 := ⟨⟨_, Tryz.underlying162, rfl⟩⟩
instance flat162 : Flat Tryz.prog 162 := ⟨⟨_, Tryz.underlying162, rfl⟩⟩
instance siz162 : Siz Tryz.prog 162 1 := ⟨Tryz.sizeOf162⟩
instance conc164 : Conc Tryz.prog 164 := ⟨⟨_, Tryz.underlying164, rfl⟩⟩
instance aggr164 : Aggr Tryz.prog 164 := ⟨⟨_, Tryz.underlying164, rfl⟩⟩
instance siz164 : Siz Tryz.prog 164 3 := ⟨Tryz.sizeOf164⟩
instance uptr169 : UPtr Tryz.prog 169 171 := ⟨Tryz.underlying169⟩
instance conc169 : Conc Tryz.prog 169 := ⟨⟨_, Tryz.underlying169, rfl⟩⟩
instance flat169 : Flat Tryz.prog 169 := ⟨⟨_, Tryz.underlying169, rfl⟩⟩
instance siz169 : Siz Tryz.prog 169 1 := ⟨Tryz.sizeOf169⟩
instance conc171 : Conc Tryz.prog 171 := ⟨⟨_, Tryz.underlying171, rfl⟩⟩
instance aggr171 : Aggr Tryz.prog 171 := ⟨⟨_, Tryz.underlying171, rfl⟩⟩
instance siz171 : Siz Tryz.prog 171 1 := ⟨Tryz.sizeOf171⟩
instance uptr172 : UPtr Tryz.prog 172 173 := ⟨Tryz.underlying172⟩
instance conc172 : Conc Tryz.prog 172 := ⟨⟨_, Tryz.underlying172, rfl⟩⟩
instance flat172 : Flat Tryz.prog 172 := ⟨⟨_, Tryz.underlying172, rfl⟩⟩
instance siz172 : Siz Tryz.prog 172 1 := ⟨Tryz.sizeOf172⟩
instance conc173 : Conc Tryz.prog 173 := ⟨⟨_, Tryz.underlying173, rfl⟩⟩
instance aggr173 : Aggr Tryz.prog 173 := ⟨⟨_, Tryz.underlying173, rfl⟩⟩
instance siz173 : Siz Tryz.prog 173 0 := ⟨Tryz.sizeOf173⟩
instance uptr175 : UPtr Tryz.prog 175 176 := ⟨Tryz.underlying175⟩
instance conc175 : Conc Tryz.prog 175 := ⟨⟨_, Tryz.underlying175, rfl⟩⟩
instance flat175 : Flat Tryz.prog 175 := ⟨⟨_, Tryz.underlying175, rfl⟩⟩
instance siz175 : Siz Tryz.prog 175 1 := ⟨Tryz.sizeOf175⟩
instance conc176 : Conc Tryz.prog 176 := ⟨⟨_, Tryz.underlying176, rfl⟩⟩
instance aggr176 : Aggr Tryz.prog 176 := ⟨⟨_, Tryz.underlying176, rfl⟩⟩
instance siz176 : Siz Tryz.prog 176 1 := ⟨Tryz.sizeOf176⟩
instance uptr183 : UPtr Tryz.prog 183 185 := ⟨Tryz.underlying183⟩
instance conc183 : Conc Tryz.prog 183 := ⟨⟨_, Tryz.underlying183, rfl⟩⟩
instance flat183 : Flat Tryz.prog 183 := ⟨⟨_, Tryz.underlying183, rfl⟩⟩
instance siz183 : Siz Tryz.prog 183 1 := ⟨Tryz.sizeOf183⟩
instance conc185 : Conc Tryz.prog 185 := ⟨⟨_, Tryz.underlying185, rfl⟩⟩
instance aggr185 : Aggr Tryz.prog 185 := ⟨⟨_, Tryz.underlying185, rfl⟩⟩
instance siz185 : Siz Tryz.prog 185 5 := ⟨Tryz.sizeOf185⟩
instance uptr186 : UPtr Tryz.prog 186 187 := ⟨Tryz.underlying186⟩
instance conc186 : Conc Tryz.prog 186 := ⟨⟨_, Tryz.underlying186, rfl⟩⟩
instance flat186 : Flat Tryz.prog 186 := ⟨⟨_, Tryz.underlying186, rfl⟩⟩
instance siz186 : Siz Tryz.prog 186 1 := ⟨Tryz.sizeOf186⟩
instance conc187 : Conc Tryz.prog 187 := ⟨⟨_, Tryz.underlying187, rfl⟩⟩
instance aggr187 : Aggr Tryz.prog 187 := ⟨⟨_, Tryz.underlying187, rfl⟩⟩
instance siz187 : Siz Tryz.prog 187 0 := ⟨Tryz.sizeOf187⟩
instance uptr192 : UPtr Tryz.prog 192 194 := ⟨Tryz.underlying192⟩
instance conc192 : Conc Tryz.prog 192 := ⟨⟨_, Tryz.underlying192, rfl⟩⟩
instance flat192 : Flat Tryz.prog 192 := ⟨⟨_, Tryz.underlying192, rfl⟩⟩
instance siz192 : Siz Tryz.prog 192 1 := ⟨Tryz.sizeOf192⟩
instance conc194 : Conc Tryz.prog 194 := ⟨⟨_, Tryz.underlying194, rfl⟩⟩
instance aggr194 : Aggr Tryz.prog 194 := ⟨⟨_, Tryz.underlying194, rfl⟩⟩
instance siz194 : Siz Tryz.prog 194 2 := ⟨Tryz.sizeOf194⟩
instance uslice202 : USlice Tryz.prog 202 183 := ⟨Tryz.underlying202⟩
instance conc202 : Conc Tryz.prog 202 := ⟨⟨_, Tryz.underlying202, rfl⟩⟩
instance flat202 : Flat Tryz.prog 202 := ⟨⟨_, Tryz.underlying202, rfl⟩⟩
instance siz202 : Siz Tryz.prog 202 1 := ⟨Tryz.sizeOf202⟩
instance conc203 : Conc Tryz.prog 203 := ⟨⟨_, Tryz.underlying203, rfl⟩⟩
instance aggr203 : Aggr Tryz.prog 203 := ⟨⟨_, Tryz.underlying203, rfl⟩⟩
instance siz203 : Siz Tryz.prog 203 5 := ⟨Tryz.sizeOf203⟩
instance uptr207 : UPtr Tryz.prog 207 209 := ⟨Tryz.underlying207⟩
instance conc207 : Conc Tryz.prog 207 := ⟨⟨_, Tryz.underlying207, rfl⟩⟩
instance flat207 : Flat Tryz.prog 207 := ⟨⟨_, Tryz.underlying207, rfl⟩⟩
instance siz207 : Siz Tryz.prog 207 1 := ⟨Tryz.sizeOf207⟩
instance conc209 : Conc Tryz.prog 209 := ⟨⟨_, Tryz.underlying209, rfl⟩⟩
instance aggr209 : Aggr Tryz.prog 209 := ⟨⟨_, Tryz.underlying209, rfl⟩⟩
instance siz209 : Siz Tryz.prog 209 2 := ⟨Tryz.sizeOf209⟩
instance uptr210 : UPtr Tryz.prog 210 215 := ⟨Tryz.underlying210⟩
instance conc210 : Conc Tryz.prog 210 := ⟨⟨_, Tryz.underlying210, rfl⟩⟩
instance flat210 : Flat Tryz.prog 210 := ⟨⟨_, Tryz.underlying210, rfl⟩⟩
instance siz210 : Siz Tryz.prog 210 1 := ⟨Tryz.sizeOf210⟩
instance uptr211 : UPtr Tryz.prog 211 214 := ⟨Tryz.underlying211⟩
instance conc211 : Conc Tryz.prog 211 := ⟨⟨_, Tryz.underlying211, rfl⟩⟩
instance flat211 : Flat Tryz.prog 211 := ⟨⟨_, Tryz.underlying211, rfl⟩⟩
instance siz211 : Siz Tryz.prog 211 1 := ⟨Tryz.sizeOf211⟩
instance conc214 : Conc Tryz.prog 214 := ⟨⟨_, Tryz.underlying214, rfl⟩⟩
instance aggr214 : Aggr Tryz.prog 214 := ⟨⟨_, Tryz.underlying214, rfl⟩⟩
instance siz214 : Siz Tryz.prog 214 2 := ⟨Tryz.sizeOf214⟩
instance conc215 : Conc Tryz.prog 215 := ⟨⟨_, Tryz.underlying215, rfl⟩⟩
instance aggr215 : Aggr Tryz.prog 215 := ⟨⟨_, Tryz.underlying215, rfl⟩⟩
instance siz215 : Siz Tryz.prog 215 2 := ⟨Tryz.sizeOf215⟩
instance uptr217 : UPtr Tryz.prog 217 218 := ⟨Tryz.underlying217⟩
instance conc217 : Conc Tryz.prog 217 := ⟨⟨_, Tryz.underlying217, rfl⟩⟩
instance flat217 : Flat Tryz.prog 217 := ⟨⟨_, Tryz.underlying217, rfl⟩⟩
instance siz217 : Siz Tryz.prog 217 1 := ⟨Tryz.sizeOf217⟩
instance conc218 : Conc Tryz.prog 218 := ⟨⟨_, Tryz.underlying218, rfl⟩⟩
instance aggr218 : Aggr Tryz.prog 218 := ⟨⟨_, Tryz.underlying218, rfl⟩⟩
instance siz218 : Siz Tryz.prog 218 0 := ⟨Tryz.sizeOf218⟩
instance uptr225 : UPtr Tryz.prog 225 228 := ⟨Tryz.underlying225⟩
instance conc225 : Conc Tryz.prog 225 := ⟨⟨_, Tryz.underlying225, rfl⟩⟩
instance flat225 : Flat Tryz.prog 225 := ⟨⟨_, Tryz.underlying225, rfl⟩⟩
instance siz225 : Siz Tryz.prog 225 1 := ⟨Tryz.sizeOf225⟩
instance conc228 : Conc Tryz.prog 228 := ⟨⟨_, Tryz.underlying228, rfl⟩⟩
instance aggr228 : Aggr Tryz.prog 228 := ⟨⟨_, Tryz.underlying228, rfl⟩⟩
instance siz228 : Siz Tryz.prog 228 5 := ⟨Tryz.sizeOf228⟩
instance uptr232 : UPtr Tryz.prog 232 234 := ⟨Tryz.underlying232⟩
instance conc232 : Conc Tryz.prog 232 := ⟨⟨_, Tryz.underlying232, rfl⟩⟩
instance flat232 : Flat Tryz.prog 232 := ⟨⟨_, Tryz.underlying232, rfl⟩⟩
instance siz232 : Siz Tryz.prog 232 1 := ⟨Tryz.sizeOf232⟩
instance conc234 : Conc Tryz.prog 234 := ⟨⟨_, Tryz.underlying234, rfl⟩⟩
instance aggr234 : Aggr Tryz.prog 234 := ⟨⟨_, Tryz.underlying234, rfl⟩⟩
instance siz234 : Siz Tryz.prog 234 3 := ⟨Tryz.sizeOf234⟩
instance uptr235 : UPtr Tryz.prog 235 240 := ⟨Tryz.underlying235⟩
instance conc235 : Conc Tryz.prog 235 := ⟨⟨_, Tryz.underlying235, rfl⟩⟩
instance flat235 : Flat Tryz.prog 235 := ⟨⟨_, Tryz.underlying235, rfl⟩⟩
instance siz235 : Siz Tryz.prog 235 1 := ⟨Tryz.sizeOf235⟩
instance uptr237 : UPtr Tryz.prog 237 274 := ⟨Tryz.underlying237⟩
instance conc237 : Conc Tryz.prog 237 := ⟨⟨_, Tryz.underlying237, rfl⟩⟩
instance flat237 : Flat Tryz.prog 237 := ⟨⟨_, Tryz.underlying237, rfl⟩⟩
instance siz237 : Siz Tryz.prog 237 1 := ⟨Tryz.sizeOf237⟩
instance conc238 : Conc Tryz.prog 238 := ⟨⟨_, Tryz.underlying238, rfl⟩⟩
instance ufunc238 : UFunc Tryz.prog 238 := ⟨⟨_, _, _, Tryz.underlying238⟩⟩
instance flat238 : Flat Tryz.prog 238 := ⟨⟨_, Tryz.underlying238, rfl⟩⟩
instance siz238 : Siz Tryz.prog 238 1 := ⟨Tryz.sizeOf238⟩
instance conc240 : Conc Tryz.prog 240 := ⟨⟨_, Tryz.underlying240, rfl⟩⟩
instance aggr240 : Aggr Tryz.prog 240 := ⟨⟨_, Tryz.underlying240, rfl⟩⟩
instance siz240 : Siz Tryz.prog 240 5 := ⟨Tryz.sizeOf240⟩
instance uptr244 : UPtr Tryz.prog 244 246 := ⟨Tryz.underlying244⟩
instance conc244 : Conc Tryz.prog 244 := ⟨⟨_, Tryz.underlying244, rfl⟩⟩
instance flat244 : Flat Tryz.prog 244 := ⟨⟨_, Tryz.underlying244, rfl⟩⟩
instance siz244 : Siz Tryz.prog 244 1 := ⟨Tryz.sizeOf244⟩
instance conc246 : Conc Tryz.prog 246 := ⟨⟨_, Tryz.underlying246, rfl⟩⟩
instance aggr246 : Aggr Tryz.prog 246 := ⟨⟨_, Tryz.underlying246, rfl⟩⟩
instance siz246 : Siz Tryz.prog 246 4 := ⟨Tryz.sizeOf246⟩
instance uptr248 : UPtr Tryz.prog 248 250 := ⟨Tryz.underlying248⟩
instance conc248 : Conc Tryz.prog 248 := ⟨⟨_, Tryz.underlying248, rfl⟩⟩
instance flat248 : Flat Tryz.prog 248 := ⟨⟨_, Tryz.underlying248, rfl⟩⟩
instance siz248 : Siz Tryz.prog 248 1 := ⟨Tryz.sizeOf248⟩
instance conc250 : Conc Tryz.prog 250 := ⟨⟨_, Tryz.underlying250, rfl⟩⟩
instance aggr250 : Aggr Tryz.prog 250 := ⟨⟨_, Tryz.underlying250, rfl⟩⟩
instance siz250 : Siz Tryz.prog 250 2 := ⟨Tryz.sizeOf250⟩
instance uptr254 : UPtr Tryz.prog 254 363 := ⟨Tryz.underlying254⟩
instance conc254 : Conc Tryz.prog 254 := ⟨⟨_, Tryz.underlying254, rfl⟩⟩
instance flat254 : Flat Tryz.prog 254 := ⟨⟨_, Tryz.underlying254, rfl⟩⟩
instance siz254 : Siz Tryz.prog 254 1 := ⟨Tryz.sizeOf254⟩
instance uptr255 : UPtr Tryz.prog 255 257 := ⟨Tryz.underlying255⟩
instance conc255 : Conc Tryz.prog 255 := ⟨⟨_, Tryz.underlying255, rfl⟩⟩
instance flat255 : Flat Tryz.prog 255 := ⟨⟨_, Tryz.underlying255, rfl⟩⟩
instance siz255 : Siz Tryz.prog 255 1 := ⟨Tryz.sizeOf255⟩
instance conc257 : Conc Tryz.prog 257 := ⟨⟨_, Tryz.underlying257, rfl⟩⟩
instance aggr257 : Aggr Tryz.prog 257 := ⟨⟨_, Tryz.underlying257, rfl⟩⟩
instance siz257 : Siz Tryz.prog 257 2 := ⟨Tryz.sizeOf257⟩
instance conc261 : Conc Tryz.prog 261 := ⟨⟨_, Tryz.underlying261, rfl⟩⟩
instance aggr261 : Aggr Tryz.prog 261 := ⟨⟨_, Tryz.underlying261, rfl⟩⟩
instance siz261 : Siz Tryz.prog 261 2 := ⟨Tryz.sizeOf261⟩
instance conc262 : Conc Tryz.prog 262 := ⟨⟨_, Tryz.underlying262, rfl⟩⟩
instance aggr262 : Aggr Tryz.prog 262 := ⟨⟨_, Tryz.underlying262, rfl⟩⟩
instance siz262 : Siz Tryz.prog 262 24 := ⟨Tryz.sizeOf262⟩
instance conc263 : Conc Tryz.prog 263 := ⟨⟨_, Tryz.underlying263, rfl⟩⟩
instance aggr263 : Aggr Tryz.prog 263 := ⟨⟨_, Tryz.underlying263, rfl⟩⟩
instance siz263 : Siz Tryz.prog 263 0 := ⟨Tryz.sizeOf263⟩
instance conc267 : Conc Tryz.prog 267 := ⟨⟨_, Tryz.underlying267, rfl⟩⟩
instance aggr267 : Aggr Tryz.prog 267 := ⟨⟨_, Tryz.underlying267, rfl⟩⟩
instance siz267 : Siz Tryz.prog 267 2 := ⟨Tryz.sizeOf267⟩
instance conc274 : Conc Tryz.prog 274 := ⟨⟨_, Tryz.underlying274, rfl⟩⟩
instance aggr274 : Aggr Tryz.prog 274 := ⟨⟨_, Tryz.underlying274, rfl⟩⟩
instance siz274 : Siz Tryz.prog 274 3 := ⟨Tryz.sizeOf274⟩
instance uptr275 : UPtr Tryz.prog 275 277 := ⟨Tryz.underlying275⟩
instance conc275 : Conc Tryz.prog 275 := ⟨⟨_, Tryz.underlying275, rfl⟩⟩
instance flat275 : Flat Tryz.prog 275 := ⟨⟨_, Tryz.underlying275, rfl⟩⟩
instance siz275 : Siz Tryz.prog 275 1 := ⟨Tryz.sizeOf275⟩
instance conc277 : Conc Tryz.prog 277 := ⟨⟨_, Tryz.underlying277, rfl⟩⟩
instance aggr277 : Aggr Tryz.prog 277 := ⟨⟨_, Tryz.underlying277, rfl⟩⟩
instance siz277 : Siz Tryz.prog 277 3 := ⟨Tryz.sizeOf277⟩
instance uptr279 : UPtr Tryz.prog 279 280 := ⟨Tryz.underlying279⟩
instance conc279 : Conc Tryz.prog 279 := ⟨⟨_, Tryz.underlying279, rfl⟩⟩
instance flat279 : Flat Tryz.prog 279 := ⟨⟨_, Tryz.underlying279, rfl⟩⟩
instance siz279 : Siz Tryz.prog 279 1 := ⟨Tryz.sizeOf279⟩
instance conc280 : Conc Tryz.prog 280 := ⟨⟨_, Tryz.underlying280, rfl⟩⟩
instance aggr280 : Aggr Tryz.prog 280 := ⟨⟨_, Tryz.underlying280, rfl⟩⟩
instance siz280 : Siz Tryz.prog 280 1 := ⟨Tryz.sizeOf280⟩
instance conc282 : Conc Tryz.prog 282 := ⟨⟨_, Tryz.underlying282, rfl⟩⟩
instance aggr282 : Aggr Tryz.prog 282 := ⟨⟨_, Tryz.underlying282, rfl⟩⟩
instance siz282 : Siz Tryz.prog 282 256 := ⟨Tryz.sizeOf282⟩
instance conc284 : Conc Tryz.prog 284 := ⟨⟨_, Tryz.underlying284, rfl⟩⟩
instance aggr284 : Aggr Tryz.prog 284 := ⟨⟨_, Tryz.underlying284, rfl⟩⟩
instance siz284 : Siz Tryz.prog 284 2 := ⟨Tryz.sizeOf284⟩
instance conc285 : Conc Tryz.prog 285 := ⟨⟨_, Tryz.underlying285, rfl⟩⟩
instance aggr285 : Aggr Tryz.prog 285 := ⟨⟨_, Tryz.underlying285, rfl⟩⟩
instance siz285 : Siz Tryz.prog 285 32 := ⟨Tryz.sizeOf285⟩
instance conc286 : Conc Tryz.prog 286 := ⟨⟨_, Tryz.underlying286, rfl⟩⟩
instance aggr286 : Aggr Tryz.prog 286 := ⟨⟨_, Tryz.underlying286, rfl⟩⟩
instance siz286 : Siz Tryz.prog 286 3 := ⟨Tryz.sizeOf286⟩
instance conc287 : Conc Tryz.prog 287 := ⟨⟨_, Tryz.underlying287, rfl⟩⟩
instance aggr287 : Aggr Tryz.prog 287 := ⟨⟨_, Tryz.underlying287, rfl⟩⟩
instance siz287 : Siz Tryz.prog 287 522 := ⟨Tryz.sizeOf287⟩
instance uint288 : UInt Tryz.prog 288 Go.IntKind.i64 := ⟨Tryz.underlying288⟩
instance conc288 : Conc Tryz.prog 288 := ⟨⟨_, Tryz.underlying288, rfl⟩⟩
instance flat288 : Flat Tryz.prog 288 := ⟨⟨_, Tryz.underlying288, rfl⟩⟩
instance siz288 : Siz Tryz.prog 288 1 := ⟨Tryz.sizeOf288⟩
instance uptr291 : UPtr Tryz.prog 291 298 := ⟨Tryz.underlying291⟩
instance conc291 : Conc Tryz.prog 291 := ⟨⟨_, Tryz.underlying291, rfl⟩⟩
instance flat291 : Flat Tryz.prog 291 := ⟨⟨_, Tryz.underlying291, rfl⟩⟩
instance siz291 : Siz Tryz.prog 291 1 := ⟨Tryz.sizeOf291⟩
instance conc298 : Conc Tryz.prog 298 := ⟨⟨_, Tryz.underlying298, rfl⟩⟩
instance aggr298 : Aggr Tryz.prog 298 := ⟨⟨_, Tryz.underlying298, rfl⟩⟩
instance siz298 : Siz Tryz.prog 298 3 := ⟨Tryz.sizeOf298⟩
instance uptr302 : UPtr Tryz.prog 302 304 := ⟨Tryz.underlying302⟩
instance conc302 : Conc Tryz.prog 302 := ⟨⟨_, Tryz.underlying302, rfl⟩⟩
instance flat302 : Flat Tryz.prog 302 := ⟨⟨_, Tryz.underlying302, rfl⟩⟩
instance siz302 : Siz Tryz.prog 302 1 := ⟨Tryz.sizeOf302⟩
instance conc304 : Conc Tryz.prog 304 := ⟨⟨_, Tryz.underlying304, rfl⟩⟩
instance aggr304 : Aggr Tryz.prog 304 := ⟨⟨_, Tryz.underlying304, rfl⟩⟩
instance siz304 : Siz Tryz.prog 304 1 := ⟨Tryz.sizeOf304⟩
instance conc306 : Conc Tryz.prog 306 := ⟨⟨_, Tryz.underlying306, rfl⟩⟩
instance aggr306 : Aggr Tryz.prog 306 := ⟨⟨_, Tryz.underlying306, rfl⟩⟩
instance siz306 : Siz Tryz.prog 306 24 := ⟨Tryz.sizeOf306⟩
instance conc313 : Conc Tryz.prog 313 := ⟨⟨_, Tryz.underlying313, rfl⟩⟩
instance aggr313 : Aggr Tryz.prog 313 := ⟨⟨_, Tryz.underlying313, rfl⟩⟩
instance siz313 : Siz Tryz.prog 313 20 := ⟨Tryz.sizeOf313⟩
instance conc314 : Conc Tryz.prog 314 := ⟨⟨_, Tryz.underlying314, rfl⟩⟩
instance aggr314 : Aggr Tryz.prog 314 := ⟨⟨_, Tryz.underlying314, rfl⟩⟩
instance siz314 : Siz Tryz.prog 314 65 := ⟨Tryz.sizeOf314⟩
instance conc318 : Conc Tryz.prog 318 := ⟨⟨_, Tryz.underlying318, rfl⟩⟩
instance aggr318 : Aggr Tryz.prog 318 := ⟨⟨_, Tryz.underlying318, rfl⟩⟩
instance siz318 : Siz Tryz.prog 318 32 := ⟨Tryz.sizeOf318⟩
instance conc319 : Conc Tryz.prog 319 := ⟨⟨_, Tryz.underlying319, rfl⟩⟩
instance aggr319 : Aggr Tryz.prog 319 := ⟨⟨_, Tryz.underlying319, rfl⟩⟩
instance siz319 : Siz Tryz.prog 319 64 := ⟨Tryz.sizeOf319⟩
instance conc333 : Conc Tryz.prog 333 := ⟨⟨_, Tryz.underlying333, rfl⟩⟩
instance aggr333 : Aggr Tryz.prog 333 := ⟨⟨_, Tryz.underlying333, rfl⟩⟩
instance siz333 : Siz Tryz.prog 333 4 := ⟨Tryz.sizeOf333⟩
instance uiface337 : UIface Tryz.prog 337 := ⟨⟨_, Tryz.underlying337⟩⟩
instance flat337 : Flat Tryz.prog 337 := ⟨⟨_, Tryz.underlying337, rfl⟩⟩
instance siz337 : Siz Tryz.prog 337 1 := ⟨Tryz.sizeOf337⟩
instance uslice340 : USlice Tryz.prog 340 9 := ⟨Tryz.underlying340⟩
instance conc340 : Conc Tryz.prog 340 := ⟨⟨_, Tryz.underlying340, rfl⟩⟩
instance flat340 : Flat Tryz.prog 340 := ⟨⟨_, Tryz.underlying340, rfl⟩⟩
instance siz340 : Siz Tryz.prog 340 1 := ⟨Tryz.sizeOf340⟩
instance conc343 : Conc Tryz.prog 343 := ⟨⟨_, Tryz.underlying343, rfl⟩⟩
instance aggr343 : Aggr Tryz.prog 343 := ⟨⟨_, Tryz.underlying343, rfl⟩⟩
instance siz343 : Siz Tryz.prog 343 5 := ⟨Tryz.sizeOf343⟩
instance uptr347 : UPtr Tryz.prog 347 349 := ⟨Tryz.underlying347⟩
instance conc347 : Conc Tryz.prog 347 := ⟨⟨_, Tryz.underlying347, rfl⟩⟩
instance flat347 : Flat Tryz.prog 347 := ⟨⟨_, Tryz.underlying347, rfl⟩⟩
instance siz347 : Siz Tryz.prog 347 1 := ⟨Tryz.sizeOf347⟩
instance conc349 : Conc Tryz.prog 349 := ⟨⟨_, Tryz.underlying349, rfl⟩⟩
instance aggr349 : Aggr Tryz.prog 349 := ⟨⟨_, Tryz.underlying349, rfl⟩⟩
instance siz349 : Siz Tryz.prog 349 2 := ⟨Tryz.sizeOf349⟩
instance uptr350 : UPtr Tryz.prog 350 353 := ⟨Tryz.underlying350⟩
instance conc350 : Conc Tryz.prog 350 := ⟨⟨_, Tryz.underlying350, rfl⟩⟩
instance flat350 : Flat Tryz.prog 350 := ⟨⟨_, Tryz.underlying350, rfl⟩⟩
instance siz350 : Siz Tryz.prog 350 1 := ⟨Tryz.sizeOf350⟩
instance uslice351 : USlice Tryz.prog 351 83 := ⟨Tryz.underlying351⟩
instance conc351 : Conc Tryz.prog 351 := ⟨⟨_, Tryz.underlying351, rfl⟩⟩
instance flat351 : Flat Tryz.prog 351 := ⟨⟨_, Tryz.underlying351, rfl⟩⟩
instance siz351 : Siz Tryz.prog 351 1 := ⟨Tryz.sizeOf351⟩
instance conc353 : Conc Tryz.prog 353 := ⟨⟨_, Tryz.underlying353, rfl⟩⟩
instance aggr353 : Aggr Tryz.prog 353 := ⟨⟨_, Tryz.underlying353, rfl⟩⟩
instance siz353 : Siz Tryz.prog 353 5 := ⟨Tryz.sizeOf353⟩
instance uptr359 : UPtr Tryz.prog 359 361 := ⟨Tryz.underlying359⟩
instance conc359 : Conc Tryz.prog 359 := ⟨⟨_, Tryz.underlying359, rfl⟩⟩
instance flat359 : Flat Tryz.prog 359 := ⟨⟨_, Tryz.underlying359, rfl⟩⟩
instance siz359 : Siz Tryz.prog 359 1 := ⟨Tryz.sizeOf359⟩
instance conc361 : Conc Tryz.prog 361 := ⟨⟨_, Tryz.underlying361, rfl⟩⟩
instance aggr361 : Aggr Tryz.prog 361 := ⟨⟨_, Tryz.underlying361, rfl⟩⟩
instance siz361 : Siz Tryz.prog 361 3 := ⟨Tryz.sizeOf361⟩
instance conc363 : Conc Tryz.prog 363 := ⟨⟨_, Tryz.underlying363, rfl⟩⟩
instance aggr363 : Aggr Tryz.prog 363 := ⟨⟨_, Tryz.underlying363, rfl⟩⟩
instance siz363 : Siz Tryz.prog 363 5 := ⟨Tryz.sizeOf363⟩
instance uptr364 : UPtr Tryz.prog 364 366 := ⟨Tryz.underlying364⟩
instance conc364 : Conc Tryz.prog 364 := ⟨⟨_, Tryz.underlying364, rfl⟩⟩
instance flat364 : Flat Tryz.prog 364 := ⟨⟨_, Tryz.underlying364, rfl⟩⟩
instance siz364 : Siz Tryz.prog 364 1 := ⟨Tryz.sizeOf364⟩
instance conc366 : Conc Tryz.prog 366 := ⟨⟨_, Tryz.underlying366, rfl⟩⟩
instance aggr366 : Aggr Tryz.prog 366 := ⟨⟨_, Tryz.underlying366, rfl⟩⟩
instance siz366 : Siz Tryz.prog 366 3 := ⟨Tryz.sizeOf366⟩
instance zer3 : Zer Tryz.prog 3 (Go.Value.int Go.IntKind.i64 0) := ⟨Tryz.zeroValue3⟩
instance zer5 : Zer Tryz.prog 5 (Go.Value.int Go.IntKind.u8 0) := ⟨Tryz.zeroValue5⟩
instance zer9 : Zer Tryz.prog 9 (Go.Value.string ⟨([] : List UInt8).toArray⟩) := ⟨Tryz.zeroValue9⟩
instance zer26 : Zer Tryz.prog 26 (.agg ([(Go.Value.bool Bool.false), (Go.Value.bool Bool.false), (Go.Value.bool Bool.false), (Go.Value.bool Bool.false), (Go.Value.bool Bool.false), (Go.Value.bool Bool.false), (Go.Value.bool Bool.false), (Go.Value.bool Bool.false), (Go.Value.bool Bool.false), (Go.Value.bool Bool.false)] : List Value).toArray) := ⟨Tryz.zeroValue26⟩
instance zer31 : Zer Tryz.prog 31 (Go.Value.slice (Option.none) 0 0) := ⟨Tryz.zeroValue31⟩
instance zer42 : Zer Tryz.prog 42 (Go.Value.pointer (Option.none)) := ⟨Tryz.zeroValue42⟩
instance zer52 : Zer Tryz.prog 52 (.agg ([(Go.Value.pointer (Option.none)), (Go.Value.slice (Option.none) 0 0)] : List Value).toArray) := ⟨Tryz.zeroValue52⟩
instance zer61 : Zer Tryz.prog 61 Go.Value.nilIface := ⟨Tryz.zeroValue61⟩
instance zer65 : Zer Tryz.prog 65 (.agg ([(Go.Value.slice (Option.none) 0 0), (Go.Value.int Go.IntKind.i64 0), (Go.Value.int Go.IntKind.i8 0)] : List Value).toArray) := ⟨Tryz.zeroValue65⟩
instance zer69 : Zer Tryz.prog 69 (.agg ([(Go.Value.bool Bool.false), (Go.Value.bool Bool.false), (Go.Value.bool Bool.false), (Go.Value.bool Bool.false), (Go.Value.bool Bool.false), (Go.Value.bool Bool.false), (Go.Value.bool Bool.false), (Go.Value.bool Bool.false), (Go.Value.bool Bool.false), (Go.Value.bool Bool.false)] : List Value).toArray) := ⟨Tryz.zeroValue69⟩
instance zer83 : Zer Tryz.prog 83 (Go.Value.slice (Option.none) 0 0) := ⟨Tryz.zeroValue83⟩
instance zer93 : Zer Tryz.prog 93 (.agg ([] : List Value).toArray) := ⟨Tryz.zeroValue93⟩
instance zer97 : Zer Tryz.prog 97 (.agg ([(Go.Value.int Go.IntKind.i64 0), (Go.Value.int Go.IntKind.i64 0), (Go.Value.int Go.IntKind.i64 0), (Go.Value.string ⟨([] : List UInt8).toArray⟩), (Go.Value.int Go.IntKind.u8 0)] : List Value).toArray) := ⟨Tryz.zeroValue97⟩
instance zer98 : Zer Tryz.prog 98 (Go.Value.pointer (Option.none)) := ⟨Tryz.zeroValue98⟩
instance zer101 : Zer Tryz.prog 101 (.agg ([(Go.Value.int Go.IntKind.i64 0), (Go.Value.int Go.IntKind.i64 0)] : List Value).toArray) := ⟨Tryz.zeroValue101⟩
instance zer103 : Zer Tryz.prog 103 (.agg ([(Go.Value.int Go.IntKind.i64 0), (Go.Value.int Go.IntKind.i64 0), (Go.Value.slice (Option.none) 0 0), (Go.Value.string ⟨([] : List UInt8).toArray⟩)] : List Value).toArray) := ⟨Tryz.zeroValue103⟩
instance zer104 : Zer Tryz.prog 104 (Go.Value.pointer (Option.none)) := ⟨Tryz.zeroValue104⟩
instance zer109 : Zer Tryz.prog 109 (Go.Value.pointer (Option.none)) := ⟨Tryz.zeroValue109⟩
instance zer114 : Zer Tryz.prog 114 (.agg ([Go.Value.nilIface, (Go.Value.slice (Option.none) 0 0), (Go.Value.int Go.IntKind.i64 0), (Go.Value.int Go.IntKind.i64 0)] : List Value).toArray) := ⟨Tryz.zeroValue114⟩
instance zer117 : Zer Tryz.prog 117 Go.Value.nilFunc := ⟨Tryz.zeroValue117⟩
instance zer125 : Zer Tryz.prog 125 Go.Value.nilIface := ⟨Tryz.zeroValue125⟩
instance zer127 : Zer Tryz.prog 127 (Go.Value.pointer (Option.none)) := ⟨Tryz.zeroValue127⟩
instance zer130 : Zer Tryz.prog 130 (.agg ([(Go.Value.string ⟨([] : List UInt8).toArray⟩)] : List Value).toArray) := ⟨Tryz.zeroValue130⟩
instance zer132 : Zer Tryz.prog 132 (.agg ([(Go.Value.string ⟨([] : List UInt8).toArray⟩), (Go.Value.int Go.IntKind.i64 0)] : List Value).toArray) := ⟨Tryz.zeroValue132⟩
instance zer137 : Zer Tryz.prog 137 (.agg ([(Go.Value.slice (Option.none) 0 0), (Go.Value.string ⟨([] : List UInt8).toArray⟩), (Go.Value.string ⟨([] : List UInt8).toArray⟩), (Go.Value.int Go.IntKind.u8 0), (Go.Value.bool Bool.false)] : List Value).toArray) := ⟨Tryz.zeroValue137⟩
instance zer142 : Zer Tryz.prog 142 (.agg ([(Go.Value.int Go.IntKind.i64 0), (Go.Value.int Go.IntKind.i64 0), (Go.Value.int Go.IntKind.i32 0), (Go.Value.int Go.IntKind.i64 0), (Go.Value.bool Bool.false), (Go.Value.slice (Option.none) 0 0)] : List Value).toArray) := ⟨Tryz.zeroValue142⟩
instance zer143 : Zer Tryz.prog 143 (Go.Value.pointer (Option.none)) := ⟨Tryz.zeroValue143⟩
instance zer145 : Zer Tryz.prog 145 (.agg ([(Go.Value.int Go.IntKind.i64 0), (Go.Value.int Go.IntKind.i64 0), (Go.Value.slice (Option.none) 0 0), (Go.Value.int Go.IntKind.i64 0)] : List Value).toArray) := ⟨Tryz.zeroValue145⟩
instance zer146 : Zer Tryz.prog 146 (Go.Value.pointer (Option.none)) := ⟨Tryz.zeroValue146⟩
instance zer148 : Zer Tryz.prog 148 (.agg ([(Go.Value.int Go.IntKind.i64 0), (Go.Value.int Go.IntKind.i64 0), (Go.Value.pointer (Option.none))] : List Value).toArray) := ⟨Tryz.zeroValue148⟩
instance zer149 : Zer Tryz.prog 149 (Go.Value.pointer (Option.none)) := ⟨Tryz.zeroValue149⟩
instance zer153 : Zer Tryz.prog 153 (.agg ([(Go.Value.bool Bool.false)] : List Value).toArray) := ⟨Tryz.zeroValue153⟩
instance zer155 : Zer Tryz.prog 155 (Go.Value.pointer (Option.none)) := ⟨Tryz.zeroValue155⟩
instance zer159 : Zer Tryz.prog 159 (.agg ([(Go.Value.slice (Option.none) 0 0), (Go.Value.pointer (Option.none))] : List Value).toArray) := ⟨Tryz.zeroValue159⟩
instance zer161 : Zer Tryz.prog 161 (Go.Value.string ⟨([] : List UInt8).toArray⟩) := ⟨Tryz.zeroValue161⟩
instance zer164 : Zer Tryz.prog 164 (.agg ([(Go.Value.string ⟨([] : List UInt8).toArray⟩), (Go.Value.string ⟨([] : List UInt8).toArray⟩), (Go.Value.slice (Option.none) 0 0)] : List Value).toArray) := ⟨Tryz.zeroValue164⟩
instance zer171 : Zer Tryz.prog 171 (.agg ([(Go.Value.string ⟨([] : List UInt8).toArray⟩)] : List Value).toArray) := ⟨Tryz.zeroValue171⟩
instance zer173 : Zer Tryz.prog 173 (.agg ([] : List Value).toArray) := ⟨Tryz.zeroValue173⟩
instance zer176 : Zer Tryz.prog 176 (.agg ([(Go.Value.string ⟨([] : List UInt8).toArray⟩)] : List Value).toArray) := ⟨Tryz.zeroValue176⟩
instance zer183 : Zer Tryz.prog 183 (Go.Value.pointer (Option.none)) := ⟨Tryz.zeroValue183⟩
instance zer185 : Zer Tryz.prog 185 (.agg ([(Go.Value.string ⟨([] : List UInt8).toArray⟩), (Go.Value.bool Bool.false), (Go.Value.bool Bool.false), (Go.Value.int Go.IntKind.i64 0), (Go.Value.int Go.IntKind.i64 0)] : List Value).toArray) := ⟨Tryz.zeroValue185⟩
instance zer187 : Zer Tryz.prog 187 (.agg ([] : List Value).toArray) := ⟨Tryz.zeroValue187⟩
instance zer194 : Zer Tryz.prog 194 (.agg ([(Go.Value.string ⟨([] : List UInt8).toArray⟩), (Go.Value.string ⟨([] : List UInt8).toArray⟩)] : List Value).toArray) := ⟨Tryz.zeroValue194⟩
instance zer203 : Zer Tryz.prog 203 (.agg ([(Go.Value.slice (Option.none) 0 0), (Go.Value.slice (Option.none) 0 0), (Go.Value.slice (Option.none) 0 0), (Go.Value.slice (Option.none) 0 0), (Go.Value.slice (Option.none) 0 0)] : List Value).toArray) := ⟨Tryz.zeroValue203⟩
instance zer207 : Zer Tryz.prog 207 (Go.Value.pointer (Option.none)) := ⟨Tryz.zeroValue207⟩
instance zer209 : Zer Tryz.prog 209 (.agg ([(Go.Value.string ⟨([] : List UInt8).toArray⟩), (Go.Value.slice (Option.none) 0 0)] : List Value).toArray) := ⟨Tryz.zeroValue209⟩
instance zer210 : Zer Tryz.prog 210 (Go.Value.pointer (Option.none)) := ⟨Tryz.zeroValue210⟩
instance zer211 : Zer Tryz.prog 211 (Go.Value.pointer (Option.none)) := ⟨Tryz.zeroValue211⟩
instance zer218 : Zer Tryz.prog 218 (.agg ([] : List Value).toArray) := ⟨Tryz.zeroValue218⟩
instance zer228 : Zer Tryz.prog 228 (.agg ([(Go.Value.int Go.IntKind.i64 0), (Go.Value.int Go.IntKind.i64 0), (Go.Value.int Go.IntKind.i64 0), (Go.Value.pointer (Option.none)), (Go.Value.string ⟨([] : List UInt8).toArray⟩)] : List Value).toArray) := ⟨Tryz.zeroValue228⟩
instance zer232 : Zer Tryz.prog 232 (Go.Value.pointer (Option.none)) := ⟨Tryz.zeroValue232⟩
instance zer234 : Zer Tryz.prog 234 (.agg ([(Go.Value.int Go.IntKind.i64 0), (Go.Value.int Go.IntKind.i64 0), (Go.Value.string ⟨([] : List UInt8).toArray⟩)] : List Value).toArray) := ⟨Tryz.zeroValue234⟩
instance zer235 : Zer Tryz.prog 235 (Go.Value.pointer (Option.none)) := ⟨Tryz.zeroValue235⟩
instance zer237 : Zer Tryz.prog 237 (Go.Value.pointer (Option.none)) := ⟨Tryz.zeroValue237⟩
instance zer240 : Zer Tryz.prog 240 (.agg ([(Go.Value.int Go.IntKind.i32 0), (Go.Value.int Go.IntKind.i64 0), (Go.Value.bool Bool.false), (Go.Value.pointer (Option.none)), Go.Value.nilFunc] : List Value).toArray) := ⟨Tryz.zeroValue240⟩
instance zer246 : Zer Tryz.prog 246 (.agg ([(Go.Value.string ⟨([] : List UInt8).toArray⟩), (Go.Value.string ⟨([] : List UInt8).toArray⟩), (Go.Value.int Go.IntKind.i64 0), (Go.Value.slice (Option.none) 0 0)] : List Value).toArray) := ⟨Tryz.zeroValue246⟩
instance zer250 : Zer Tryz.prog 250 (.agg ([(Go.Value.string ⟨([] : List UInt8).toArray⟩), (Go.Value.slice (Option.none) 0 0)] : List Value).toArray) := ⟨Tryz.zeroValue250⟩
instance zer254 : Zer Tryz.prog 254 (Go.Value.pointer (Option.none)) := ⟨Tryz.zeroValue254⟩
instance zer257 : Zer Tryz.prog 257 (.agg ([(Go.Value.string ⟨([] : List UInt8).toArray⟩), (Go.Value.string ⟨([] : List UInt8).toArray⟩)] : List Value).toArray) := ⟨Tryz.zeroValue257⟩
instance zer261 : Zer Tryz.prog 261 (.agg ([(Go.Value.string ⟨([] : List UInt8).toArray⟩), (Go.Value.string ⟨([] : List UInt8).toArray⟩)] : List Value).toArray) := ⟨Tryz.zeroValue261⟩
instance zer262 : Zer Tryz.prog 262 (.agg ([(Go.Value.string ⟨([] : List UInt8).toArray⟩), (Go.Value.string ⟨([] : List UInt8).toArray⟩), (Go.Value.string ⟨([] : List UInt8).toArray⟩), (Go.Value.string ⟨([] : List UInt8).toArray⟩), (Go.Value.string ⟨([] : List UInt8).toArray⟩), (Go.Value.string ⟨([] : List UInt8).toArray⟩), (Go.Value.string ⟨([] : List UInt8).toArray⟩), (Go.Value.string ⟨([] : List UInt8).toArray⟩), (Go.Value.string ⟨([] : List UInt8).toArray⟩), (Go.Value.string ⟨([] : List UInt8).toArray⟩), (Go.Value.string ⟨([] : List UInt8).toArray⟩), (Go.Value.string ⟨([] : List UInt8).toArray⟩), (Go.Value.string ⟨([] : List UInt8).toArray⟩), (Go.Value.string ⟨([] : List UInt8).toArray⟩), (Go.Value.string ⟨([] : List UInt8).toArray⟩), (Go.Value.string ⟨([] : List UInt8).toArray⟩), (Go.Value.string ⟨([] : List UInt8).toArray⟩), (Go.Value.string ⟨([] : List UInt8).toArray⟩), (Go.Value.string ⟨([] : List UInt8).toArray⟩), (Go.Value.string ⟨([] : List UInt8).toArray⟩), (Go.Value.string ⟨([] : List UInt8).toArray⟩), (Go.Value.string ⟨([] : List UInt8).toArray⟩), (Go.Value.string ⟨([] : List UInt8).toArray⟩), (Go.Value.string ⟨([] : List UInt8).toArray⟩)] : List Value).toArray) := ⟨Tryz.zeroValue262⟩
instance zer263 : Zer Tryz.prog 263 (.agg ([] : List Value).toArray) := ⟨Tryz.zeroValue263⟩
instance zer267 : Zer Tryz.prog 267 (.agg ([(Go.Value.string ⟨([] : List UInt8).toArray⟩), (Go.Value.int Go.IntKind.i64 0)] : List Value).toArray) := ⟨Tryz.zeroValue267⟩
instance zer274 : Zer Tryz.prog 274 (.agg ([(Go.Value.pointer (Option.none)), (Go.Value.int Go.IntKind.i64 0), (Go.Value.bool Bool.false)] : List Value).toArray) := ⟨Tryz.zeroValue274⟩
instance zer277 : Zer Tryz.prog 277 (.agg ([(Go.Value.bool Bool.false), (Go.Value.slice (Option.none) 0 0), Go.Value.nilFunc] : List Value).toArray) := ⟨Tryz.zeroValue277⟩
instance zer279 : Zer Tryz.prog 279 (Go.Value.pointer (Option.none)) := ⟨Tryz.zeroValue279⟩
instance zer280 : Zer Tryz.prog 280 (.agg ([(Go.Value.string ⟨([] : List UInt8).toArray⟩)] : List Value).toArray) := ⟨Tryz.zeroValue280⟩
instance zer284 : Zer Tryz.prog 284 (.agg ([(Go.Value.int Go.IntKind.u8 0), (Go.Value.int Go.IntKind.u8 0)] : List Value).toArray) := ⟨Tryz.zeroValue284⟩
instance zer285 : Zer Tryz.prog 285 (.agg ([(Go.Value.int Go.IntKind.u8 0), (Go.Value.int Go.IntKind.u8 0), (Go.Value.int Go.IntKind.u8 0), (Go.Value.int Go.IntKind.u8 0), (Go.Value.int Go.IntKind.u8 0), (Go.Value.int Go.IntKind.u8 0), (Go.Value.int Go.IntKind.u8 0), (Go.Value.int Go.IntKind.u8 0), (Go.Value.int Go.IntKind.u8 0), (Go.Value.int Go.IntKind.u8 0), (Go.Value.int Go.IntKind.u8 0), (Go.Value.int Go.IntKind.u8 0), (Go.Value.int Go.IntKind.u8 0), (Go.Value.int Go.IntKind.u8 0), (Go.Value.int Go.IntKind.u8 0), (Go.Value.int Go.IntKind.u8 0), (Go.Value.int Go.IntKind.u8 0), (Go.Value.int Go.IntKind.u8 0), (Go.Value.int Go.IntKind.u8 0), (Go.Value.int Go.IntKind.u8 0), (Go.Value.int Go.IntKind.u8 0), (Go.Value.int Go.IntKind.u8 0), (Go.Value.int Go.IntKind.u8 0), (Go.Value.int Go.IntKind.u8 0), (Go.Value.int Go.IntKind.u8 0), (Go.Value.int Go.IntKind.u8 0), (Go.Value.int Go.IntKind.u8 0), (Go.Value.int Go.IntKind.u8 0), (Go.Value.int Go.IntKind.u8 0), (Go.Value.int Go.IntKind.u8 0), (Go.Value.int Go.IntKind.u8 0), (Go.Value.int Go.IntKind.u8 0)] : List Value).toArray) := ⟨Tryz.zeroValue285⟩
instance zer286 : Zer Tryz.prog 286 (.agg ([(Go.Value.int Go.IntKind.i32 0), (Go.Value.int Go.IntKind.i32 0), (Go.Value.int Go.IntKind.i32 0)] : List Value).toArray) := ⟨Tryz.zeroValue286⟩
instance zer298 : Zer Tryz.prog 298 (.agg ([(Go.Value.string ⟨([] : List UInt8).toArray⟩), (Go.Value.string ⟨([] : List UInt8).toArray⟩), Go.Value.nilIface] : List Value).toArray) := ⟨Tryz.zeroValue298⟩
instance zer304 : Zer Tryz.prog 304 (.agg ([(Go.Value.string ⟨([] : List UInt8).toArray⟩)] : List Value).toArray) := ⟨Tryz.zeroValue304⟩
instance zer306 : Zer Tryz.prog 306 (.agg ([(Go.Value.int Go.IntKind.u8 0), (Go.Value.int Go.IntKind.u8 0), (Go.Value.int Go.IntKind.u8 0), (Go.Value.int Go.IntKind.u8 0), (Go.Value.int Go.IntKind.u8 0), (Go.Value.int Go.IntKind.u8 0), (Go.Value.int Go.IntKind.u8 0), (Go.Value.int Go.IntKind.u8 0), (Go.Value.int Go.IntKind.u8 0), (Go.Value.int Go.IntKind.u8 0), (Go.Value.int Go.IntKind.u8 0), (Go.Value.int Go.IntKind.u8 0), (Go.Value.int Go.IntKind.u8 0), (Go.Value.int Go.IntKind.u8 0), (Go.Value.int Go.IntKind.u8 0), (Go.Value.int Go.IntKind.u8 0), (Go.Value.int Go.IntKind.u8 0), (Go.Value.int Go.IntKind.u8 0), (Go.Value.int Go.IntKind.u8 0), (Go.Value.int Go.IntKind.u8 0), (Go.Value.int Go.IntKind.u8 0), (Go.Value.int Go.IntKind.u8 0), (Go.Value.int Go.IntKind.u8 0), (Go.Value.int Go.IntKind.u8 0)] : List Value).toArray) := ⟨Tryz.zeroValue306⟩
instance zer313 : Zer Tryz.prog 313 (.agg ([(Go.Value.int Go.IntKind.u64 0), (Go.Value.int Go.IntKind.u64 0), (Go.Value.int Go.IntKind.u64 0), (Go.Value.int Go.IntKind.u64 0), (Go.Value.int Go.IntKind.u64 0), (Go.Value.int Go.IntKind.u64 0), (Go.Value.int Go.IntKind.u64 0), (Go.Value.int Go.IntKind.u64 0), (Go.Value.int Go.IntKind.u64 0), (Go.Value.int Go.IntKind.u64 0), (Go.Value.int Go.IntKind.u64 0), (Go.Value.int Go.IntKind.u64 0), (Go.Value.int Go.IntKind.u64 0), (Go.Value.int Go.IntKind.u64 0), (Go.Value.int Go.IntKind.u64 0), (Go.Value.int Go.IntKind.u64 0), (Go.Value.int Go.IntKind.u64 0), (Go.Value.int Go.IntKind.u64 0), (Go.Value.int Go.IntKind.u64 0), (Go.Value.int Go.IntKind.u64 0)] : List Value).toArray) := ⟨Tryz.zeroValue313⟩
instance zer318 : Zer Tryz.prog 318 (.agg ([(Go.Value.int Go.IntKind.u8 0), (Go.Value.int Go.IntKind.u8 0), (Go.Value.int Go.IntKind.u8 0), (Go.Value.int Go.IntKind.u8 0), (Go.Value.int Go.IntKind.u8 0), (Go.Value.int Go.IntKind.u8 0), (Go.Value.int Go.IntKind.u8 0), (Go.Value.int Go.IntKind.u8 0), (Go.Value.int Go.IntKind.u8 0), (Go.Value.int Go.IntKind.u8 0), (Go.Value.int Go.IntKind.u8 0), (Go.Value.int Go.IntKind.u8 0), (Go.Value.int Go.IntKind.u8 0), (Go.Value.int Go.IntKind.u8 0), (Go.Value.int Go.IntKind.u8 0), (Go.Value.int Go.IntKind.u8 0), (Go.Value.int Go.IntKind.u8 0), (Go.Value.int Go.IntKind.u8 0), (Go.Value.int Go.IntKind.u8 0), (Go.Value.int Go.IntKind.u8 0), (Go.Value.int Go.IntKind.u8 0), (Go.Value.int Go.IntKind.u8 0), (Go.Value.int Go.IntKind.u8 0), (Go.Value.int Go.IntKind.u8 0), (Go.Value.int Go.IntKind.u8 0), (Go.Value.int Go.IntKind.u8 0), (Go.Value.int Go.IntKind.u8 0), (Go.Value.int Go.IntKind.u8 0), (Go.Value.int Go.IntKind.u8 0), (Go.Value.int Go.IntKind.u8 0), (Go.Value.int Go.IntKind.u8 0), (Go.Value.int Go.IntKind.u8 0)] : List Value).toArray) := ⟨Tryz.zeroValue318⟩
instance zer319 : Zer Tryz.prog 319 (.agg ([(Go.Value.int Go.IntKind.u8 0), (Go.Value.int Go.IntKind.u8 0), (Go.Value.int Go.IntKind.u8 0), (Go.Value.int Go.IntKind.u8 0), (Go.Value.int Go.IntKind.u8 0), (Go.Value.int Go.IntKind.u8 0), (Go.Value.int Go.IntKind.u8 0), (Go.Value.int Go.IntKind.u8 0), (Go.Value.int Go.IntKind.u8 0), (Go.Value.int Go.IntKind.u8 0), (Go.Value.int Go.IntKind.u8 0), (Go.Value.int Go.IntKind.u8 0), (Go.Value.int Go.IntKind.u8 0), (Go.Value.int Go.IntKind.u8 0), (Go.Value.int Go.IntKind.u8 0), (Go.Value.int Go.IntKind.u8 0), (Go.Value.int Go.IntKind.u8 0), (Go.Value.int Go.IntKind.u8 0), (Go.Value.int Go.IntKind.u8 0), (Go.Value.int Go.IntKind.u8 0), (Go.Value.int Go.IntKind.u8 0), (Go.Value.int Go.IntKind.u8 0), (Go.Value.int Go.IntKind.u8 0), (Go.Value.int Go.IntKind.u8 0), (Go.Value.int Go.IntKind.u8 0), (Go.Value.int Go.IntKind.u8 0), (Go.Value.int Go.IntKind.u8 0), (Go.Value.int Go.IntKind.u8 0), (Go.Value.int Go.IntKind.u8 0), (Go.Value.int Go.IntKind.u8 0), (Go.Value.int Go.IntKind.u8 0), (Go.Value.int Go.IntKind.u8 0), (Go.Value.int Go.IntKind.u8 0), (Go.Value.int Go.IntKind.u8 0), (Go.Value.int Go.IntKind.u8 0), (Go.Value.int Go.IntKind.u8 0), (Go.Value.int Go.IntKind.u8 0), (Go.Value.int Go.IntKind.u8 0), (Go.Value.int Go.IntKind.u8 0), (Go.Value.int Go.IntKind.u8 0), (Go.Value.int Go.IntKind.u8 0), (Go.Value.int Go.IntKind.u8 0), (Go.Value.int Go.IntKind.u8 0), (Go.Value.int Go.IntKind.u8 0), (Go.Value.int Go.IntKind.u8 0), (Go.Value.int Go.IntKind.u8 0), (Go.Value.int Go.IntKind.u8 0), (Go.Value.int Go.IntKind.u8 0), (Go.Value.int Go.IntKind.u8 0), (Go.Value.int Go.IntKind.u8 0), (Go.Value.int Go.IntKind.u8 0), (Go.Value.int Go.IntKind.u8 0), (Go.Value.int Go.IntKind.u8 0), (Go.Value.int Go.IntKind.u8 0), (Go.Value.int Go.IntKind.u8 0), (Go.Value.int Go.IntKind.u8 0), (Go.Value.int Go.IntKind.u8 0), (Go.Value.int Go.IntKind.u8 0), (Go.Value.int Go.IntKind.u8 0), (Go.Value.int Go.IntKind.u8 0), (Go.Value.int Go.IntKind.u8 0), (Go.Value.int Go.IntKind.u8 0), (Go.Value.int Go.IntKind.u8 0), (Go.Value.int Go.IntKind.u8 0)] : List Value).toArray) := ⟨Tryz.zeroValue319⟩
instance zer333 : Zer Tryz.prog 333 (.agg ([(Go.Value.int Go.IntKind.i64 0), (Go.Value.int Go.IntKind.i64 0), (Go.Value.slice (Option.none) 0 0), (Go.Value.map (Option.none))] : List Value).toArray) := ⟨Tryz.zeroValue333⟩
instance zer349 : Zer Tryz.prog 349 (.agg ([(Go.Value.int Go.IntKind.i64 0), (Go.Value.int Go.IntKind.i64 0)] : List Value).toArray) := ⟨Tryz.zeroValue349⟩
instance zer353 : Zer Tryz.prog 353 (.agg ([(Go.Value.int Go.IntKind.i64 0), (Go.Value.int Go.IntKind.i64 0), (Go.Value.slice (Option.none) 0 0), (Go.Value.slice (Option.none) 0 0), (Go.Value.slice (Option.none) 0 0)] : List Value).toArray) := ⟨Tryz.zeroValue353⟩
instance zer361 : Zer Tryz.prog 361 (.agg ([(Go.Value.int Go.IntKind.i64 0), (Go.Value.int Go.IntKind.i64 0), (Go.Value.slice (Option.none) 0 0)] : List Value).toArray) := ⟨Tryz.zeroValue361⟩
instance zer363 : Zer Tryz.prog 363 (.agg ([(Go.Value.int Go.IntKind.i64 0), (Go.Value.int Go.IntKind.i64 0), (Go.Value.string ⟨([] : List UInt8).toArray⟩), (Go.Value.string ⟨([] : List UInt8).toArray⟩), (Go.Value.slice (Option.none) 0 0)] : List Value).toArray) := ⟨Tryz.zeroValue363⟩
instance zer366 : Zer Tryz.prog 366 (.agg ([(Go.Value.int Go.IntKind.i64 0), (Go.Value.int Go.IntKind.i64 0), (Go.Value.slice (Option.none) 0 0)] : List Value).toArray) := ⟨Tryz.zeroValue366⟩
instance pla26 : Places Tryz.prog 26 [(0, 1), (1, 1), (2, 1), (3, 1), (4, 1), (5, 1), (6, 1), (7, 1), (8, 1), (9, 1)] := ⟨⟨_, Tryz.underlying26, fun w => by kernel_rfl⟩⟩
instance pla69 : Places Tryz.prog 69 [(0, 1), (1, 1), (2, 1), (3, 1), (4, 1), (5, 1), (6, 1), (7, 1), (8, 1), (9, 1)] := ⟨⟨_, Tryz.underlying69, fun w => by kernel_rfl⟩⟩
instance pla86 : Places Tryz.prog 86 [(0, 80), (80, 1)] := ⟨⟨_, Tryz.underlying86, fun w => by kernel_rfl⟩⟩
instance pla93 : Places Tryz.prog 93 [] := ⟨⟨_, Tryz.underlying93, fun w => by kernel_rfl⟩⟩
instance pla97 : Places Tryz.prog 97 [(0, 1), (1, 1), (2, 1), (3, 1), (4, 1)] := ⟨⟨_, Tryz.underlying97, fun w => by kernel_rfl⟩⟩
instance pla101 : Places Tryz.prog 101 [(0, 1), (1, 1)] := ⟨⟨_, Tryz.underlying101, fun w => by kernel_rfl⟩⟩
instance pla103 : Places Tryz.prog 103 [(0, 2), (2, 1), (3, 1)] := ⟨⟨_, Tryz.underlying103, fun w => by kernel_rfl⟩⟩
instance pla114 : Places Tryz.prog 114 [(0, 1), (1, 1), (2, 2)] := ⟨⟨_, Tryz.underlying114, fun w => by kernel_rfl⟩⟩
instance pla130 : Places Tryz.prog 130 [(0, 1)] := ⟨⟨_, Tryz.underlying130, fun w => by kernel_rfl⟩⟩
instance pla132 : Places Tryz.prog 132 [(0, 1), (1, 1)] := ⟨⟨_, Tryz.underlying132, fun w => by kernel_rfl⟩⟩
instance pla137 : Places Tryz.prog 137 [(0, 1), (1, 1), (2, 1), (3, 1), (4, 1)] := ⟨⟨_, Tryz.underlying137, fun w => by kernel_rfl⟩⟩
instance pla142 : Places Tryz.prog 142 [(0, 2), (2, 1), (3, 1), (4, 1), (5, 1)] := ⟨⟨_, Tryz.underlying142, fun w => by kernel_rfl⟩⟩
instance pla145 : Places Tryz.prog 145 [(0, 2), (2, 1), (3, 1)] := ⟨⟨_, Tryz.underlying145, fun w => by kernel_rfl⟩⟩
instance pla148 : Places Tryz.prog 148 [(0, 2), (2, 1)] := ⟨⟨_, Tryz.underlying148, fun w => by kernel_rfl⟩⟩
instance pla153 : Places Tryz.prog 153 [(0, 1)] := ⟨⟨_, Tryz.underlying153, fun w => by kernel_rfl⟩⟩
instance pla171 : Places Tryz.prog 171 [(0, 1)] := ⟨⟨_, Tryz.underlying171, fun w => by kernel_rfl⟩⟩
instance pla173 : Places Tryz.prog 173 [] := ⟨⟨_, Tryz.underlying173, fun w => by kernel_rfl⟩⟩
instance pla176 : Places Tryz.prog 176 [(0, 1)] := ⟨⟨_, Tryz.underlying176, fun w => by kernel_rfl⟩⟩
instance pla185 : Places Tryz.prog 185 [(0, 1), (1, 1), (2, 1), (3, 1), (4, 1)] := ⟨⟨_, Tryz.underlying185, fun w => by kernel_rfl⟩⟩
instance pla187 : Places Tryz.prog 187 [] := ⟨⟨_, Tryz.underlying187, fun w => by kernel_rfl⟩⟩
instance pla194 : Places Tryz.prog 194 [(0, 1), (1, 1)] := ⟨⟨_, Tryz.underlying194, fun w => by kernel_rfl⟩⟩
instance pla209 : Places Tryz.prog 209 [(0, 1), (1, 1)] := ⟨⟨_, Tryz.underlying209, fun w => by kernel_rfl⟩⟩
instance pla228 : Places Tryz.prog 228 [(0, 2), (2, 1), (3, 1), (4, 1)] := ⟨⟨_, Tryz.underlying228, fun w => by kernel_rfl⟩⟩
instance pla234 : Places Tryz.prog 234 [(0, 2), (2, 1)] := ⟨⟨_, Tryz.underlying234, fun w => by kernel_rfl⟩⟩
instance pla240 : Places Tryz.prog 240 [(0, 1), (1, 1), (2, 1), (3, 1), (4, 1)] := ⟨⟨_, Tryz.underlying240, fun w => by kernel_rfl⟩⟩
instance pla246 : Places Tryz.prog 246 [(0, 1), (1, 1), (2, 1), (3, 1)] := ⟨⟨_, Tryz.underlying246, fun w => by kernel_rfl⟩⟩
instance pla250 : Places Tryz.prog 250 [(0, 1), (1, 1)] := ⟨⟨_, Tryz.underlying250, fun w => by kernel_rfl⟩⟩
instance pla257 : Places Tryz.prog 257 [(0, 1), (1, 1)] := ⟨⟨_, Tryz.underlying257, fun w => by kernel_rfl⟩⟩
instance pla263 : Places Tryz.prog 263 [] := ⟨⟨_, Tryz.underlying263, fun w => by kernel_rfl⟩⟩
instance pla267 : Places Tryz.prog 267 [(0, 1), (1, 1)] := ⟨⟨_, Tryz.underlying267, fun w => by kernel_rfl⟩⟩
instance pla274 : Places Tryz.prog 274 [(0, 1), (1, 1), (2, 1)] := ⟨⟨_, Tryz.underlying274, fun w => by kernel_rfl⟩⟩
instance pla277 : Places Tryz.prog 277 [(0, 1), (1, 1), (2, 1)] := ⟨⟨_, Tryz.underlying277, fun w => by kernel_rfl⟩⟩
instance pla280 : Places Tryz.prog 280 [(0, 1)] := ⟨⟨_, Tryz.underlying280, fun w => by kernel_rfl⟩⟩
instance pla284 : Places Tryz.prog 284 [(0, 1), (1, 1)] := ⟨⟨_, Tryz.underlying284, fun w => by kernel_rfl⟩⟩
instance pla298 : Places Tryz.prog 298 [(0, 1), (1, 1), (2, 1)] := ⟨⟨_, Tryz.underlying298, fun w => by kernel_rfl⟩⟩
instance pla304 : Places Tryz.prog 304 [(0, 1)] := ⟨⟨_, Tryz.underlying304, fun w => by kernel_rfl⟩⟩
instance pla333 : Places Tryz.prog 333 [(0, 2), (2, 1), (3, 1)] := ⟨⟨_, Tryz.underlying333, fun w => by kernel_rfl⟩⟩
instance pla349 : Places Tryz.prog 349 [(0, 2)] := ⟨⟨_, Tryz.underlying349, fun w => by kernel_rfl⟩⟩
instance pla353 : Places Tryz.prog 353 [(0, 2), (2, 1), (3, 1), (4, 1)] := ⟨⟨_, Tryz.underlying353, fun w => by kernel_rfl⟩⟩
instance pla361 : Places Tryz.prog 361 [(0, 2), (2, 1)] := ⟨⟨_, Tryz.underlying361, fun w => by kernel_rfl⟩⟩
instance pla363 : Places Tryz.prog 363 [(0, 2), (2, 1), (3, 1), (4, 1)] := ⟨⟨_, Tryz.underlying363, fun w => by kernel_rfl⟩⟩
instance pla366 : Places Tryz.prog 366 [(0, 2), (2, 1)] := ⟨⟨_, Tryz.underlying366, fun w => by kernel_rfl⟩⟩
instance fat26_0 : FAt Tryz.prog 26 0 0 := ⟨FieldAt.mk Tryz.underlying26 rfl rfl Tryz.sizeOf4 rfl⟩
instance fat26_1 : FAt Tryz.prog 26 1 1 := ⟨FieldAt.mk Tryz.underlying26 rfl rfl Tryz.sizeOf4 rfl⟩
instance fat26_2 : FAt Tryz.prog 26 2 2 := ⟨FieldAt.mk Tryz.underlying26 rfl rfl Tryz.sizeOf4 rfl⟩
instance fat26_3 : FAt Tryz.prog 26 3 3 := ⟨FieldAt.mk Tryz.underlying26 rfl rfl Tryz.sizeOf4 rfl⟩
instance fat26_4 : FAt Tryz.prog 26 4 4 := ⟨FieldAt.mk Tryz.underlying26 rfl rfl Tryz.sizeOf4 rfl⟩
instance fat26_5 : FAt Tryz.prog 26 5 5 := ⟨FieldAt.mk Tryz.underlying26 rfl rfl Tryz.sizeOf4 rfl⟩
instance fat26_6 : FAt Tryz.prog 26 6 6 := ⟨FieldAt.mk Tryz.underlying26 rfl rfl Tryz.sizeOf4 rfl⟩
instance fat26_7 : FAt Tryz.prog 26 7 7 := ⟨FieldAt.mk Tryz.underlying26 rfl rfl Tryz.sizeOf4 rfl⟩
instance fat26_8 : FAt Tryz.prog 26 8 8 := ⟨FieldAt.mk Tryz.underlying26 rfl rfl Tryz.sizeOf4 rfl⟩
instance fat26_9 : FAt Tryz.prog 26 9 9 := ⟨FieldAt.mk Tryz.underlying26 rfl rfl Tryz.sizeOf4 rfl⟩
instance fat52_0 : FAt Tryz.prog 52 0 0 := ⟨FieldAt.mk Tryz.underlying52 rfl rfl Tryz.sizeOf50 rfl⟩
instance fat52_1 : FAt Tryz.prog 52 1 1 := ⟨FieldAt.mk Tryz.underlying52 rfl rfl Tryz.sizeOf30 rfl⟩
instance fat65_0 : FAt Tryz.prog 65 0 0 := ⟨FieldAt.mk Tryz.underlying65 rfl rfl Tryz.sizeOf30 rfl⟩
instance fat65_1 : FAt Tryz.prog 65 1 1 := ⟨FieldAt.mk Tryz.underlying65 rfl rfl Tryz.sizeOf3 rfl⟩
instance fat65_2 : FAt Tryz.prog 65 2 2 := ⟨FieldAt.mk Tryz.underlying65 rfl rfl Tryz.sizeOf63 rfl⟩
instance fat69_0 : FAt Tryz.prog 69 0 0 := ⟨FieldAt.mk Tryz.underlying69 rfl rfl Tryz.sizeOf4 rfl⟩
instance fat69_1 : FAt Tryz.prog 69 1 1 := ⟨FieldAt.mk Tryz.underlying69 rfl rfl Tryz.sizeOf4 rfl⟩
instance fat69_2 : FAt Tryz.prog 69 2 2 := ⟨FieldAt.mk Tryz.underlying69 rfl rfl Tryz.sizeOf4 rfl⟩
instance fat69_3 : FAt Tryz.prog 69 3 3 := ⟨FieldAt.mk Tryz.underlying69 rfl rfl Tryz.sizeOf4 rfl⟩
instance fat69_4 : FAt Tryz.prog 69 4 4 := ⟨FieldAt.mk Tryz.underlying69 rfl rfl Tryz.sizeOf4 rfl⟩
instance fat69_5 : FAt Tryz.prog 69 5 5 := ⟨FieldAt.mk Tryz.underlying69 rfl rfl Tryz.sizeOf4 rfl⟩
instance fat69_6 : FAt Tryz.prog 69 6 6 := ⟨FieldAt.mk Tryz.underlying69 rfl rfl Tryz.sizeOf4 rfl⟩
instance fat69_7 : FAt Tryz.prog 69 7 7 := ⟨FieldAt.mk Tryz.underlying69 rfl rfl Tryz.sizeOf4 rfl⟩
instance fat69_8 : FAt Tryz.prog 69 8 8 := ⟨FieldAt.mk Tryz.underlying69 rfl rfl Tryz.sizeOf4 rfl⟩
instance fat69_9 : FAt Tryz.prog 69 9 9 := ⟨FieldAt.mk Tryz.underlying69 rfl rfl Tryz.sizeOf4 rfl⟩
instance fat86_0 : FAt Tryz.prog 86 0 0 := ⟨FieldAt.mk Tryz.underlying86 rfl rfl Tryz.sizeOf84 rfl⟩
instance fat86_1 : FAt Tryz.prog 86 1 80 := ⟨FieldAt.mk Tryz.underlying86 rfl rfl Tryz.sizeOf4 rfl⟩
instance fat88_0 : FAt Tryz.prog 88 0 0 := ⟨FieldAt.mk Tryz.underlying88 rfl rfl Tryz.sizeOf43 rfl⟩
instance fat88_1 : FAt Tryz.prog 88 1 1 := ⟨FieldAt.mk Tryz.underlying88 rfl rfl Tryz.sizeOf42 rfl⟩
instance fat88_2 : FAt Tryz.prog 88 2 2 := ⟨FieldAt.mk Tryz.underlying88 rfl rfl Tryz.sizeOf79 rfl⟩
instance fat88_3 : FAt Tryz.prog 88 3 3 := ⟨FieldAt.mk Tryz.underlying88 rfl rfl Tryz.sizeOf3 rfl⟩
instance fat88_4 : FAt Tryz.prog 88 4 4 := ⟨FieldAt.mk Tryz.underlying88 rfl rfl Tryz.sizeOf80 rfl⟩
instance fat88_5 : FAt Tryz.prog 88 5 5 := ⟨FieldAt.mk Tryz.underlying88 rfl rfl Tryz.sizeOf3 rfl⟩
instance fat88_6 : FAt Tryz.prog 88 6 6 := ⟨FieldAt.mk Tryz.underlying88 rfl rfl Tryz.sizeOf4 rfl⟩
instance fat88_7 : FAt Tryz.prog 88 7 7 := ⟨FieldAt.mk Tryz.underlying88 rfl rfl Tryz.sizeOf9 rfl⟩
instance fat88_8 : FAt Tryz.prog 88 8 8 := ⟨FieldAt.mk Tryz.underlying88 rfl rfl Tryz.sizeOf3 rfl⟩
instance fat88_9 : FAt Tryz.prog 88 9 9 := ⟨FieldAt.mk Tryz.underlying88 rfl rfl Tryz.sizeOf81 rfl⟩
instance fat88_10 : FAt Tryz.prog 88 10 10 := ⟨FieldAt.mk Tryz.underlying88 rfl rfl Tryz.sizeOf82 rfl⟩
instance fat88_11 : FAt Tryz.prog 88 11 11 := ⟨FieldAt.mk Tryz.underlying88 rfl rfl Tryz.sizeOf83 rfl⟩
instance fat88_12 : FAt Tryz.prog 88 12 12 := ⟨FieldAt.mk Tryz.underlying88 rfl rfl Tryz.sizeOf86 rfl⟩
instance fat97_0 : FAt Tryz.prog 97 0 0 := ⟨FieldAt.mk Tryz.underlying97 rfl rfl Tryz.sizeOf3 rfl⟩
instance fat97_1 : FAt Tryz.prog 97 1 1 := ⟨FieldAt.mk Tryz.underlying97 rfl rfl Tryz.sizeOf3 rfl⟩
instance fat97_2 : FAt Tryz.prog 97 2 2 := ⟨FieldAt.mk Tryz.underlying97 rfl rfl Tryz.sizeOf3 rfl⟩
instance fat97_3 : FAt Tryz.prog 97 3 3 := ⟨FieldAt.mk Tryz.underlying97 rfl rfl Tryz.sizeOf9 rfl⟩
instance fat97_4 : FAt Tryz.prog 97 4 4 := ⟨FieldAt.mk Tryz.underlying97 rfl rfl Tryz.sizeOf5 rfl⟩
instance fat101_0 : FAt Tryz.prog 101 0 0 := ⟨FieldAt.mk Tryz.underlying101 rfl rfl Tryz.sizeOf3 rfl⟩
instance fat101_1 : FAt Tryz.prog 101 1 1 := ⟨FieldAt.mk Tryz.underlying101 rfl rfl Tryz.sizeOf3 rfl⟩
instance fat103_1 : FAt Tryz.prog 103 1 2 := ⟨FieldAt.mk Tryz.underlying103 rfl rfl Tryz.sizeOf81 rfl⟩
instance fat103_2 : FAt Tryz.prog 103 2 3 := ⟨FieldAt.mk Tryz.underlying103 rfl rfl Tryz.sizeOf9 rfl⟩
instance fat114_0 : FAt Tryz.prog 114 0 0 := ⟨FieldAt.mk Tryz.underlying114 rfl rfl Tryz.sizeOf111 rfl⟩
instance fat114_1 : FAt Tryz.prog 114 1 1 := ⟨FieldAt.mk Tryz.underlying114 rfl rfl Tryz.sizeOf112 rfl⟩
instance fat114_2 : FAt Tryz.prog 114 2 2 := ⟨FieldAt.mk Tryz.underlying114 rfl rfl Tryz.sizeOf101 rfl⟩
instance fat130_0 : FAt Tryz.prog 130 0 0 := ⟨FieldAt.mk Tryz.underlying130 rfl rfl Tryz.sizeOf9 rfl⟩
instance fat132_0 : FAt Tryz.prog 132 0 0 := ⟨FieldAt.mk Tryz.underlying132 rfl rfl Tryz.sizeOf130 rfl⟩
instance fat132_1 : FAt Tryz.prog 132 1 1 := ⟨FieldAt.mk Tryz.underlying132 rfl rfl Tryz.sizeOf3 rfl⟩
instance fat137_0 : FAt Tryz.prog 137 0 0 := ⟨FieldAt.mk Tryz.underlying137 rfl rfl Tryz.sizeOf81 rfl⟩
instance fat137_1 : FAt Tryz.prog 137 1 1 := ⟨FieldAt.mk Tryz.underlying137 rfl rfl Tryz.sizeOf9 rfl⟩
instance fat137_2 : FAt Tryz.prog 137 2 2 := ⟨FieldAt.mk Tryz.underlying137 rfl rfl Tryz.sizeOf9 rfl⟩
instance fat137_4 : FAt Tryz.prog 137 4 4 := ⟨FieldAt.mk Tryz.underlying137 rfl rfl Tryz.sizeOf4 rfl⟩
instance fat142_1 : FAt Tryz.prog 142 1 2 := ⟨FieldAt.mk Tryz.underlying142 rfl rfl Tryz.sizeOf21 rfl⟩
instance fat142_2 : FAt Tryz.prog 142 2 3 := ⟨FieldAt.mk Tryz.underlying142 rfl rfl Tryz.sizeOf3 rfl⟩
instance fat142_4 : FAt Tryz.prog 142 4 5 := ⟨FieldAt.mk Tryz.underlying142 rfl rfl Tryz.sizeOf112 rfl⟩
instance fat145_0 : FAt Tryz.prog 145 0 0 := ⟨FieldAt.mk Tryz.underlying145 rfl rfl Tryz.sizeOf101 rfl⟩
instance fat145_1 : FAt Tryz.prog 145 1 2 := ⟨FieldAt.mk Tryz.underlying145 rfl rfl Tryz.sizeOf112 rfl⟩
instance fat148_0 : FAt Tryz.prog 148 0 0 := ⟨FieldAt.mk Tryz.underlying148 rfl rfl Tryz.sizeOf101 rfl⟩
instance fat148_1 : FAt Tryz.prog 148 1 2 := ⟨FieldAt.mk Tryz.underlying148 rfl rfl Tryz.sizeOf98 rfl⟩
instance fat153_0 : FAt Tryz.prog 153 0 0 := ⟨FieldAt.mk Tryz.underlying153 rfl rfl Tryz.sizeOf4 rfl⟩
instance fat159_0 : FAt Tryz.prog 159 0 0 := ⟨FieldAt.mk Tryz.underlying159 rfl rfl Tryz.sizeOf31 rfl⟩
instance fat159_1 : FAt Tryz.prog 159 1 1 := ⟨FieldAt.mk Tryz.underlying159 rfl rfl Tryz.sizeOf157 rfl⟩
instance fat164_0 : FAt Tryz.prog 164 0 0 := ⟨FieldAt.mk Tryz.underlying164 rfl rfl Tryz.sizeOf161 rfl⟩
instance fat164_1 : FAt Tryz.prog 164 1 1 := ⟨FieldAt.mk Tryz.underlying164 rfl rfl Tryz.sizeOf161 rfl⟩
instance fat164_2 : FAt Tryz.prog 164 2 2 := ⟨FieldAt.mk Tryz.underlying164 rfl rfl Tryz.sizeOf162 rfl⟩
instance fat176_0 : FAt Tryz.prog 176 0 0 := ⟨FieldAt.mk Tryz.underlying176 rfl rfl Tryz.sizeOf9 rfl⟩
instance fat185_0 : FAt Tryz.prog 185 0 0 := ⟨FieldAt.mk Tryz.underlying185 rfl rfl Tryz.sizeOf130 rfl⟩
instance fat185_1 : FAt Tryz.prog 185 1 1 := ⟨FieldAt.mk Tryz.underlying185 rfl rfl Tryz.sizeOf4 rfl⟩
instance fat185_2 : FAt Tryz.prog 185 2 2 := ⟨FieldAt.mk Tryz.underlying185 rfl rfl Tryz.sizeOf4 rfl⟩
instance fat185_3 : FAt Tryz.prog 185 3 3 := ⟨FieldAt.mk Tryz.underlying185 rfl rfl Tryz.sizeOf3 rfl⟩
instance fat185_4 : FAt Tryz.prog 185 4 4 := ⟨FieldAt.mk Tryz.underlying185 rfl rfl Tryz.sizeOf3 rfl⟩
instance fat194_1 : FAt Tryz.prog 194 1 1 := ⟨FieldAt.mk Tryz.underlying194 rfl rfl Tryz.sizeOf9 rfl⟩
instance fat209_1 : FAt Tryz.prog 209 1 1 := ⟨FieldAt.mk Tryz.underlying209 rfl rfl Tryz.sizeOf81 rfl⟩
instance fat214_1 : FAt Tryz.prog 214 1 1 := ⟨FieldAt.mk Tryz.underlying214 rfl rfl Tryz.sizeOf81 rfl⟩
instance fat215_1 : FAt Tryz.prog 215 1 1 := ⟨FieldAt.mk Tryz.underlying215 rfl rfl Tryz.sizeOf81 rfl⟩
instance fat228_1 : FAt Tryz.prog 228 1 2 := ⟨FieldAt.mk Tryz.underlying228 rfl rfl Tryz.sizeOf3 rfl⟩
instance fat228_2 : FAt Tryz.prog 228 2 3 := ⟨FieldAt.mk Tryz.underlying228 rfl rfl Tryz.sizeOf98 rfl⟩
instance fat228_3 : FAt Tryz.prog 228 3 4 := ⟨FieldAt.mk Tryz.underlying228 rfl rfl Tryz.sizeOf9 rfl⟩
instance fat240_0 : FAt Tryz.prog 240 0 0 := ⟨FieldAt.mk Tryz.underlying240 rfl rfl Tryz.sizeOf21 rfl⟩
instance fat240_1 : FAt Tryz.prog 240 1 1 := ⟨FieldAt.mk Tryz.underlying240 rfl rfl Tryz.sizeOf3 rfl⟩
instance fat240_2 : FAt Tryz.prog 240 2 2 := ⟨FieldAt.mk Tryz.underlying240 rfl rfl Tryz.sizeOf4 rfl⟩
instance fat240_3 : FAt Tryz.prog 240 3 3 := ⟨FieldAt.mk Tryz.underlying240 rfl rfl Tryz.sizeOf237 rfl⟩
instance fat240_4 : FAt Tryz.prog 240 4 4 := ⟨FieldAt.mk Tryz.underlying240 rfl rfl Tryz.sizeOf238 rfl⟩
instance fat246_0 : FAt Tryz.prog 246 0 0 := ⟨FieldAt.mk Tryz.underlying246 rfl rfl Tryz.sizeOf9 rfl⟩
instance fat246_1 : FAt Tryz.prog 246 1 1 := ⟨FieldAt.mk Tryz.underlying246 rfl rfl Tryz.sizeOf9 rfl⟩
instance fat246_2 : FAt Tryz.prog 246 2 2 := ⟨FieldAt.mk Tryz.underlying246 rfl rfl Tryz.sizeOf3 rfl⟩
instance fat246_3 : FAt Tryz.prog 246 3 3 := ⟨FieldAt.mk Tryz.underlying246 rfl rfl Tryz.sizeOf31 rfl⟩
instance fat250_1 : FAt Tryz.prog 250 1 1 := ⟨FieldAt.mk Tryz.underlying250 rfl rfl Tryz.sizeOf31 rfl⟩
instance fat257_0 : FAt Tryz.prog 257 0 0 := ⟨FieldAt.mk Tryz.underlying257 rfl rfl Tryz.sizeOf9 rfl⟩
instance fat257_1 : FAt Tryz.prog 257 1 1 := ⟨FieldAt.mk Tryz.underlying257 rfl rfl Tryz.sizeOf9 rfl⟩
instance fat267_0 : FAt Tryz.prog 267 0 0 := ⟨FieldAt.mk Tryz.underlying267 rfl rfl Tryz.sizeOf9 rfl⟩
instance fat267_1 : FAt Tryz.prog 267 1 1 := ⟨FieldAt.mk Tryz.underlying267 rfl rfl Tryz.sizeOf3 rfl⟩
instance fat274_0 : FAt Tryz.prog 274 0 0 := ⟨FieldAt.mk Tryz.underlying274 rfl rfl Tryz.sizeOf235 rfl⟩
instance fat274_1 : FAt Tryz.prog 274 1 1 := ⟨FieldAt.mk Tryz.underlying274 rfl rfl Tryz.sizeOf3 rfl⟩
instance fat274_2 : FAt Tryz.prog 274 2 2 := ⟨FieldAt.mk Tryz.underlying274 rfl rfl Tryz.sizeOf4 rfl⟩
instance fat277_0 : FAt Tryz.prog 277 0 0 := ⟨FieldAt.mk Tryz.underlying277 rfl rfl Tryz.sizeOf4 rfl⟩
instance fat277_1 : FAt Tryz.prog 277 1 1 := ⟨FieldAt.mk Tryz.underlying277 rfl rfl Tryz.sizeOf31 rfl⟩
instance fat277_2 : FAt Tryz.prog 277 2 2 := ⟨FieldAt.mk Tryz.underlying277 rfl rfl Tryz.sizeOf29 rfl⟩
instance fat280_0 : FAt Tryz.prog 280 0 0 := ⟨FieldAt.mk Tryz.underlying280 rfl rfl Tryz.sizeOf9 rfl⟩
instance fat284_0 : FAt Tryz.prog 284 0 0 := ⟨FieldAt.mk Tryz.underlying284 rfl rfl Tryz.sizeOf5 rfl⟩
instance fat284_1 : FAt Tryz.prog 284 1 1 := ⟨FieldAt.mk Tryz.underlying284 rfl rfl Tryz.sizeOf5 rfl⟩
instance fat333_1 : FAt Tryz.prog 333 1 2 := ⟨FieldAt.mk Tryz.underlying333 rfl rfl Tryz.sizeOf112 rfl⟩
instance fat343_0 : FAt Tryz.prog 343 0 0 := ⟨FieldAt.mk Tryz.underlying343 rfl rfl Tryz.sizeOf81 rfl⟩
instance fat343_1 : FAt Tryz.prog 343 1 1 := ⟨FieldAt.mk Tryz.underlying343 rfl rfl Tryz.sizeOf9 rfl⟩
instance fat343_2 : FAt Tryz.prog 343 2 2 := ⟨FieldAt.mk Tryz.underlying343 rfl rfl Tryz.sizeOf9 rfl⟩
instance fat353_1 : FAt Tryz.prog 353 1 2 := ⟨FieldAt.mk Tryz.underlying353 rfl rfl Tryz.sizeOf83 rfl⟩
instance fat353_2 : FAt Tryz.prog 353 2 3 := ⟨FieldAt.mk Tryz.underlying353 rfl rfl Tryz.sizeOf31 rfl⟩
instance fat353_3 : FAt Tryz.prog 353 3 4 := ⟨FieldAt.mk Tryz.underlying353 rfl rfl Tryz.sizeOf351 rfl⟩
instance fat361_1 : FAt Tryz.prog 361 1 2 := ⟨FieldAt.mk Tryz.underlying361 rfl rfl Tryz.sizeOf112 rfl⟩
instance fat363_1 : FAt Tryz.prog 363 1 2 := ⟨FieldAt.mk Tryz.underlying363 rfl rfl Tryz.sizeOf9 rfl⟩
instance fat363_2 : FAt Tryz.prog 363 2 3 := ⟨FieldAt.mk Tryz.underlying363 rfl rfl Tryz.sizeOf9 rfl⟩
instance fat363_3 : FAt Tryz.prog 363 3 4 := ⟨FieldAt.mk Tryz.underlying363 rfl rfl Tryz.sizeOf31 rfl⟩
instance fat366_1 : FAt Tryz.prog 366 1 2 := ⟨FieldAt.mk Tryz.underlying366 rfl rfl Tryz.sizeOf31 rfl⟩
instance cal2 : Cal Tryz.prog 2 := ⟨Tryz.call2⟩
instance fun2 : Fun Tryz.prog 2 Tryz.f2 := ⟨Tryz.func2⟩
instance cal3 : Cal Tryz.prog 3 := ⟨Tryz.call3⟩
instance fun3 : Fun Tryz.prog 3 Tryz.f3 := ⟨Tryz.func3⟩
instance cal4 : Cal Tryz.prog 4 := ⟨Tryz.call4⟩
instance fun4 : Fun Tryz.prog 4 Tryz.f4 := ⟨Tryz.func4⟩
instance cal5 : Cal Tryz.prog 5 := ⟨Tryz.call5⟩
instance fun5 : Fun Tryz.prog 5 Tryz.f5 := ⟨Tryz.func5⟩
instance cal6 : Cal Tryz.prog 6 := ⟨Tryz.call6⟩
instance fun6 : Fun Tryz.prog 6 Tryz.f6 := ⟨Tryz.func6⟩
instance cal7 : Cal Tryz.prog 7 := ⟨Tryz.call7⟩
instance fun7 : Fun Tryz.prog 7 Tryz.f7 := ⟨Tryz.func7⟩
instance cal8 : Cal Tryz.prog 8 := ⟨Tryz.call8⟩
instance fun8 : Fun Tryz.prog 8 Tryz.f8 := ⟨Tryz.func8⟩
instance cal9 : Cal Tryz.prog 9 := ⟨Tryz.call9⟩
instance fun9 : Fun Tryz.prog 9 Tryz.f9 := ⟨Tryz.func9⟩
instance cal10 : Cal Tryz.prog 10 := ⟨Tryz.call10⟩
instance fun10 : Fun Tryz.prog 10 Tryz.f10 := ⟨Tryz.func10⟩
instance cal11 : Cal Tryz.prog 11 := ⟨Tryz.call11⟩
instance fun11 : Fun Tryz.prog 11 Tryz.f11 := ⟨Tryz.func11⟩
instance cal12 : Cal Tryz.prog 12 := ⟨Tryz.call12⟩
instance fun12 : Fun Tryz.prog 12 Tryz.f12 := ⟨Tryz.func12⟩
instance cal13 : Cal Tryz.prog 13 := ⟨Tryz.call13⟩
instance fun13 : Fun Tryz.prog 13 Tryz.f13 := ⟨Tryz.func13⟩
instance cal14 : Cal Tryz.prog 14 := ⟨Tryz.call14⟩
instance fun14 : Fun Tryz.prog 14 Tryz.f14 := ⟨Tryz.func14⟩
instance cal15 : Cal Tryz.prog 15 := ⟨Tryz.call15⟩
instance fun15 : Fun Tryz.prog 15 Tryz.f15 := ⟨Tryz.func15⟩
instance cal16 : Cal Tryz.prog 16 := ⟨Tryz.call16⟩
instance fun16 : Fun Tryz.prog 16 Tryz.f16 := ⟨Tryz.func16⟩
instance cal17 : Cal Tryz.prog 17 := ⟨Tryz.call17⟩
instance fun17 : Fun Tryz.prog 17 Tryz.f17 := ⟨Tryz.func17⟩
instance cal18 : Cal Tryz.prog 18 := ⟨Tryz.call18⟩
instance fun18 : Fun Tryz.prog 18 Tryz.f18 := ⟨Tryz.func18⟩
instance cal19 : Cal Tryz.prog 19 := ⟨Tryz.call19⟩
instance fun19 : Fun Tryz.prog 19 Tryz.f19 := ⟨Tryz.func19⟩
instance cal20 : Cal Tryz.prog 20 := ⟨Tryz.call20⟩
instance fun20 : Fun Tryz.prog 20 Tryz.f20 := ⟨Tryz.func20⟩
instance cal21 : Cal Tryz.prog 21 := ⟨Tryz.call21⟩
instance fun21 : Fun Tryz.prog 21 Tryz.f21 := ⟨Tryz.func21⟩
instance cal22 : Cal Tryz.prog 22 := ⟨Tryz.call22⟩
instance fun22 : Fun Tryz.prog 22 Tryz.f22 := ⟨Tryz.func22⟩
instance cal23 : Cal Tryz.prog 23 := ⟨Tryz.call23⟩
instance fun23 : Fun Tryz.prog 23 Tryz.f23 := ⟨Tryz.func23⟩
instance cal24 : Cal Tryz.prog 24 := ⟨Tryz.call24⟩
instance fun24 : Fun Tryz.prog 24 Tryz.f24 := ⟨Tryz.func24⟩
instance cal25 : Cal Tryz.prog 25 := ⟨Tryz.call25⟩
instance fun25 : Fun Tryz.prog 25 Tryz.f25 := ⟨Tryz.func25⟩
instance cal26 : Cal Tryz.prog 26 := ⟨Tryz.call26⟩
instance fun26 : Fun Tryz.prog 26 Tryz.f26 := ⟨Tryz.func26⟩
instance cal27 : Cal Tryz.prog 27 := ⟨Tryz.call27⟩
instance fun27 : Fun Tryz.prog 27 Tryz.f27 := ⟨Tryz.func27⟩
instance cal28 : Cal Tryz.prog 28 := ⟨Tryz.call28⟩
instance fun28 : Fun Tryz.prog 28 Tryz.f28 := ⟨Tryz.func28⟩
instance cal29 : Cal Tryz.prog 29 := ⟨Tryz.call29⟩
instance fun29 : Fun Tryz.prog 29 Tryz.f29 := ⟨Tryz.func29⟩
instance cal30 : Cal Tryz.prog 30 := ⟨Tryz.call30⟩
instance fun30 : Fun Tryz.prog 30 Tryz.f30 := ⟨Tryz.func30⟩
instance cal31 : Cal Tryz.prog 31 := ⟨Tryz.call31⟩
instance fun31 : Fun Tryz.prog 31 Tryz.f31 := ⟨Tryz.func31⟩
instance cal32 : Cal Tryz.prog 32 := ⟨Tryz.call32⟩
instance fun32 : Fun Tryz.prog 32 Tryz.f32 := ⟨Tryz.func32⟩
instance cal33 : Cal Tryz.prog 33 := ⟨Tryz.call33⟩
instance fun33 : Fun Tryz.prog 33 Tryz.f33 := ⟨Tryz.func33⟩
instance cal34 : Cal Tryz.prog 34 := ⟨Tryz.call34⟩
instance fun34 : Fun Tryz.prog 34 Tryz.f34 := ⟨Tryz.func34⟩
instance cal35 : Cal Tryz.prog 35 := ⟨Tryz.call35⟩
instance fun35 : Fun Tryz.prog 35 Tryz.f35 := ⟨Tryz.func35⟩
instance cal36 : Cal Tryz.prog 36 := ⟨Tryz.call36⟩
instance fun36 : Fun Tryz.prog 36 Tryz.f36 := ⟨Tryz.func36⟩
instance cal37 : Cal Tryz.prog 37 := ⟨Tryz.call37⟩
instance fun37 : Fun Tryz.prog 37 Tryz.f37 := ⟨Tryz.func37⟩
instance cal38 : Cal Tryz.prog 38 := ⟨Tryz.call38⟩
instance fun38 : Fun Tryz.prog 38 Tryz.f38 := ⟨Tryz.func38⟩
instance cal39 : Cal Tryz.prog 39 := ⟨Tryz.call39⟩
instance fun39 : Fun Tryz.prog 39 Tryz.f39 := ⟨Tryz.func39⟩
instance cal40 : Cal Tryz.prog 40 := ⟨Tryz.call40⟩
instance fun40 : Fun Tryz.prog 40 Tryz.f40 := ⟨Tryz.func40⟩
instance cal41 : Cal Tryz.prog 41 := ⟨Tryz.call41⟩
instance fun41 : Fun Tryz.prog 41 Tryz.f41 := ⟨Tryz.func41⟩
instance cal42 : Cal Tryz.prog 42 := ⟨Tryz.call42⟩
instance fun42 : Fun Tryz.prog 42 Tryz.f42 := ⟨Tryz.func42⟩
instance cal44 : Cal Tryz.prog 44 := ⟨Tryz.call44⟩
instance fun44 : Fun Tryz.prog 44 Tryz.f44 := ⟨Tryz.func44⟩
instance cal45 : Cal Tryz.prog 45 := ⟨Tryz.call45⟩
instance fun45 : Fun Tryz.prog 45 Tryz.f45 := ⟨Tryz.func45⟩
instance cal46 : Cal Tryz.prog 46 := ⟨Tryz.call46⟩
instance fun46 : Fun Tryz.prog 46 Tryz.f46 := ⟨Tryz.func46⟩
instance cal47 : Cal Tryz.prog 47 := ⟨Tryz.call47⟩
instance fun47 : Fun Tryz.prog 47 Tryz.f47 := ⟨Tryz.func47⟩
instance cal48 : Cal Tryz.prog 48 := ⟨Tryz.call48⟩
instance fun48 : Fun Tryz.prog 48 Tryz.f48 := ⟨Tryz.func48⟩
instance cal49 : Cal Tryz.prog 49 := ⟨Tryz.call49⟩
instance fun49 : Fun Tryz.prog 49 Tryz.f49 := ⟨Tryz.func49⟩
instance cal50 : Cal Tryz.prog 50 := ⟨Tryz.call50⟩
instance fun50 : Fun Tryz.prog 50 Tryz.f50 := ⟨Tryz.func50⟩
instance cal51 : Cal Tryz.prog 51 := ⟨Tryz.call51⟩
instance fun51 : Fun Tryz.prog 51 Tryz.f51 := ⟨Tryz.func51⟩
instance cal54 : Cal Tryz.prog 54 := ⟨Tryz.call54⟩
instance fun54 : Fun Tryz.prog 54 Tryz.f54 := ⟨Tryz.func54⟩
instance cal55 : Cal Tryz.prog 55 := ⟨Tryz.call55⟩
instance fun55 : Fun Tryz.prog 55 Tryz.f55 := ⟨Tryz.func55⟩
instance cal56 : Cal Tryz.prog 56 := ⟨Tryz.call56⟩
instance fun56 : Fun Tryz.prog 56 Tryz.f56 := ⟨Tryz.func56⟩
instance cal57 : Cal Tryz.prog 57 := ⟨Tryz.call57⟩
instance fun57 : Fun Tryz.prog 57 Tryz.f57 := ⟨Tryz.func57⟩
instance cal58 : Cal Tryz.prog 58 := ⟨Tryz.call58⟩
instance fun58 : Fun Tryz.prog 58 Tryz.f58 := ⟨Tryz.func58⟩
instance cal59 : Cal Tryz.prog 59 := ⟨Tryz.call59⟩
instance fun59 : Fun Tryz.prog 59 Tryz.f59 := ⟨Tryz.func59⟩
instance cal60 : Cal Tryz.prog 60 := ⟨Tryz.call60⟩
instance fun60 : Fun Tryz.prog 60 Tryz.f60 := ⟨Tryz.func60⟩
instance cal61 : Cal Tryz.prog 61 := ⟨Tryz.call61⟩
instance fun61 : Fun Tryz.prog 61 Tryz.f61 := ⟨Tryz.func61⟩
instance cal62 : Cal Tryz.prog 62 := ⟨Tryz.call62⟩
instance fun62 : Fun Tryz.prog 62 Tryz.f62 := ⟨Tryz.func62⟩
instance cal63 : Cal Tryz.prog 63 := ⟨Tryz.call63⟩
instance fun63 : Fun Tryz.prog 63 Tryz.f63 := ⟨Tryz.func63⟩
instance cal64 : Cal Tryz.prog 64 := ⟨Tryz.call64⟩
instance fun64 : Fun Tryz.prog 64 Tryz.f64 := ⟨Tryz.func64⟩
instance cal65 : Cal Tryz.prog 65 := ⟨Tryz.call65⟩
instance fun65 : Fun Tryz.prog 65 Tryz.f65 := ⟨Tryz.func65⟩
instance cal66 : Cal Tryz.prog 66 := ⟨Tryz.call66⟩
instance fun66 : Fun Tryz.prog 66 Tryz.f66 := ⟨Tryz.func66⟩
instance cal67 : Cal Tryz.prog 67 := ⟨Tryz.call67⟩
instance fun67 : Fun Tryz.prog 67 Tryz.f67 := ⟨Tryz.func67⟩
instance cal68 : Cal Tryz.prog 68 := ⟨Tryz.call68⟩
instance fun68 : Fun Tryz.prog 68 Tryz.f68 := ⟨Tryz.func68⟩
instance cal69 : Cal Tryz.prog 69 := ⟨Tryz.call69⟩
instance fun69 : Fun Tryz.prog 69 Tryz.f69 := ⟨Tryz.func69⟩
instance cal70 : Cal Tryz.prog 70 := ⟨Tryz.call70⟩
instance fun70 : Fun Tryz.prog 70 Tryz.f70 := ⟨Tryz.func70⟩
instance cal71 : Cal Tryz.prog 71 := ⟨Tryz.call71⟩
instance fun71 : Fun Tryz.prog 71 Tryz.f71 := ⟨Tryz.func71⟩
instance cal72 : Cal Tryz.prog 72 := ⟨Tryz.call72⟩
instance fun72 : Fun Tryz.prog 72 Tryz.f72 := ⟨Tryz.func72⟩
instance cal73 : Cal Tryz.prog 73 := ⟨Tryz.call73⟩
instance fun73 : Fun Tryz.prog 73 Tryz.f73 := ⟨Tryz.func73⟩
instance cal74 : Cal Tryz.prog 74 := ⟨Tryz.call74⟩
instance fun74 : Fun Tryz.prog 74 Tryz.f74 := ⟨Tryz.func74⟩
instance cal75 : Cal Tryz.prog 75 := ⟨Tryz.call75⟩
instance fun75 : Fun Tryz.prog 75 Tryz.f75 := ⟨Tryz.func75⟩
instance cal76 : Cal Tryz.prog 76 := ⟨Tryz.call76⟩
instance fun76 : Fun Tryz.prog 76 Tryz.f76 := ⟨Tryz.func76⟩
instance cal77 : Cal Tryz.prog 77 := ⟨Tryz.call77⟩
instance fun77 : Fun Tryz.prog 77 Tryz.f77 := ⟨Tryz.func77⟩
instance cal78 : Cal Tryz.prog 78 := ⟨Tryz.call78⟩
instance fun78 : Fun Tryz.prog 78 Tryz.f78 := ⟨Tryz.func78⟩
instance cal79 : Cal Tryz.prog 79 := ⟨Tryz.call79⟩
instance fun79 : Fun Tryz.prog 79 Tryz.f79 := ⟨Tryz.func79⟩
instance cal80 : Cal Tryz.prog 80 := ⟨Tryz.call80⟩
instance fun80 : Fun Tryz.prog 80 Tryz.f80 := ⟨Tryz.func80⟩
instance cal81 : Cal Tryz.prog 81 := ⟨Tryz.call81⟩
instance fun81 : Fun Tryz.prog 81 Tryz.f81 := ⟨Tryz.func81⟩
instance cal82 : Cal Tryz.prog 82 := ⟨Tryz.call82⟩
instance fun82 : Fun Tryz.prog 82 Tryz.f82 := ⟨Tryz.func82⟩
instance cal83 : Cal Tryz.prog 83 := ⟨Tryz.call83⟩
instance fun83 : Fun Tryz.prog 83 Tryz.f83 := ⟨Tryz.func83⟩
instance cal84 : Cal Tryz.prog 84 := ⟨Tryz.call84⟩
instance fun84 : Fun Tryz.prog 84 Tryz.f84 := ⟨Tryz.func84⟩
instance cal85 : Cal Tryz.prog 85 := ⟨Tryz.call85⟩
instance fun85 : Fun Tryz.prog 85 Tryz.f85 := ⟨Tryz.func85⟩
instance cal86 : Cal Tryz.prog 86 := ⟨Tryz.call86⟩
instance fun86 : Fun Tryz.prog 86 Tryz.f86 := ⟨Tryz.func86⟩
instance cal87 : Cal Tryz.prog 87 := ⟨Tryz.call87⟩
instance fun87 : Fun Tryz.prog 87 Tryz.f87 := ⟨Tryz.func87⟩
instance cal88 : Cal Tryz.prog 88 := ⟨Tryz.call88⟩
instance fun88 : Fun Tryz.prog 88 Tryz.f88 := ⟨Tryz.func88⟩
instance cal89 : Cal Tryz.prog 89 := ⟨Tryz.call89⟩
instance fun89 : Fun Tryz.prog 89 Tryz.f89 := ⟨Tryz.func89⟩
instance cal90 : Cal Tryz.prog 90 := ⟨Tryz.call90⟩
instance fun90 : Fun Tryz.prog 90 Tryz.f90 := ⟨Tryz.func90⟩
instance cal91 : Cal Tryz.prog 91 := ⟨Tryz.call91⟩
instance fun91 : Fun Tryz.prog 91 Tryz.f91 := ⟨Tryz.func91⟩
instance cal92 : Cal Tryz.prog 92 := ⟨Tryz.call92⟩
instance fun92 : Fun Tryz.prog 92 Tryz.f92 := ⟨Tryz.func92⟩
instance cal93 : Cal Tryz.prog 93 := ⟨Tryz.call93⟩
instance fun93 : Fun Tryz.prog 93 Tryz.f93 := ⟨Tryz.func93⟩
instance cal94 : Cal Tryz.prog 94 := ⟨Tryz.call94⟩
instance fun94 : Fun Tryz.prog 94 Tryz.f94 := ⟨Tryz.func94⟩
instance cal95 : Cal Tryz.prog 95 := ⟨Tryz.call95⟩
instance fun95 : Fun Tryz.prog 95 Tryz.f95 := ⟨Tryz.func95⟩
instance cal96 : Cal Tryz.prog 96 := ⟨Tryz.call96⟩
instance fun96 : Fun Tryz.prog 96 Tryz.f96 := ⟨Tryz.func96⟩
instance cal97 : Cal Tryz.prog 97 := ⟨Tryz.call97⟩
instance fun97 : Fun Tryz.prog 97 Tryz.f97 := ⟨Tryz.func97⟩
instance cal98 : Cal Tryz.prog 98 := ⟨Tryz.call98⟩
instance fun98 : Fun Tryz.prog 98 Tryz.f98 := ⟨Tryz.func98⟩
instance cal99 : Cal Tryz.prog 99 := ⟨Tryz.call99⟩
instance fun99 : Fun Tryz.prog 99 Tryz.f99 := ⟨Tryz.func99⟩
instance cal100 : Cal Tryz.prog 100 := ⟨Tryz.call100⟩
instance fun100 : Fun Tryz.prog 100 Tryz.f100 := ⟨Tryz.func100⟩
instance cal101 : Cal Tryz.prog 101 := ⟨Tryz.call101⟩
instance fun101 : Fun Tryz.prog 101 Tryz.f101 := ⟨Tryz.func101⟩
instance cal102 : Cal Tryz.prog 102 := ⟨Tryz.call102⟩
instance fun102 : Fun Tryz.prog 102 Tryz.f102 := ⟨Tryz.func102⟩
instance cal103 : Cal Tryz.prog 103 := ⟨Tryz.call103⟩
instance fun103 : Fun Tryz.prog 103 Tryz.f103 := ⟨Tryz.func103⟩
instance cal104 : Cal Tryz.prog 104 := ⟨Tryz.call104⟩
instance fun104 : Fun Tryz.prog 104 Tryz.f104 := ⟨Tryz.func104⟩
instance cal105 : Cal Tryz.prog 105 := ⟨Tryz.call105⟩
instance fun105 : Fun Tryz.prog 105 Tryz.f105 := ⟨Tryz.func105⟩
instance cal106 : Cal Tryz.prog 106 := ⟨Tryz.call106⟩
instance fun106 : Fun Tryz.prog 106 Tryz.f106 := ⟨Tryz.func106⟩
instance cal107 : Cal Tryz.prog 107 := ⟨Tryz.call107⟩
instance fun107 : Fun Tryz.prog 107 Tryz.f107 := ⟨Tryz.func107⟩
instance cal108 : Cal Tryz.prog 108 := ⟨Tryz.call108⟩
instance fun108 : Fun Tryz.prog 108 Tryz.f108 := ⟨Tryz.func108⟩
instance cal109 : Cal Tryz.prog 109 := ⟨Tryz.call109⟩
instance fun109 : Fun Tryz.prog 109 Tryz.f109 := ⟨Tryz.func109⟩
instance cal110 : Cal Tryz.prog 110 := ⟨Tryz.call110⟩
instance fun110 : Fun Tryz.prog 110 Tryz.f110 := ⟨Tryz.func110⟩
instance cal111 : Cal Tryz.prog 111 := ⟨Tryz.call111⟩
instance fun111 : Fun Tryz.prog 111 Tryz.f111 := ⟨Tryz.func111⟩
instance cal112 : Cal Tryz.prog 112 := ⟨Tryz.call112⟩
instance fun112 : Fun Tryz.prog 112 Tryz.f112 := ⟨Tryz.func112⟩
instance cal113 : Cal Tryz.prog 113 := ⟨Tryz.call113⟩
instance fun113 : Fun Tryz.prog 113 Tryz.f113 := ⟨Tryz.func113⟩
instance cal114 : Cal Tryz.prog 114 := ⟨Tryz.call114⟩
instance fun114 : Fun Tryz.prog 114 Tryz.f114 := ⟨Tryz.func114⟩
instance cal115 : Cal Tryz.prog 115 := ⟨Tryz.call115⟩
instance fun115 : Fun Tryz.prog 115 Tryz.f115 := ⟨Tryz.func115⟩
instance cal116 : Cal Tryz.prog 116 := ⟨Tryz.call116⟩
instance fun116 : Fun Tryz.prog 116 Tryz.f116 := ⟨Tryz.func116⟩
instance cal117 : Cal Tryz.prog 117 := ⟨Tryz.call117⟩
instance fun117 : Fun Tryz.prog 117 Tryz.f117 := ⟨Tryz.func117⟩
instance cal118 : Cal Tryz.prog 118 := ⟨Tryz.call118⟩
instance fun118 : Fun Tryz.prog 118 Tryz.f118 := ⟨Tryz.func118⟩
instance cal119 : Cal Tryz.prog 119 := ⟨Tryz.call119⟩
instance fun119 : Fun Tryz.prog 119 Tryz.f119 := ⟨Tryz.func119⟩
instance cal120 : Cal Tryz.prog 120 := ⟨Tryz.call120⟩
instance fun120 : Fun Tryz.prog 120 Tryz.f120 := ⟨Tryz.func120⟩
instance cal121 : Cal Tryz.prog 121 := ⟨Tryz.call121⟩
instance fun121 : Fun Tryz.prog 121 Tryz.f121 := ⟨Tryz.func121⟩
instance cal122 : Cal Tryz.prog 122 := ⟨Tryz.call122⟩
instance fun122 : Fun Tryz.prog 122 Tryz.f122 := ⟨Tryz.func122⟩
instance cal123 : Cal Tryz.prog 123 := ⟨Tryz.call123⟩
instance fun123 : Fun Tryz.prog 123 Tryz.f123 := ⟨Tryz.func123⟩
instance cal124 : Cal Tryz.prog 124 := ⟨Tryz.call124⟩
instance fun124 : Fun Tryz.prog 124 Tryz.f124 := ⟨Tryz.func124⟩
instance cal125 : Cal Tryz.prog 125 := ⟨Tryz.call125⟩
instance fun125 : Fun Tryz.prog 125 Tryz.f125 := ⟨Tryz.func125⟩
instance cal126 : Cal Tryz.prog 126 := ⟨Tryz.call126⟩
instance fun126 : Fun Tryz.prog 126 Tryz.f126 := ⟨Tryz.func126⟩
instance cal127 : Cal Tryz.prog 127 := ⟨Tryz.call127⟩
instance fun127 : Fun Tryz.prog 127 Tryz.f127 := ⟨Tryz.func127⟩
instance cal128 : Cal Tryz.prog 128 := ⟨Tryz.call128⟩
instance fun128 : Fun Tryz.prog 128 Tryz.f128 := ⟨Tryz.func128⟩
instance cal129 : Cal Tryz.prog 129 := ⟨Tryz.call129⟩
instance fun129 : Fun Tryz.prog 129 Tryz.f129 := ⟨Tryz.func129⟩
instance cal130 : Cal Tryz.prog 130 := ⟨Tryz.call130⟩
instance fun130 : Fun Tryz.prog 130 Tryz.f130 := ⟨Tryz.func130⟩
instance cal131 : Cal Tryz.prog 131 := ⟨Tryz.call131⟩
instance fun131 : Fun Tryz.prog 131 Tryz.f131 := ⟨Tryz.func131⟩
instance cal132 : Cal Tryz.prog 132 := ⟨Tryz.call132⟩
instance fun132 : Fun Tryz.prog 132 Tryz.f132 := ⟨Tryz.func132⟩
instance cal133 : Cal Tryz.prog 133 := ⟨Tryz.call133⟩
instance fun133 : Fun Tryz.prog 133 Tryz.f133 := ⟨Tryz.func133⟩
instance cal134 : Cal Tryz.prog 134 := ⟨Tryz.call134⟩
instance fun134 : Fun Tryz.prog 134 Tryz.f134 := ⟨Tryz.func134⟩
instance cal135 : Cal Tryz.prog 135 := ⟨Tryz.call135⟩
instance fun135 : Fun Tryz.prog 135 Tryz.f135 := ⟨Tryz.func135⟩
instance cal136 : Cal Tryz.prog 136 := ⟨Tryz.call136⟩
instance fun136 : Fun Tryz.prog 136 Tryz.f136 := ⟨Tryz.func136⟩
instance cal137 : Cal Tryz.prog 137 := ⟨Tryz.call137⟩
instance fun137 : Fun Tryz.prog 137 Tryz.f137 := ⟨Tryz.func137⟩
instance cal138 : Cal Tryz.prog 138 := ⟨Tryz.call138⟩
instance fun138 : Fun Tryz.prog 138 Tryz.f138 := ⟨Tryz.func138⟩
instance cal139 : Cal Tryz.prog 139 := ⟨Tryz.call139⟩
instance fun139 : Fun Tryz.prog 139 Tryz.f139 := ⟨Tryz.func139⟩
instance cal140 : Cal Tryz.prog 140 := ⟨Tryz.call140⟩
instance fun140 : Fun Tryz.prog 140 Tryz.f140 := ⟨Tryz.func140⟩
instance cal141 : Cal Tryz.prog 141 := ⟨Tryz.call141⟩
instance fun141 : Fun Tryz.prog 141 Tryz.f141 := ⟨Tryz.func141⟩
instance cal142 : Cal Tryz.prog 142 := ⟨Tryz.call142⟩
instance fun142 : Fun Tryz.prog 142 Tryz.f142 := ⟨Tryz.func142⟩
instance cal143 : Cal Tryz.prog 143 := ⟨Tryz.call143⟩
instance fun143 : Fun Tryz.prog 143 Tryz.f143 := ⟨Tryz.func143⟩
instance cal144 : Cal Tryz.prog 144 := ⟨Tryz.call144⟩
instance fun144 : Fun Tryz.prog 144 Tryz.f144 := ⟨Tryz.func144⟩
instance cal145 : Cal Tryz.prog 145 := ⟨Tryz.call145⟩
instance fun145 : Fun Tryz.prog 145 Tryz.f145 := ⟨Tryz.func145⟩
instance cal146 : Cal Tryz.prog 146 := ⟨Tryz.call146⟩
instance fun146 : Fun Tryz.prog 146 Tryz.f146 := ⟨Tryz.func146⟩
instance cal147 : Cal Tryz.prog 147 := ⟨Tryz.call147⟩
instance fun147 : Fun Tryz.prog 147 Tryz.f147 := ⟨Tryz.func147⟩
instance cal148 : Cal Tryz.prog 148 := ⟨Tryz.call148⟩
instance fun148 : Fun Tryz.prog 148 Tryz.f148 := ⟨Tryz.func148⟩
instance cal149 : Cal Tryz.prog 149 := ⟨Tryz.call149⟩
instance fun149 : Fun Tryz.prog 149 Tryz.f149 := ⟨Tryz.func149⟩
instance cal150 : Cal Tryz.prog 150 := ⟨Tryz.call150⟩
instance fun150 : Fun Tryz.prog 150 Tryz.f150 := ⟨Tryz.func150⟩
instance cal151 : Cal Tryz.prog 151 := ⟨Tryz.call151⟩
instance fun151 : Fun Tryz.prog 151 Tryz.f151 := ⟨Tryz.func151⟩
instance cal152 : Cal Tryz.prog 152 := ⟨Tryz.call152⟩
instance fun152 : Fun Tryz.prog 152 Tryz.f152 := ⟨Tryz.func152⟩
instance cal153 : Cal Tryz.prog 153 := ⟨Tryz.call153⟩
instance fun153 : Fun Tryz.prog 153 Tryz.f153 := ⟨Tryz.func153⟩
instance cal154 : Cal Tryz.prog 154 := ⟨Tryz.call154⟩
instance fun154 : Fun Tryz.prog 154 Tryz.f154 := ⟨Tryz.func154⟩
instance cal155 : Cal Tryz.prog 155 := ⟨Tryz.call155⟩
instance fun155 : Fun Tryz.prog 155 Tryz.f155 := ⟨Tryz.func155⟩
instance cal156 : Cal Tryz.prog 156 := ⟨Tryz.call156⟩
instance fun156 : Fun Tryz.prog 156 Tryz.f156 := ⟨Tryz.func156⟩
instance cal157 : Cal Tryz.prog 157 := ⟨Tryz.call157⟩
instance fun157 : Fun Tryz.prog 157 Tryz.f157 := ⟨Tryz.func157⟩
instance cal158 : Cal Tryz.prog 158 := ⟨Tryz.call158⟩
instance fun158 : Fun Tryz.prog 158 Tryz.f158 := ⟨Tryz.func158⟩
instance cal159 : Cal Tryz.prog 159 := ⟨Tryz.call159⟩
instance fun159 : Fun Tryz.prog 159 Tryz.f159 := ⟨Tryz.func159⟩
instance cal160 : Cal Tryz.prog 160 := ⟨Tryz.call160⟩
instance fun160 : Fun Tryz.prog 160 Tryz.f160 := ⟨Tryz.func160⟩
instance cal161 : Cal Tryz.prog 161 := ⟨Tryz.call161⟩
instance fun161 : Fun Tryz.prog 161 Tryz.f161 := ⟨Tryz.func161⟩
instance cal162 : Cal Tryz.prog 162 := ⟨Tryz.call162⟩
instance fun162 : Fun Tryz.prog 162 Tryz.f162 := ⟨Tryz.func162⟩
instance cal163 : Cal Tryz.prog 163 := ⟨Tryz.call163⟩
instance fun163 : Fun Tryz.prog 163 Tryz.f163 := ⟨Tryz.func163⟩
instance cal164 : Cal Tryz.prog 164 := ⟨Tryz.call164⟩
instance fun164 : Fun Tryz.prog 164 Tryz.f164 := ⟨Tryz.func164⟩
instance cal165 : Cal Tryz.prog 165 := ⟨Tryz.call165⟩
instance fun165 : Fun Tryz.prog 165 Tryz.f165 := ⟨Tryz.func165⟩
instance cal166 : Cal Tryz.prog 166 := ⟨Tryz.call166⟩
instance fun166 : Fun Tryz.prog 166 Tryz.f166 := ⟨Tryz.func166⟩
instance cal167 : Cal Tryz.prog 167 := ⟨Tryz.call167⟩
instance fun167 : Fun Tryz.prog 167 Tryz.f167 := ⟨Tryz.func167⟩
instance cal168 : Cal Tryz.prog 168 := ⟨Tryz.call168⟩
instance fun168 : Fun Tryz.prog 168 Tryz.f168 := ⟨Tryz.func168⟩
instance cal169 : Cal Tryz.prog 169 := ⟨Tryz.call169⟩
instance fun169 : Fun Tryz.prog 169 Tryz.f169 := ⟨Tryz.func169⟩
instance cal170 : Cal Tryz.prog 170 := ⟨Tryz.call170⟩
instance fun170 : Fun Tryz.prog 170 Tryz.f170 := ⟨Tryz.func170⟩
instance cal171 : Cal Tryz.prog 171 := ⟨Tryz.call171⟩
instance fun171 : Fun Tryz.prog 171 Tryz.f171 := ⟨Tryz.func171⟩
instance cal172 : Cal Tryz.prog 172 := ⟨Tryz.call172⟩
instance fun172 : Fun Tryz.prog 172 Tryz.f172 := ⟨Tryz.func172⟩
instance cal173 : Cal Tryz.prog 173 := ⟨Tryz.call173⟩
instance fun173 : Fun Tryz.prog 173 Tryz.f173 := ⟨Tryz.func173⟩
instance cal174 : Cal Tryz.prog 174 := ⟨Tryz.call174⟩
instance fun174 : Fun Tryz.prog 174 Tryz.f174 := ⟨Tryz.func174⟩
instance cal175 : Cal Tryz.prog 175 := ⟨Tryz.call175⟩
instance fun175 : Fun Tryz.prog 175 Tryz.f175 := ⟨Tryz.func175⟩
instance cal176 : Cal Tryz.prog 176 := ⟨Tryz.call176⟩
instance fun176 : Fun Tryz.prog 176 Tryz.f176 := ⟨Tryz.func176⟩
instance cal177 : Cal Tryz.prog 177 := ⟨Tryz.call177⟩
instance fun177 : Fun Tryz.prog 177 Tryz.f177 := ⟨Tryz.func177⟩
instance cal178 : Cal Tryz.prog 178 := ⟨Tryz.call178⟩
instance fun178 : Fun Tryz.prog 178 Tryz.f178 := ⟨Tryz.func178⟩
instance cal179 : Cal Tryz.prog 179 := ⟨Tryz.call179⟩
instance fun179 : Fun Tryz.prog 179 Tryz.f179 := ⟨Tryz.func179⟩
instance cal180 : Cal Tryz.prog 180 := ⟨Tryz.call180⟩
instance fun180 : Fun Tryz.prog 180 Tryz.f180 := ⟨Tryz.func180⟩
instance cal181 : Cal Tryz.prog 181 := ⟨Tryz.call181⟩
instance fun181 : Fun Tryz.prog 181 Tryz.f181 := ⟨Tryz.func181⟩
instance cal182 : Cal Tryz.prog 182 := ⟨Tryz.call182⟩
instance fun182 : Fun Tryz.prog 182 Tryz.f182 := ⟨Tryz.func182⟩
instance cal183 : Cal Tryz.prog 183 := ⟨Tryz.call183⟩
instance fun183 : Fun Tryz.prog 183 Tryz.f183 := ⟨Tryz.func183⟩
instance cal184 : Cal Tryz.prog 184 := ⟨Tryz.call184⟩
instance fun184 : Fun Tryz.prog 184 Tryz.f184 := ⟨Tryz.func184⟩
instance cal185 : Cal Tryz.prog 185 := ⟨Tryz.call185⟩
instance fun185 : Fun Tryz.prog 185 Tryz.f185 := ⟨Tryz.func185⟩
instance cal186 : Cal Tryz.prog 186 := ⟨Tryz.call186⟩
instance fun186 : Fun Tryz.prog 186 Tryz.f186 := ⟨Tryz.func186⟩
instance cal187 : Cal Tryz.prog 187 := ⟨Tryz.call187⟩
instance fun187 : Fun Tryz.prog 187 Tryz.f187 := ⟨Tryz.func187⟩
instance cal188 : Cal Tryz.prog 188 := ⟨Tryz.call188⟩
instance fun188 : Fun Tryz.prog 188 Tryz.f188 := ⟨Tryz.func188⟩
instance cal189 : Cal Tryz.prog 189 := ⟨Tryz.call189⟩
instance fun189 : Fun Tryz.prog 189 Tryz.f189 := ⟨Tryz.func189⟩
instance cal190 : Cal Tryz.prog 190 := ⟨Tryz.call190⟩
instance fun190 : Fun Tryz.prog 190 Tryz.f190 := ⟨Tryz.func190⟩
instance cal191 : Cal Tryz.prog 191 := ⟨Tryz.call191⟩
instance fun191 : Fun Tryz.prog 191 Tryz.f191 := ⟨Tryz.func191⟩
instance cal192 : Cal Tryz.prog 192 := ⟨Tryz.call192⟩
instance fun192 : Fun Tryz.prog 192 Tryz.f192 := ⟨Tryz.func192⟩
instance cal193 : Cal Tryz.prog 193 := ⟨Tryz.call193⟩
instance fun193 : Fun Tryz.prog 193 Tryz.f193 := ⟨Tryz.func193⟩
instance cal194 : Cal Tryz.prog 194 := ⟨Tryz.call194⟩
instance fun194 : Fun Tryz.prog 194 Tryz.f194 := ⟨Tryz.func194⟩
instance cal195 : Cal Tryz.prog 195 := ⟨Tryz.call195⟩
instance fun195 : Fun Tryz.prog 195 Tryz.f195 := ⟨Tryz.func195⟩
instance cal196 : Cal Tryz.prog 196 := ⟨Tryz.call196⟩
instance fun196 : Fun Tryz.prog 196 Tryz.f196 := ⟨Tryz.func196⟩
instance cal197 : Cal Tryz.prog 197 := ⟨Tryz.call197⟩
instance fun197 : Fun Tryz.prog 197 Tryz.f197 := ⟨Tryz.func197⟩
instance cal198 : Cal Tryz.prog 198 := ⟨Tryz.call198⟩
instance fun198 : Fun Tryz.prog 198 Tryz.f198 := ⟨Tryz.func198⟩
instance cal199 : Cal Tryz.prog 199 := ⟨Tryz.call199⟩
instance fun199 : Fun Tryz.prog 199 Tryz.f199 := ⟨Tryz.func199⟩
instance cal200 : Cal Tryz.prog 200 := ⟨Tryz.call200⟩
instance fun200 : Fun Tryz.prog 200 Tryz.f200 := ⟨Tryz.func200⟩
instance cal201 : Cal Tryz.prog 201 := ⟨Tryz.call201⟩
instance fun201 : Fun Tryz.prog 201 Tryz.f201 := ⟨Tryz.func201⟩
instance cal202 : Cal Tryz.prog 202 := ⟨Tryz.call202⟩
instance fun202 : Fun Tryz.prog 202 Tryz.f202 := ⟨Tryz.func202⟩
instance cal203 : Cal Tryz.prog 203 := ⟨Tryz.call203⟩
instance fun203 : Fun Tryz.prog 203 Tryz.f203 := ⟨Tryz.func203⟩
instance cal204 : Cal Tryz.prog 204 := ⟨Tryz.call204⟩
instance fun204 : Fun Tryz.prog 204 Tryz.f204 := ⟨Tryz.func204⟩
instance cal205 : Cal Tryz.prog 205 := ⟨Tryz.call205⟩
instance fun205 : Fun Tryz.prog 205 Tryz.f205 := ⟨Tryz.func205⟩
instance cal206 : Cal Tryz.prog 206 := ⟨Tryz.call206⟩
instance fun206 : Fun Tryz.prog 206 Tryz.f206 := ⟨Tryz.func206⟩
instance cal207 : Cal Tryz.prog 207 := ⟨Tryz.call207⟩
instance fun207 : Fun Tryz.prog 207 Tryz.f207 := ⟨Tryz.func207⟩
instance cal208 : Cal Tryz.prog 208 := ⟨Tryz.call208⟩
instance fun208 : Fun Tryz.prog 208 Tryz.f208 := ⟨Tryz.func208⟩
instance cal209 : Cal Tryz.prog 209 := ⟨Tryz.call209⟩
instance fun209 : Fun Tryz.prog 209 Tryz.f209 := ⟨Tryz.func209⟩
instance cal210 : Cal Tryz.prog 210 := ⟨Tryz.call210⟩
instance fun210 : Fun Tryz.prog 210 Tryz.f210 := ⟨Tryz.func210⟩
instance cal211 : Cal Tryz.prog 211 := ⟨Tryz.call211⟩
instance fun211 : Fun Tryz.prog 211 Tryz.f211 := ⟨Tryz.func211⟩
instance cal212 : Cal Tryz.prog 212 := ⟨Tryz.call212⟩
instance fun212 : Fun Tryz.prog 212 Tryz.f212 := ⟨Tryz.func212⟩
instance cal228 : Cal Tryz.prog 228 := ⟨Tryz.call228⟩
instance fun228 : Fun Tryz.prog 228 Tryz.f228 := ⟨Tryz.func228⟩
instance cal229 : Cal Tryz.prog 229 := ⟨Tryz.call229⟩
instance fun229 : Fun Tryz.prog 229 Tryz.f229 := ⟨Tryz.func229⟩
instance cal231 : Cal Tryz.prog 231 := ⟨Tryz.call231⟩
instance fun231 : Fun Tryz.prog 231 Tryz.f231 := ⟨Tryz.func231⟩
instance cal232 : Cal Tryz.prog 232 := ⟨Tryz.call232⟩
instance fun232 : Fun Tryz.prog 232 Tryz.f232 := ⟨Tryz.func232⟩
instance cal233 : Cal Tryz.prog 233 := ⟨Tryz.call233⟩
instance fun233 : Fun Tryz.prog 233 Tryz.f233 := ⟨Tryz.func233⟩
instance cal234 : Cal Tryz.prog 234 := ⟨Tryz.call234⟩
instance fun234 : Fun Tryz.prog 234 Tryz.f234 := ⟨Tryz.func234⟩
instance cal236 : Cal Tryz.prog 236 := ⟨Tryz.call236⟩
instance fun236 : Fun Tryz.prog 236 Tryz.f236 := ⟨Tryz.func236⟩
instance cal238 : Cal Tryz.prog 238 := ⟨Tryz.call238⟩
instance fun238 : Fun Tryz.prog 238 Tryz.f238 := ⟨Tryz.func238⟩
instance cal239 : Cal Tryz.prog 239 := ⟨Tryz.call239⟩
instance fun239 : Fun Tryz.prog 239 Tryz.f239 := ⟨Tryz.func239⟩
instance cal240 : Cal Tryz.prog 240 := ⟨Tryz.call240⟩
instance fun240 : Fun Tryz.prog 240 Tryz.f240 := ⟨Tryz.func240⟩
instance cal241 : Cal Tryz.prog 241 := ⟨Tryz.call241⟩
instance fun241 : Fun Tryz.prog 241 Tryz.f241 := ⟨Tryz.func241⟩
instance cal242 : Cal Tryz.prog 242 := ⟨Tryz.call242⟩
instance fun242 : Fun Tryz.prog 242 Tryz.f242 := ⟨Tryz.func242⟩
instance cal243 : Cal Tryz.prog 243 := ⟨Tryz.call243⟩
instance fun243 : Fun Tryz.prog 243 Tryz.f243 := ⟨Tryz.func243⟩
instance cal244 : Cal Tryz.prog 244 := ⟨Tryz.call244⟩
instance fun244 : Fun Tryz.prog 244 Tryz.f244 := ⟨Tryz.func244⟩
instance cal245 : Cal Tryz.prog 245 := ⟨Tryz.call245⟩
instance fun245 : Fun Tryz.prog 245 Tryz.f245 := ⟨Tryz.func245⟩
instance cal247 : Cal Tryz.prog 247 := ⟨Tryz.call247⟩
instance fun247 : Fun Tryz.prog 247 Tryz.f247 := ⟨Tryz.func247⟩
instance cal248 : Cal Tryz.prog 248 := ⟨Tryz.call248⟩
instance fun248 : Fun Tryz.prog 248 Tryz.f248 := ⟨Tryz.func248⟩
instance cal250 : Cal Tryz.prog 250 := ⟨Tryz.call250⟩
instance fun250 : Fun Tryz.prog 250 Tryz.f250 := ⟨Tryz.func250⟩
instance cal251 : Cal Tryz.prog 251 := ⟨Tryz.call251⟩
instance fun251 : Fun Tryz.prog 251 Tryz.f251 := ⟨Tryz.func251⟩
instance cal252 : Cal Tryz.prog 252 := ⟨Tryz.call252⟩
instance fun252 : Fun Tryz.prog 252 Tryz.f252 := ⟨Tryz.func252⟩
instance cal254 : Cal Tryz.prog 254 := ⟨Tryz.call254⟩
instance fun254 : Fun Tryz.prog 254 Tryz.f254 := ⟨Tryz.func254⟩
instance cal255 : Cal Tryz.prog 255 := ⟨Tryz.call255⟩
instance fun255 : Fun Tryz.prog 255 Tryz.f255 := ⟨Tryz.func255⟩
instance cal257 : Cal Tryz.prog 257 := ⟨Tryz.call257⟩
instance fun257 : Fun Tryz.prog 257 Tryz.f257 := ⟨Tryz.func257⟩
instance cal258 : Cal Tryz.prog 258 := ⟨Tryz.call258⟩
instance fun258 : Fun Tryz.prog 258 Tryz.f258 := ⟨Tryz.func258⟩
instance cal259 : Cal Tryz.prog 259 := ⟨Tryz.call259⟩
instance fun259 : Fun Tryz.prog 259 Tryz.f259 := ⟨Tryz.func259⟩
instance cal261 : Cal Tryz.prog 261 := ⟨Tryz.call261⟩
instance fun261 : Fun Tryz.prog 261 Tryz.f261 := ⟨Tryz.func261⟩
instance cal262 : Cal Tryz.prog 262 := ⟨Tryz.call262⟩
instance fun262 : Fun Tryz.prog 262 Tryz.f262 := ⟨Tryz.func262⟩
instance cal264 : Cal Tryz.prog 264 := ⟨Tryz.call264⟩
instance fun264 : Fun Tryz.prog 264 Tryz.f264 := ⟨Tryz.func264⟩
instance cal265 : Cal Tryz.prog 265 := ⟨Tryz.call265⟩
instance fun265 : Fun Tryz.prog 265 Tryz.f265 := ⟨Tryz.func265⟩
instance cal267 : Cal Tryz.prog 267 := ⟨Tryz.call267⟩
instance fun267 : Fun Tryz.prog 267 Tryz.f267 := ⟨Tryz.func267⟩
instance cal270 : Cal Tryz.prog 270 := ⟨Tryz.call270⟩
instance fun270 : Fun Tryz.prog 270 Tryz.f270 := ⟨Tryz.func270⟩
instance cal271 : Cal Tryz.prog 271 := ⟨Tryz.call271⟩
instance fun271 : Fun Tryz.prog 271 Tryz.f271 := ⟨Tryz.func271⟩
instance cal273 : Cal Tryz.prog 273 := ⟨Tryz.call273⟩
instance fun273 : Fun Tryz.prog 273 Tryz.f273 := ⟨Tryz.func273⟩
instance cal274 : Cal Tryz.prog 274 := ⟨Tryz.call274⟩
instance fun274 : Fun Tryz.prog 274 Tryz.f274 := ⟨Tryz.func274⟩
instance cal275 : Cal Tryz.prog 275 := ⟨Tryz.call275⟩
instance fun275 : Fun Tryz.prog 275 Tryz.f275 := ⟨Tryz.func275⟩
instance cal276 : Cal Tryz.prog 276 := ⟨Tryz.call276⟩
instance fun276 : Fun Tryz.prog 276 Tryz.f276 := ⟨Tryz.func276⟩
instance cal277 : Cal Tryz.prog 277 := ⟨Tryz.call277⟩
instance fun277 : Fun Tryz.prog 277 Tryz.f277 := ⟨Tryz.func277⟩
instance cal278 : Cal Tryz.prog 278 := ⟨Tryz.call278⟩
instance fun278 : Fun Tryz.prog 278 Tryz.f278 := ⟨Tryz.func278⟩
instance cal279 : Cal Tryz.prog 279 := ⟨Tryz.call279⟩
instance fun279 : Fun Tryz.prog 279 Tryz.f279 := ⟨Tryz.func279⟩
instance cal280 : Cal Tryz.prog 280 := ⟨Tryz.call280⟩
instance fun280 : Fun Tryz.prog 280 Tryz.f280 := ⟨Tryz.func280⟩
instance cal281 : Cal Tryz.prog 281 := ⟨Tryz.call281⟩
instance fun281 : Fun Tryz.prog 281 Tryz.f281 := ⟨Tryz.func281⟩
instance cal282 : Cal Tryz.prog 282 := ⟨Tryz.call282⟩
instance fun282 : Fun Tryz.prog 282 Tryz.f282 := ⟨Tryz.func282⟩
instance cal283 : Cal Tryz.prog 283 := ⟨Tryz.call283⟩
instance fun283 : Fun Tryz.prog 283 Tryz.f283 := ⟨Tryz.func283⟩
instance cal284 : Cal Tryz.prog 284 := ⟨Tryz.call284⟩
instance fun284 : Fun Tryz.prog 284 Tryz.f284 := ⟨Tryz.func284⟩
instance cal287 : Cal Tryz.prog 287 := ⟨Tryz.call287⟩
instance fun287 : Fun Tryz.prog 287 Tryz.f287 := ⟨Tryz.func287⟩
instance cal288 : Cal Tryz.prog 288 := ⟨Tryz.call288⟩
instance fun288 : Fun Tryz.prog 288 Tryz.f288 := ⟨Tryz.func288⟩
instance cal291 : Cal Tryz.prog 291 := ⟨Tryz.call291⟩
instance fun291 : Fun Tryz.prog 291 Tryz.f291 := ⟨Tryz.func291⟩
instance cal292 : Cal Tryz.prog 292 := ⟨Tryz.call292⟩
instance fun292 : Fun Tryz.prog 292 Tryz.f292 := ⟨Tryz.func292⟩
instance cal295 : Cal Tryz.prog 295 := ⟨Tryz.call295⟩
instance fun295 : Fun Tryz.prog 295 Tryz.f295 := ⟨Tryz.func295⟩
instance cal296 : Cal Tryz.prog 296 := ⟨Tryz.call296⟩
instance fun296 : Fun Tryz.prog 296 Tryz.f296 := ⟨Tryz.func296⟩
instance cal299 : Cal Tryz.prog 299 := ⟨Tryz.call299⟩
instance fun299 : Fun Tryz.prog 299 Tryz.f299 := ⟨Tryz.func299⟩
instance cal300 : Cal Tryz.prog 300 := ⟨Tryz.call300⟩
instance fun300 : Fun Tryz.prog 300 Tryz.f300 := ⟨Tryz.func300⟩
instance cal303 : Cal Tryz.prog 303 := ⟨Tryz.call303⟩
instance fun303 : Fun Tryz.prog 303 Tryz.f303 := ⟨Tryz.func303⟩
instance cal304 : Cal Tryz.prog 304 := ⟨Tryz.call304⟩
instance fun304 : Fun Tryz.prog 304 Tryz.f304 := ⟨Tryz.func304⟩
instance cal307 : Cal Tryz.prog 307 := ⟨Tryz.call307⟩
instance fun307 : Fun Tryz.prog 307 Tryz.f307 := ⟨Tryz.func307⟩
instance cal308 : Cal Tryz.prog 308 := ⟨Tryz.call308⟩
instance fun308 : Fun Tryz.prog 308 Tryz.f308 := ⟨Tryz.func308⟩
instance cal311 : Cal Tryz.prog 311 := ⟨Tryz.call311⟩
instance fun311 : Fun Tryz.prog 311 Tryz.f311 := ⟨Tryz.func311⟩
instance cal312 : Cal Tryz.prog 312 := ⟨Tryz.call312⟩
instance fun312 : Fun Tryz.prog 312 Tryz.f312 := ⟨Tryz.func312⟩
instance cal314 : Cal Tryz.prog 314 := ⟨Tryz.call314⟩
instance fun314 : Fun Tryz.prog 314 Tryz.f314 := ⟨Tryz.func314⟩
instance cal315 : Cal Tryz.prog 315 := ⟨Tryz.call315⟩
instance fun315 : Fun Tryz.prog 315 Tryz.f315 := ⟨Tryz.func315⟩
instance cal316 : Cal Tryz.prog 316 := ⟨Tryz.call316⟩
instance fun316 : Fun Tryz.prog 316 Tryz.f316 := ⟨Tryz.func316⟩
instance cal318 : Cal Tryz.prog 318 := ⟨Tryz.call318⟩
instance fun318 : Fun Tryz.prog 318 Tryz.f318 := ⟨Tryz.func318⟩
instance cal320 : Cal Tryz.prog 320 := ⟨Tryz.call320⟩
instance fun320 : Fun Tryz.prog 320 Tryz.f320 := ⟨Tryz.func320⟩
instance cal321 : Cal Tryz.prog 321 := ⟨Tryz.call321⟩
instance fun321 : Fun Tryz.prog 321 Tryz.f321 := ⟨Tryz.func321⟩
instance cal322 : Cal Tryz.prog 322 := ⟨Tryz.call322⟩
instance fun322 : Fun Tryz.prog 322 Tryz.f322 := ⟨Tryz.func322⟩
instance cal323 : Cal Tryz.prog 323 := ⟨Tryz.call323⟩
instance fun323 : Fun Tryz.prog 323 Tryz.f323 := ⟨Tryz.func323⟩
instance cal324 : Cal Tryz.prog 324 := ⟨Tryz.call324⟩
instance fun324 : Fun Tryz.prog 324 Tryz.f324 := ⟨Tryz.func324⟩
instance cal325 : Cal Tryz.prog 325 := ⟨Tryz.call325⟩
instance fun325 : Fun Tryz.prog 325 Tryz.f325 := ⟨Tryz.func325⟩
instance cal326 : Cal Tryz.prog 326 := ⟨Tryz.call326⟩
instance fun326 : Fun Tryz.prog 326 Tryz.f326 := ⟨Tryz.func326⟩
instance cal327 : Cal Tryz.prog 327 := ⟨Tryz.call327⟩
instance fun327 : Fun Tryz.prog 327 Tryz.f327 := ⟨Tryz.func327⟩
instance cal328 : Cal Tryz.prog 328 := ⟨Tryz.call328⟩
instance fun328 : Fun Tryz.prog 328 Tryz.f328 := ⟨Tryz.func328⟩
instance cal331 : Cal Tryz.prog 331 := ⟨Tryz.call331⟩
instance fun331 : Fun Tryz.prog 331 Tryz.f331 := ⟨Tryz.func331⟩
instance cal332 : Cal Tryz.prog 332 := ⟨Tryz.call332⟩
instance fun332 : Fun Tryz.prog 332 Tryz.f332 := ⟨Tryz.func332⟩
instance cal334 : Cal Tryz.prog 334 := ⟨Tryz.call334⟩
instance fun334 : Fun Tryz.prog 334 Tryz.f334 := ⟨Tryz.func334⟩
instance cal335 : Cal Tryz.prog 335 := ⟨Tryz.call335⟩
instance fun335 : Fun Tryz.prog 335 Tryz.f335 := ⟨Tryz.func335⟩
instance cal337 : Cal Tryz.prog 337 := ⟨Tryz.call337⟩
instance fun337 : Fun Tryz.prog 337 Tryz.f337 := ⟨Tryz.func337⟩
instance cal338 : Cal Tryz.prog 338 := ⟨Tryz.call338⟩
instance fun338 : Fun Tryz.prog 338 Tryz.f338 := ⟨Tryz.func338⟩
instance cal344 : Cal Tryz.prog 344 := ⟨Tryz.call344⟩
instance fun344 : Fun Tryz.prog 344 Tryz.f344 := ⟨Tryz.func344⟩
instance cal346 : Cal Tryz.prog 346 := ⟨Tryz.call346⟩
instance fun346 : Fun Tryz.prog 346 Tryz.f346 := ⟨Tryz.func346⟩
instance cal348 : Cal Tryz.prog 348 := ⟨Tryz.call348⟩
instance fun348 : Fun Tryz.prog 348 Tryz.f348 := ⟨Tryz.func348⟩
instance cal350 : Cal Tryz.prog 350 := ⟨Tryz.call350⟩
instance fun350 : Fun Tryz.prog 350 Tryz.f350 := ⟨Tryz.func350⟩
instance cal353 : Cal Tryz.prog 353 := ⟨Tryz.call353⟩
instance fun353 : Fun Tryz.prog 353 Tryz.f353 := ⟨Tryz.func353⟩
instance cal354 : Cal Tryz.prog 354 := ⟨Tryz.call354⟩
instance fun354 : Fun Tryz.prog 354 Tryz.f354 := ⟨Tryz.func354⟩
instance cal366 : Cal Tryz.prog 366 := ⟨Tryz.call366⟩
instance fun366 : Fun Tryz.prog 366 Tryz.f366 := ⟨Tryz.func366⟩
instance meth42_229 : Meth Tryz.prog 42 "PrintHTML" 229 := ⟨fun v w => by kernel_rfl⟩
instance meth91_232 : Meth Tryz.prog 91 "pub-paratext/pub/rscmarkdown.build" 232 := ⟨fun v w => by kernel_rfl⟩
instance meth91_233 : Meth Tryz.prog 91 "pub-paratext/pub/rscmarkdown.extend" 233 := ⟨fun v w => by kernel_rfl⟩
instance meth98_234 : Meth Tryz.prog 98 "PrintHTML" 234 := ⟨fun v w => by kernel_rfl⟩
instance meth104_236 : Meth Tryz.prog 104 "PrintHTML" 236 := ⟨fun v w => by kernel_rfl⟩
instance meth109_244 : Meth Tryz.prog 109 "pub-paratext/pub/rscmarkdown.blocks" 244 := ⟨fun v w => by kernel_rfl⟩
instance meth109_353 : Meth Tryz.prog 109 "pub-paratext/pub/rscmarkdown.defineLink" 353 := ⟨fun v w => by kernel_rfl⟩
instance meth109_354 : Meth Tryz.prog 109 "pub-paratext/pub/rscmarkdown.link" 354 := ⟨fun v w => by kernel_rfl⟩
instance meth109_126 : Meth Tryz.prog 109 "pub-paratext/pub/rscmarkdown.newText" 126 := ⟨fun v w => by kernel_rfl⟩
instance meth109_245 : Meth Tryz.prog 109 "pub-paratext/pub/rscmarkdown.pos" 245 := ⟨fun v w => by kernel_rfl⟩
instance meth133_254 : Meth Tryz.prog 133 "PrintHTML" 254 := ⟨fun v w => by kernel_rfl⟩
instance meth133_255 : Meth Tryz.prog 133 "PrintText" 255 := ⟨fun v w => by kernel_rfl⟩
instance meth139_261 : Meth Tryz.prog 139 "PrintHTML" 261 := ⟨fun v w => by kernel_rfl⟩
instance meth139_262 : Meth Tryz.prog 139 "PrintText" 262 := ⟨fun v w => by kernel_rfl⟩
instance meth143_265 : Meth Tryz.prog 143 "PrintHTML" 265 := ⟨fun v w => by kernel_rfl⟩
instance meth146_267 : Meth Tryz.prog 146 "PrintHTML" 267 := ⟨fun v w => by kernel_rfl⟩
instance meth149_247 : Meth Tryz.prog 149 "PrintHTML" 247 := ⟨fun v w => by kernel_rfl⟩
instance meth149_248 : Meth Tryz.prog 149 "PrintText" 248 := ⟨fun v w => by kernel_rfl⟩
instance meth151_270 : Meth Tryz.prog 151 "PrintHTML" 270 := ⟨fun v w => by kernel_rfl⟩
instance meth151_271 : Meth Tryz.prog 151 "PrintText" 271 := ⟨fun v w => by kernel_rfl⟩
instance meth155_273 : Meth Tryz.prog 155 "pub-paratext/pub/rscmarkdown.build" 273 := ⟨fun v w => by kernel_rfl⟩
instance meth155_274 : Meth Tryz.prog 155 "pub-paratext/pub/rscmarkdown.extend" 274 := ⟨fun v w => by kernel_rfl⟩
instance meth172_287 : Meth Tryz.prog 172 "PrintHTML" 287 := ⟨fun v w => by kernel_rfl⟩
instance meth172_288 : Meth Tryz.prog 172 "PrintText" 288 := ⟨fun v w => by kernel_rfl⟩
instance meth175_291 : Meth Tryz.prog 175 "PrintHTML" 291 := ⟨fun v w => by kernel_rfl⟩
instance meth175_292 : Meth Tryz.prog 175 "PrintText" 292 := ⟨fun v w => by kernel_rfl⟩
instance meth186_295 : Meth Tryz.prog 186 "PrintHTML" 295 := ⟨fun v w => by kernel_rfl⟩
instance meth186_296 : Meth Tryz.prog 186 "PrintText" 296 := ⟨fun v w => by kernel_rfl⟩
instance meth192_299 : Meth Tryz.prog 192 "PrintHTML" 299 := ⟨fun v w => by kernel_rfl⟩
instance meth192_300 : Meth Tryz.prog 192 "PrintText" 300 := ⟨fun v w => by kernel_rfl⟩
instance meth207_303 : Meth Tryz.prog 207 "PrintHTML" 303 := ⟨fun v w => by kernel_rfl⟩
instance meth207_304 : Meth Tryz.prog 207 "PrintText" 304 := ⟨fun v w => by kernel_rfl⟩
instance meth210_307 : Meth Tryz.prog 210 "PrintHTML" 307 := ⟨fun v w => by kernel_rfl⟩
instance meth210_308 : Meth Tryz.prog 210 "PrintText" 308 := ⟨fun v w => by kernel_rfl⟩
instance meth211_311 : Meth Tryz.prog 211 "PrintHTML" 311 := ⟨fun v w => by kernel_rfl⟩
instance meth211_312 : Meth Tryz.prog 211 "PrintText" 312 := ⟨fun v w => by kernel_rfl⟩
instance meth217_314 : Meth Tryz.prog 217 "pub-paratext/pub/rscmarkdown.build" 314 := ⟨fun v w => by kernel_rfl⟩
instance meth217_315 : Meth Tryz.prog 217 "pub-paratext/pub/rscmarkdown.extend" 315 := ⟨fun v w => by kernel_rfl⟩
instance meth225_316 : Meth Tryz.prog 225 "PrintHTML" 316 := ⟨fun v w => by kernel_rfl⟩
instance meth232_318 : Meth Tryz.prog 232 "PrintHTML" 318 := ⟨fun v w => by kernel_rfl⟩
instance meth235_320 : Meth Tryz.prog 235 "pub-paratext/pub/rscmarkdown.build" 320 := ⟨fun v w => by kernel_rfl⟩
instance meth235_321 : Meth Tryz.prog 235 "pub-paratext/pub/rscmarkdown.extend" 321 := ⟨fun v w => by kernel_rfl⟩
instance meth237_322 : Meth Tryz.prog 237 "pub-paratext/pub/rscmarkdown.build" 322 := ⟨fun v w => by kernel_rfl⟩
instance meth237_323 : Meth Tryz.prog 237 "pub-paratext/pub/rscmarkdown.extend" 323 := ⟨fun v w => by kernel_rfl⟩
instance meth244_324 : Meth Tryz.prog 244 "pub-paratext/pub/rscmarkdown.build" 324 := ⟨fun v w => by kernel_rfl⟩
instance meth244_325 : Meth Tryz.prog 244 "pub-paratext/pub/rscmarkdown.extend" 325 := ⟨fun v w => by kernel_rfl⟩
instance meth248_326 : Meth Tryz.prog 248 "pub-paratext/pub/rscmarkdown.build" 326 := ⟨fun v w => by kernel_rfl⟩
instance meth248_327 : Meth Tryz.prog 248 "pub-paratext/pub/rscmarkdown.extend" 327 := ⟨fun v w => by kernel_rfl⟩
instance meth254_328 : Meth Tryz.prog 254 "PrintHTML" 328 := ⟨fun v w => by kernel_rfl⟩
instance meth255_331 : Meth Tryz.prog 255 "PrintHTML" 331 := ⟨fun v w => by kernel_rfl⟩
instance meth255_332 : Meth Tryz.prog 255 "PrintText" 332 := ⟨fun v w => by kernel_rfl⟩
instance meth275_334 : Meth Tryz.prog 275 "pub-paratext/pub/rscmarkdown.build" 334 := ⟨fun v w => by kernel_rfl⟩
instance meth275_335 : Meth Tryz.prog 275 "pub-paratext/pub/rscmarkdown.extend" 335 := ⟨fun v w => by kernel_rfl⟩
instance meth279_337 : Meth Tryz.prog 279 "PrintHTML" 337 := ⟨fun v w => by kernel_rfl⟩
instance meth279_338 : Meth Tryz.prog 279 "PrintText" 338 := ⟨fun v w => by kernel_rfl⟩
instance meth347_344 : Meth Tryz.prog 347 "PrintHTML" 344 := ⟨fun v w => by kernel_rfl⟩
instance meth350_346 : Meth Tryz.prog 350 "PrintHTML" 346 := ⟨fun v w => by kernel_rfl⟩
instance meth359_348 : Meth Tryz.prog 359 "PrintHTML" 348 := ⟨fun v w => by kernel_rfl⟩
instance meth364_350 : Meth Tryz.prog 364 "PrintHTML" 350 := ⟨fun v w => by kernel_rfl⟩
theorem info42 : Tryz.prog.info? 42 = some Tryz.t42 := by kernel_rfl
instance cmp42 : CmpPtr Tryz.prog 42 := ⟨⟨_, _, _, Tryz.underlying42, info42, rfl, Tryz.sizeOf333, by decide⟩⟩
theorem info98 : Tryz.prog.info? 98 = some Tryz.t98 := by kernel_rfl
instance cmp98 : CmpPtr Tryz.prog 98 := ⟨⟨_, _, _, Tryz.underlying98, info98, rfl, Tryz.sizeOf103, by decide⟩⟩
theorem info104 : Tryz.prog.info? 104 = some Tryz.t104 := by kernel_rfl
instance cmp104 : CmpPtr Tryz.prog 104 := ⟨⟨_, _, _, Tryz.underlying104, info104, rfl, Tryz.sizeOf142, by decide⟩⟩
theorem info109 : Tryz.prog.info? 109 = some Tryz.t109 := by kernel_rfl
instance cmp109 : CmpPtr Tryz.prog 109 := ⟨⟨_, _, _, Tryz.underlying109, info109, rfl, Tryz.sizeOf88, by decide⟩⟩
theorem info127 : Tryz.prog.info? 127 = some Tryz.t127 := by kernel_rfl
instance cmp127 : CmpPtr Tryz.prog 127 := ⟨⟨_, _, _, Tryz.underlying127, info127, rfl, Tryz.sizeOf132, by decide⟩⟩
theorem info133 : Tryz.prog.info? 133 = some Tryz.t133 := by kernel_rfl
instance cmp133 : CmpPtr Tryz.prog 133 := ⟨⟨_, _, _, Tryz.underlying133, info133, rfl, Tryz.sizeOf137, by decide⟩⟩
theorem info139 : Tryz.prog.info? 139 = some Tryz.t139 := by kernel_rfl
instance cmp139 : CmpPtr Tryz.prog 139 := ⟨⟨_, _, _, Tryz.underlying139, info139, rfl, Tryz.sizeOf343, by decide⟩⟩
theorem info143 : Tryz.prog.info? 143 = some Tryz.t143 := by kernel_rfl
instance cmp143 : CmpPtr Tryz.prog 143 := ⟨⟨_, _, _, Tryz.underlying143, info143, rfl, Tryz.sizeOf145, by decide⟩⟩
theorem info146 : Tryz.prog.info? 146 = some Tryz.t146 := by kernel_rfl
instance cmp146 : CmpPtr Tryz.prog 146 := ⟨⟨_, _, _, Tryz.underlying146, info146, rfl, Tryz.sizeOf148, by decide⟩⟩
theorem info149 : Tryz.prog.info? 149 = some Tryz.t149 := by kernel_rfl
instance cmp149 : CmpPtr Tryz.prog 149 := ⟨⟨_, _, _, Tryz.underlying149, info149, rfl, Tryz.sizeOf130, by decide⟩⟩
theorem info151 : Tryz.prog.info? 151 = some Tryz.t151 := by kernel_rfl
instance cmp151 : CmpPtr Tryz.prog 151 := ⟨⟨_, _, _, Tryz.underlying151, info151, rfl, Tryz.sizeOf153, by decide⟩⟩
theorem info155 : Tryz.prog.info? 155 = some Tryz.t155 := by kernel_rfl
instance cmp155 : CmpPtr Tryz.prog 155 := ⟨⟨_, _, _, Tryz.underlying155, info155, rfl, Tryz.sizeOf159, by decide⟩⟩
theorem info169 : Tryz.prog.info? 169 = some Tryz.t169 := by kernel_rfl
instance cmp169 : CmpPtr Tryz.prog 169 := ⟨⟨_, _, _, Tryz.underlying169, info169, rfl, Tryz.sizeOf171, by decide⟩⟩
theorem info175 : Tryz.prog.info? 175 = some Tryz.t175 := by kernel_rfl
instance cmp175 : CmpPtr Tryz.prog 175 := ⟨⟨_, _, _, Tryz.underlying175, info175, rfl, Tryz.sizeOf176, by decide⟩⟩
theorem info183 : Tryz.prog.info? 183 = some Tryz.t183 := by kernel_rfl
instance cmp183 : CmpPtr Tryz.prog 183 := ⟨⟨_, _, _, Tryz.underlying183, info183, rfl, Tryz.sizeOf185, by decide⟩⟩
theorem info192 : Tryz.prog.info? 192 = some Tryz.t192 := by kernel_rfl
instance cmp192 : CmpPtr Tryz.prog 192 := ⟨⟨_, _, _, Tryz.underlying192, info192, rfl, Tryz.sizeOf194, by decide⟩⟩
theorem info207 : Tryz.prog.info? 207 = some Tryz.t207 := by kernel_rfl
instance cmp207 : CmpPtr Tryz.prog 207 := ⟨⟨_, _, _, Tryz.underlying207, info207, rfl, Tryz.sizeOf209, by decide⟩⟩
theorem info210 : Tryz.prog.info? 210 = some Tryz.t210 := by kernel_rfl
instance cmp210 : CmpPtr Tryz.prog 210 := ⟨⟨_, _, _, Tryz.underlying210, info210, rfl, Tryz.sizeOf215, by decide⟩⟩
theorem info211 : Tryz.prog.info? 211 = some Tryz.t211 := by kernel_rfl
instance cmp211 : CmpPtr Tryz.prog 211 := ⟨⟨_, _, _, Tryz.underlying211, info211, rfl, Tryz.sizeOf214, by decide⟩⟩
theorem info225 : Tryz.prog.info? 225 = some Tryz.t225 := by kernel_rfl
instance cmp225 : CmpPtr Tryz.prog 225 := ⟨⟨_, _, _, Tryz.underlying225, info225, rfl, Tryz.sizeOf228, by decide⟩⟩
theorem info232 : Tryz.prog.info? 232 = some Tryz.t232 := by kernel_rfl
instance cmp232 : CmpPtr Tryz.prog 232 := ⟨⟨_, _, _, Tryz.underlying232, info232, rfl, Tryz.sizeOf234, by decide⟩⟩
theorem info235 : Tryz.prog.info? 235 = some Tryz.t235 := by kernel_rfl
instance cmp235 : CmpPtr Tryz.prog 235 := ⟨⟨_, _, _, Tryz.underlying235, info235, rfl, Tryz.sizeOf240, by decide⟩⟩
theorem info237 : Tryz.prog.info? 237 = some Tryz.t237 := by kernel_rfl
instance cmp237 : CmpPtr Tryz.prog 237 := ⟨⟨_, _, _, Tryz.underlying237, info237, rfl, Tryz.sizeOf274, by decide⟩⟩
theorem info244 : Tryz.prog.info? 244 = some Tryz.t244 := by kernel_rfl
instance cmp244 : CmpPtr Tryz.prog 244 := ⟨⟨_, _, _, Tryz.underlying244, info244, rfl, Tryz.sizeOf246, by decide⟩⟩
theorem info248 : Tryz.prog.info? 248 = some Tryz.t248 := by kernel_rfl
instance cmp248 : CmpPtr Tryz.prog 248 := ⟨⟨_, _, _, Tryz.underlying248, info248, rfl, Tryz.sizeOf250, by decide⟩⟩
theorem info254 : Tryz.prog.info? 254 = some Tryz.t254 := by kernel_rfl
instance cmp254 : CmpPtr Tryz.prog 254 := ⟨⟨_, _, _, Tryz.underlying254, info254, rfl, Tryz.sizeOf363, by decide⟩⟩
theorem info255 : Tryz.prog.info? 255 = some Tryz.t255 := by kernel_rfl
instance cmp255 : CmpPtr Tryz.prog 255 := ⟨⟨_, _, _, Tryz.underlying255, info255, rfl, Tryz.sizeOf257, by decide⟩⟩
theorem info275 : Tryz.prog.info? 275 = some Tryz.t275 := by kernel_rfl
instance cmp275 : CmpPtr Tryz.prog 275 := ⟨⟨_, _, _, Tryz.underlying275, info275, rfl, Tryz.sizeOf277, by decide⟩⟩
theorem info279 : Tryz.prog.info? 279 = some Tryz.t279 := by kernel_rfl
instance cmp279 : CmpPtr Tryz.prog 279 := ⟨⟨_, _, _, Tryz.underlying279, info279, rfl, Tryz.sizeOf280, by decide⟩⟩
theorem info291 : Tryz.prog.info? 291 = some Tryz.t291 := by kernel_rfl
instance cmp291 : CmpPtr Tryz.prog 291 := ⟨⟨_, _, _, Tryz.underlying291, info291, rfl, Tryz.sizeOf298, by decide⟩⟩
theorem info302 : Tryz.prog.info? 302 = some Tryz.t302 := by kernel_rfl
instance cmp302 : CmpPtr Tryz.prog 302 := ⟨⟨_, _, _, Tryz.underlying302, info302, rfl, Tryz.sizeOf304, by decide⟩⟩
theorem info347 : Tryz.prog.info? 347 = some Tryz.t347 := by kernel_rfl
instance cmp347 : CmpPtr Tryz.prog 347 := ⟨⟨_, _, _, Tryz.underlying347, info347, rfl, Tryz.sizeOf349, by decide⟩⟩
theorem info350 : Tryz.prog.info? 350 = some Tryz.t350 := by kernel_rfl
instance cmp350 : CmpPtr Tryz.prog 350 := ⟨⟨_, _, _, Tryz.underlying350, info350, rfl, Tryz.sizeOf353, by decide⟩⟩
theorem info359 : Tryz.prog.info? 359 = some Tryz.t359 := by kernel_rfl
instance cmp359 : CmpPtr Tryz.prog 359 := ⟨⟨_, _, _, Tryz.underlying359, info359, rfl, Tryz.sizeOf361, by decide⟩⟩
theorem info364 : Tryz.prog.info? 364 = some Tryz.t364 := by kernel_rfl
instance cmp364 : CmpPtr Tryz.prog 364 := ⟨⟨_, _, _, Tryz.underlying364, info364, rfl, Tryz.sizeOf366, by decide⟩⟩
theorem info5 : Tryz.prog.info? 5 = some Tryz.t5 := by kernel_rfl
instance elem30 : ElemI Tryz.prog 30 5 1 1 Tryz.t5 (Go.Value.int Go.IntKind.u8 0) := ⟨⟨Tryz.underlying30, info5, rfl, rfl, rfl, rfl, by decide⟩⟩
theorem info9 : Tryz.prog.info? 9 = some Tryz.t9 := by kernel_rfl
instance elem31 : ElemI Tryz.prog 31 9 1 16 Tryz.t9 (Go.Value.string ⟨([] : List UInt8).toArray⟩) := ⟨⟨Tryz.underlying31, info9, rfl, rfl, rfl, rfl, by decide⟩⟩
theorem info114 : Tryz.prog.info? 114 = some Tryz.t114 := by kernel_rfl
instance elem80 : ElemI Tryz.prog 80 114 4 56 Tryz.t114 (.agg ([Go.Value.nilIface, (Go.Value.slice (Option.none) 0 0), (Go.Value.int Go.IntKind.i64 0), (Go.Value.int Go.IntKind.i64 0)] : List Value).toArray) := ⟨⟨Tryz.underlying80, info114, rfl, rfl, rfl, rfl, by decide⟩⟩
theorem info125 : Tryz.prog.info? 125 = some Tryz.t125 := by kernel_rfl
instance elem81 : ElemI Tryz.prog 81 125 1 16 Tryz.t125 Go.Value.nilIface := ⟨⟨Tryz.underlying81, info125, rfl, rfl, rfl, rfl, by decide⟩⟩
instance elem82 : ElemI Tryz.prog 82 104 1 8 Tryz.t104 (Go.Value.pointer (Option.none)) := ⟨⟨Tryz.underlying82, info104, rfl, rfl, rfl, rfl, by decide⟩⟩
instance elem83 : ElemI Tryz.prog 83 98 1 8 Tryz.t98 (Go.Value.pointer (Option.none)) := ⟨⟨Tryz.underlying83, info98, rfl, rfl, rfl, rfl, by decide⟩⟩
theorem info61 : Tryz.prog.info? 61 = some Tryz.t61 := by kernel_rfl
instance elem112 : ElemI Tryz.prog 112 61 1 16 Tryz.t61 Go.Value.nilIface := ⟨⟨Tryz.underlying112, info61, rfl, rfl, rfl, rfl, by decide⟩⟩
theorem info3 : Tryz.prog.info? 3 = some Tryz.t3 := by kernel_rfl
instance elem122 : ElemI Tryz.prog 122 3 1 8 Tryz.t3 (Go.Value.int Go.IntKind.i64 0) := ⟨⟨Tryz.underlying122, info3, rfl, rfl, rfl, rfl, by decide⟩⟩
theorem info161 : Tryz.prog.info? 161 = some Tryz.t161 := by kernel_rfl
instance elem162 : ElemI Tryz.prog 162 161 1 16 Tryz.t161 (Go.Value.string ⟨([] : List UInt8).toArray⟩) := ⟨⟨Tryz.underlying162, info161, rfl, rfl, rfl, rfl, by decide⟩⟩
instance elem202 : ElemI Tryz.prog 202 183 1 8 Tryz.t183 (Go.Value.pointer (Option.none)) := ⟨⟨Tryz.underlying202, info183, rfl, rfl, rfl, rfl, by decide⟩⟩
end Go.Proofs
