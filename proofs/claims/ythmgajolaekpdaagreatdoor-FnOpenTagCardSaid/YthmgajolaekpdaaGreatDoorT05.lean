/- A bytes.Buffer's writers and its String. Conditions: lengths below a bound. The HTML escaper's WriteString (over bytes.Buffer alone). Conditions: a bound on the length. htmlEntity over the table of entities, and strings.Builder's contracts. Conditions: the table holds texts of 1 to 8 bytes; bounds on the length. -/
import Derived.Test.YthmgajolaekpdaaGreatDoorT02
import Derived.Test.YthmgajolaekpdaaGreatDoorT04
import Derived.Test.YthmgajolaekpdaaGreatDoorEngB
namespace Go.Proofs
open Go Go.Eng Go.RowKit
set_option maxRecDepth 20000
set_option maxHeartbeats 4000000

abbrev bufb (b : Nat) (v : Value) (lr : Int) : Blk := [(b, cellsOf [v, .int .i64 0, .int .i8 lr] 65)]
/-- What a buffer holds: nothing yet, or bytes at the head of a row. -/
def BRow (v : Value) (l : List UInt8) (R : Blk) : Prop := (l = [] ∧ v = .slice none 0 0 ∧ R = []) ∨
  (l ≠ [] ∧ ∃ g cap cur, v = .slice (some ⟨g, 0, none⟩) l.length cap ∧ R = [(g, cellsOf cur 5)] ∧ l.length ≤ cap ∧ cap ≤ 9223372036854775807 ∧ cur.length = cap ∧ cur.take l.length = Lib.byteCells l)
theorem BRow.nil : BRow (.slice none 0 0) [] [] := .inl ⟨rfl, rfl, rfl⟩
theorem BRow.wrote {g cap : Nat} {cur : List Value} {l s : List UInt8} (hs : s ≠ []) (h1 : l.length + s.length ≤ cap) (h2 : cap ≤ 9223372036854775807) (h3 : cur.length = cap) (h4 : cur.take l.length = Lib.byteCells l) :
    BRow (.slice (some ⟨g, 0, none⟩) (l.length + s.length) cap) (l ++ s) [(g, cellsOf (cur.take l.length ++ Lib.byteCells s ++ cur.drop (l.length + s.length)) 5)] := by
  refine .inr ⟨by simp [hs], g, cap, _, by rw [List.length_append], rfl, by rw [List.length_append]; exact h1, h2, ?_, ?_⟩
  · simp only [List.length_append, List.length_take, List.length_drop, Lib.byteCells_length]; omega
  · rw [h4]
    have e1 : Lib.byteCells (l ++ s) = Lib.byteCells l ++ Lib.byteCells s := by simp [Lib.byteCells]
    rw [e1, List.take_left' (by simp [Lib.byteCells_length])]

theorem byte_ones (l : List UInt8) : ∀ v ∈ Lib.byteCells l, v.oneCell' = true := by
  intro v hv
  simp only [Lib.byteCells, List.mem_map] at hv
  obtain ⟨c, _, rfl⟩ := hv
  rfl

/-- growSlice of a row. -/
theorem growSlice_tr (g l c n : Nat) (cur : List Value) (hcs : cur.length = c) (hlc : l ≤ c) (hn : 1 ≤ n) (hlim : l + n ≤ 140737488355328) (hc2 : c ≤ 140737488355328) (h1 : ∀ v ∈ cur.take l, v.oneCell' = true) :
    Tr Tryz.prog 242 [.slice (some ⟨g, 0, none⟩) l c, inat n] [[(g, cellsOf cur 5)]] fun u K => ∃ g2 cap2 cur2, u = .slice (some ⟨g2, 0, none⟩) l cap2 ∧ cur2.length = cap2 ∧ cur2.take l = cur.take l ∧ l + n ≤ cap2 ∧ cap2 ≤ 9223372036854775807 ∧ K = [[(g2, cellsOf cur2 5)], [(g, cellsOf cur 5)]] := by
  refine Tr.of_below fun B w hw => ?_
  have hg : w.heap[g]? = some (.cells cur.toArray 5 (0, 0)) := hw.has g _ (by simp)
  refine (growSlice_row g l c n cur.toArray w hg (by simpa using hcs) hlc hn hlim hc2 (by simpa using h1) _ rfl).mono ?_
  rintro e w' ⟨cap2, cells, rfl, h2, h3, h4, h5, h6, h7⟩
  exact ⟨_, cells, _, rfl, h2, h7, w.heap.size, cap2, cells.toList, rfl, by simpa using h3, by simpa using h4, h5, h6, rfl⟩

theorem tryGrow_yes (b n l cap : Nat) (base : Option Addr) (lr : Int) (h : l + n ≤ cap) (hc : cap ≤ 9223372036854775807) :
    TrD Tryz.prog 239 [lp b, inat n] [bufb b (.slice base l cap) lr] (.tuple #[inat l, .bool true]) [bufb b (.slice base (l + n) cap) lr] := by
  refine Tr.start (n := 33) (rs := [.tmp 4, .tmp 5]) rfl rfl rfl rfl fun B => ?_
  (repeat' (first | refine s_cap ?_ | refine k_seq ?_ | refine k_region ?_ | refine k_nil ?_ | refine k_then ?_ | refine k_true ?_ | refine k_ret ?_ | refine k_ret_then ?_ | refine s_move ?_ | refine s_assign ?_ | refine s_load ?_ | refine s_field ?_ | refine s_nilp ?_ | refine s_add ?_ | refine s_sub ?_ | refine s_leq_t ?_ | refine s_len ?_ | refine s_slicehi ?_ | refine s_store ?_))
  exact e_ret _ ⟨rfl, rfl⟩ (by repeat (first | exact SubH.nilR _ | refine SubH.pick (by repeat (first | exact HTake.here | apply HTake.there)) ?_))
theorem tryGrow_no (b n l cap : Nat) (base : Option Addr) (lr : Int) (hl : l ≤ cap) (h : ¬ l + n ≤ cap) (hc : cap ≤ 9223372036854775807) :
    TrD Tryz.prog 239 [lp b, inat n] [bufb b (.slice base l cap) lr] (.tuple #[inat 0, .bool false]) [bufb b (.slice base l cap) lr] := by
  refine Tr.start (n := 33) (rs := [.tmp 4, .tmp 5]) rfl rfl rfl rfl fun B => ?_
  (repeat' (first | refine s_cap ?_ | refine k_seq ?_ | refine k_region ?_ | refine k_nil ?_ | refine k_then ?_ | refine k_false ?_ | refine k_skip ?_ | refine k_ret ?_ | refine s_move ?_ | refine s_assign ?_ | refine s_load ?_ | refine s_field ?_ | refine s_nilp ?_ | refine s_sub ?_ | refine s_leq_f ?_ | refine s_len ?_))
  exact e_ret _ ⟨rfl, rfl⟩ (by repeat (first | exact SubH.nilR _ | refine SubH.pick (by repeat (first | exact HTake.here | apply HTake.there)) ?_))
theorem bufLen_tr (b l cap : Nat) (base : Option Addr) (lr : Int) (hc : l ≤ 9223372036854775807) : TrD Tryz.prog 241 [lp b] [bufb b (.slice base l cap) lr] (inat l) [bufb b (.slice base l cap) lr] := by
  refine Tr.start (n := 13) (rs := [.tmp 2]) rfl rfl rfl rfl fun B => ?_
  (repeat' (first | refine Wp.draw_all (id := 1) Mixed.out (by kernel_rfl) ?_ | refine k_seq ?_ | refine k_region ?_ | refine k_nil ?_ | refine k_then ?_ | refine k_ret ?_ | refine s_assign ?_ | refine u_nil ?_ | refine u_move ?_ | refine u_assign ?_ | refine u_load ?_ | refine u_field ?_ | refine u_nilp ?_ | refine u_len ?_ | refine u_subz ?_))
  rw [Int.sub_zero]
  exact e_ret _ ⟨rfl, rfl⟩ (by repeat (first | exact SubH.nilR _ | refine SubH.pick (by repeat (first | exact HTake.here | apply HTake.there)) ?_))

theorem grow_nil (b n : Nat) (lr : Int) (h1 : 1 ≤ n) (hn : n ≤ 64) :
    Tr Tryz.prog 240 [lp b, inat n] [bufb b (.slice none 0 0) lr] fun u K => u = inat 0 ∧ ∃ g, K = [bufb b (.slice (some ⟨g, 0, none⟩) n 64) lr, [(g, cellsOf (List.replicate 64 (.int .u8 0)) 5)]] := by
  refine Tr.start (n := 110) (rs := [.tmp 4]) rfl rfl rfl rfl fun B => ?_
  (repeat' (first | refine s_eqslt ?_ | refine s_callD (bufLen_tr b 0 0 none lr (by omega)) ?_ | refine s_callD (tryGrow_no b n 0 0 none lr (by omega) (by omega) (by omega)) ?_ | refine k_seq ?_ | refine k_region ?_ | refine k_nil ?_ | refine k_then ?_ | refine k_true ?_ | refine k_false ?_ | refine k_skip ?_ | refine s_grun ?_ | refine s_move ?_ | refine s_assign ?_ | refine s_load ?_ | refine s_field ?_ | refine s_nilp ?_ | refine s_leq_t ?_ | refine s_eql_t ?_ | refine s_neq_f ?_ | refine s_pickt ?_ | refine s_ext ?_))
  refine s_make (m := n) (c := 64) (by omega) (by omega) (by omega) (fun g => ?_)
  (repeat' (first | refine k_seq ?_ | refine k_region ?_ | refine k_nil ?_ | refine k_then ?_ | refine k_ret ?_ | refine k_ret_then ?_ | refine s_assign ?_ | refine s_field ?_ | refine s_nilp ?_ | refine s_store ?_))
  exact e_ret _ ⟨rfl, g, rfl⟩ (by repeat (first | exact SubH.nilR _ | refine SubH.pick (by repeat (first | exact HTake.here | apply HTake.there)) ?_))

theorem grow_row (b g l c n : Nat) (cur : List Value) (lr : Int) (hcs : cur.length = c) (hl0 : 1 ≤ l) (hlc : l ≤ c) (hn : 1 ≤ n) (hno : ¬ l + n ≤ c) (hlim : l + n ≤ 140737488355328) (h1 : ∀ v ∈ cur.take l, v.oneCell' = true) :
    Tr Tryz.prog 240 [lp b, inat n] [bufb b (.slice (some ⟨g, 0, none⟩) l c) lr, [(g, cellsOf cur 5)]] fun u K => u = inat l ∧ ∃ g2 cap2 cur2, cur2.length = cap2 ∧ cur2.take l = cur.take l ∧ l + n ≤ cap2 ∧ cap2 ≤ 9223372036854775807 ∧
      K = [bufb b (.slice (some ⟨g2, 0, none⟩) (l + n) cap2) lr, [(g2, cellsOf cur2 5)]] := by
  refine Tr.start (n := 110) (rs := [.tmp 4]) rfl rfl rfl rfl fun B => ?_
  (repeat' (first | refine s_eqslf ?_ | refine s_callD (bufLen_tr b l c (some ⟨g, 0, none⟩) lr (by omega)) ?_ | refine s_callD (tryGrow_no b n l c (some ⟨g, 0, none⟩) lr hlc hno (by omega)) ?_ | refine s_cap ?_ | refine s_quo2 ?_ | refine k_seq ?_ | refine k_region ?_ | refine k_nil ?_ | refine k_then ?_ | refine k_false ?_ | refine k_skip ?_ | refine s_gskipt ?_ | refine s_move ?_ | refine s_assign ?_ | refine s_load ?_ | refine s_field ?_ | refine s_nilp ?_ | refine s_leq_f ?_ | refine s_gtr_f ?_ | refine s_eql_f ?_ | refine s_pickf ?_ | refine s_ext ?_ | refine s_subz ?_))
  refine Wp.draw_till (id := 15) [bufb b (.slice (some ⟨g, 0, none⟩) l c) lr] 19 20 Mixed.out (by repeat (first | exact SubH.nilR _ | refine SubH.pick (by repeat (first | exact HTake.here | apply HTake.there)) ?_)) rfl ?_
  refine OpsK.first 0 _ (by rfl) (by kernel_rfl) rfl (by kernel_rfl) (by kernel_rfl) rfl (by first | exact p_move rfl | exact p_assign rfl | exact p_extract rfl rfl | exact q_fieldAddr rfl | exact p_nilCheck rfl | exact q_load rfl (by repeat (first | exact HMem.here | apply HMem.skip | apply HMem.there)) rfl | exact q_load_agg rfl (by repeat (first | exact HMem.here | apply HMem.skip | apply HMem.there)) (by repeat constructor) | exact q_len_slice rfl | exact q_len_str rfl | exact q_indexAddr rfl rfl (by omega) | exact q_slice_str rfl rfl rfl (by omega) (by omega) | exact q_makeInterface rfl | exact q_assert rfl | exact p_build rfl (by repeat' (first | exact BFill.nil | refine' BFill.one (by rfl) (by rfl) (by repeat constructor) ?_ | refine' BFill.agg (by rfl) (by rfl) (by repeat constructor) ?_))) ?_
  refine OpsK.first 1 _ (by rfl) (by kernel_rfl) rfl (by kernel_rfl) (by kernel_rfl) rfl (by first | exact p_move rfl | exact p_assign rfl | exact p_extract rfl rfl | exact q_fieldAddr rfl | exact p_nilCheck rfl | exact q_load rfl (by repeat (first | exact HMem.here | apply HMem.skip | apply HMem.there)) rfl | exact q_load_agg rfl (by repeat (first | exact HMem.here | apply HMem.skip | apply HMem.there)) (by repeat constructor) | exact q_len_slice rfl | exact q_len_str rfl | exact q_indexAddr rfl rfl (by omega) | exact q_slice_str rfl rfl rfl (by omega) (by omega) | exact q_makeInterface rfl | exact q_assert rfl | exact p_build rfl (by repeat' (first | exact BFill.nil | refine' BFill.one (by rfl) (by rfl) (by repeat constructor) ?_ | refine' BFill.agg (by rfl) (by rfl) (by repeat constructor) ?_))) ?_
  refine OpsK.first 2 _ (by rfl) (by kernel_rfl) rfl (by kernel_rfl) (by kernel_rfl) rfl (by first | exact p_move rfl | exact p_assign rfl | exact p_extract rfl rfl | exact q_fieldAddr rfl | exact p_nilCheck rfl | exact q_load rfl (by repeat (first | exact HMem.here | apply HMem.skip | apply HMem.there)) rfl | exact q_load_agg rfl (by repeat (first | exact HMem.here | apply HMem.skip | apply HMem.there)) (by repeat constructor) | exact q_len_slice rfl | exact q_len_str rfl | exact q_indexAddr rfl rfl (by omega) | exact q_slice_str rfl rfl rfl (by omega) (by omega) | exact q_makeInterface rfl | exact q_assert rfl | exact p_build rfl (by repeat' (first | exact BFill.nil | refine' BFill.one (by rfl) (by rfl) (by repeat constructor) ?_ | refine' BFill.agg (by rfl) (by rfl) (by repeat constructor) ?_))) ?_
  refine OpsK.first 3 _ (by rfl) (by kernel_rfl) rfl (by kernel_rfl) (by kernel_rfl) rfl (by first | exact p_move rfl | exact p_assign rfl | exact p_extract rfl rfl | exact q_fieldAddr rfl | exact p_nilCheck rfl | exact q_load rfl (by repeat (first | exact HMem.here | apply HMem.skip | apply HMem.there)) rfl | exact q_load_agg rfl (by repeat (first | exact HMem.here | apply HMem.skip | apply HMem.there)) (by repeat constructor) | exact q_len_slice rfl | exact q_len_str rfl | exact q_indexAddr rfl rfl (by omega) | exact q_slice_str rfl rfl rfl (by omega) (by omega) | exact q_makeInterface rfl | exact q_assert rfl | exact p_build rfl (by repeat' (first | exact BFill.nil | refine' BFill.one (by rfl) (by rfl) (by repeat constructor) ?_ | refine' BFill.agg (by rfl) (by rfl) (by repeat constructor) ?_))) ?_
  refine OpsK.firstL 4 [] _ (by rfl) (by kernel_rfl) (by kernel_rfl) rfl (by kernel_rfl) (by kernel_rfl) rfl (by first | exact p_move rfl | exact p_assign rfl | exact p_extract rfl rfl | exact q_fieldAddr rfl | exact p_nilCheck rfl | exact q_load rfl (by repeat (first | exact HMem.here | apply HMem.skip | apply HMem.there)) rfl | exact q_load_agg rfl (by repeat (first | exact HMem.here | apply HMem.skip | apply HMem.there)) (by repeat constructor) | exact q_len_slice rfl | exact q_len_str rfl | exact q_indexAddr rfl rfl (by omega) | exact q_slice_str rfl rfl rfl (by omega) (by omega) | exact q_makeInterface rfl | exact q_assert rfl | exact p_build rfl (by repeat' (first | exact BFill.nil | refine' BFill.one (by rfl) (by rfl) (by repeat constructor) ?_ | refine' BFill.agg (by rfl) (by rfl) (by repeat constructor) ?_))) ?_
  refine OpsK.first 5 _ (by rfl) (by kernel_rfl) rfl (by kernel_rfl) (by kernel_rfl) rfl (by first | exact p_move rfl | exact p_assign rfl | exact p_extract rfl rfl | exact q_fieldAddr rfl | exact p_nilCheck rfl | exact q_load rfl (by repeat (first | exact HMem.here | apply HMem.skip | apply HMem.there)) rfl | exact q_load_agg rfl (by repeat (first | exact HMem.here | apply HMem.skip | apply HMem.there)) (by repeat constructor) | exact q_len_slice rfl | exact q_len_str rfl | exact q_indexAddr rfl rfl (by omega) | exact q_slice_str rfl rfl rfl (by omega) (by omega) | exact q_makeInterface rfl | exact q_assert rfl | exact p_build rfl (by repeat' (first | exact BFill.nil | refine' BFill.one (by rfl) (by rfl) (by repeat constructor) ?_ | refine' BFill.agg (by rfl) (by rfl) (by repeat constructor) ?_))) ?_
  refine OpsK.first 6 _ (by rfl) (by kernel_rfl) rfl (by kernel_rfl) (by kernel_rfl) rfl (by first | exact p_move rfl | exact p_assign rfl | exact p_extract rfl rfl | exact q_fieldAddr rfl | exact p_nilCheck rfl | exact q_load rfl (by repeat (first | exact HMem.here | apply HMem.skip | apply HMem.there)) rfl | exact q_load_agg rfl (by repeat (first | exact HMem.here | apply HMem.skip | apply HMem.there)) (by repeat constructor) | exact q_len_slice rfl | exact q_len_str rfl | exact q_indexAddr rfl rfl (by omega) | exact q_slice_str rfl rfl rfl (by omega) (by omega) | exact q_makeInterface rfl | exact q_assert rfl | exact p_build rfl (by repeat' (first | exact BFill.nil | refine' BFill.one (by rfl) (by rfl) (by repeat constructor) ?_ | refine' BFill.agg (by rfl) (by rfl) (by repeat constructor) ?_))) ?_
  refine OpsK.first 7 _ (by rfl) (by kernel_rfl) rfl (by kernel_rfl) (by kernel_rfl) rfl (by first | exact p_move rfl | exact p_assign rfl | exact p_extract rfl rfl | exact q_fieldAddr rfl | exact p_nilCheck rfl | exact q_load rfl (by repeat (first | exact HMem.here | apply HMem.skip | apply HMem.there)) rfl | exact q_load_agg rfl (by repeat (first | exact HMem.here | apply HMem.skip | apply HMem.there)) (by repeat constructor) | exact q_len_slice rfl | exact q_len_str rfl | exact q_indexAddr rfl rfl (by omega) | exact q_slice_str rfl rfl rfl (by omega) (by omega) | exact q_makeInterface rfl | exact q_assert rfl | exact p_build rfl (by repeat' (first | exact BFill.nil | refine' BFill.one (by rfl) (by rfl) (by repeat constructor) ?_ | refine' BFill.agg (by rfl) (by rfl) (by repeat constructor) ?_))) ?_
  refine OpsK.firstL 8 [] _ (by rfl) (by kernel_rfl) (by kernel_rfl) rfl (by kernel_rfl) (by kernel_rfl) rfl (by first | exact p_move rfl | exact p_assign rfl | exact p_extract rfl rfl | exact q_fieldAddr rfl | exact p_nilCheck rfl | exact q_load rfl (by repeat (first | exact HMem.here | apply HMem.skip | apply HMem.there)) rfl | exact q_load_agg rfl (by repeat (first | exact HMem.here | apply HMem.skip | apply HMem.there)) (by repeat constructor) | exact q_len_slice rfl | exact q_len_str rfl | exact q_indexAddr rfl rfl (by omega) | exact q_slice_str rfl rfl rfl (by omega) (by omega) | exact q_makeInterface rfl | exact q_assert rfl | exact p_build rfl (by repeat' (first | exact BFill.nil | refine' BFill.one (by rfl) (by rfl) (by repeat constructor) ?_ | refine' BFill.agg (by rfl) (by rfl) (by repeat constructor) ?_))) ?_
  refine OpsK.first 9 _ (by rfl) (by kernel_rfl) rfl (by kernel_rfl) (by kernel_rfl) rfl (p_slice_lo (a := 0) (sz := 1) USlice.out Siz.out rfl rfl (Nat.zero_le _) (by omega)) ?_
  refine OpsK.first 10 _ (by rfl) (by kernel_rfl) rfl (by kernel_rfl) (by kernel_rfl) rfl (by first | exact p_move rfl | exact p_assign rfl | exact p_extract rfl rfl | exact q_fieldAddr rfl | exact p_nilCheck rfl | exact q_load rfl (by repeat (first | exact HMem.here | apply HMem.skip | apply HMem.there)) rfl | exact q_load_agg rfl (by repeat (first | exact HMem.here | apply HMem.skip | apply HMem.there)) (by repeat constructor) | exact q_len_slice rfl | exact q_len_str rfl | exact q_indexAddr rfl rfl (by omega) | exact q_slice_str rfl rfl rfl (by omega) (by omega) | exact q_makeInterface rfl | exact q_assert rfl | exact p_build rfl (by repeat' (first | exact BFill.nil | refine' BFill.one (by rfl) (by rfl) (by repeat constructor) ?_ | refine' BFill.agg (by rfl) (by rfl) (by repeat constructor) ?_))) ?_
  refine OpsK.first 11 _ (by rfl) (by kernel_rfl) rfl (by kernel_rfl) (by kernel_rfl) rfl (by first | exact p_move rfl | exact p_assign rfl | exact p_extract rfl rfl | exact q_fieldAddr rfl | exact p_nilCheck rfl | exact q_load rfl (by repeat (first | exact HMem.here | apply HMem.skip | apply HMem.there)) rfl | exact q_load_agg rfl (by repeat (first | exact HMem.here | apply HMem.skip | apply HMem.there)) (by repeat constructor) | exact q_len_slice rfl | exact q_len_str rfl | exact q_indexAddr rfl rfl (by omega) | exact q_slice_str rfl rfl rfl (by omega) (by omega) | exact q_makeInterface rfl | exact q_assert rfl | exact p_build rfl (by repeat' (first | exact BFill.nil | refine' BFill.one (by rfl) (by rfl) (by repeat constructor) ?_ | refine' BFill.agg (by rfl) (by rfl) (by repeat constructor) ?_))) ?_
  refine OpsK.first 12 _ (by rfl) (by kernel_rfl) rfl (by kernel_rfl) (by kernel_rfl) rfl (by first | exact p_move rfl | exact p_assign rfl | exact p_extract rfl rfl | exact q_fieldAddr rfl | exact p_nilCheck rfl | exact q_load rfl (by repeat (first | exact HMem.here | apply HMem.skip | apply HMem.there)) rfl | exact q_load_agg rfl (by repeat (first | exact HMem.here | apply HMem.skip | apply HMem.there)) (by repeat constructor) | exact q_len_slice rfl | exact q_len_str rfl | exact q_indexAddr rfl rfl (by omega) | exact q_slice_str rfl rfl rfl (by omega) (by omega) | exact q_makeInterface rfl | exact q_assert rfl | exact p_build rfl (by repeat' (first | exact BFill.nil | refine' BFill.one (by rfl) (by rfl) (by repeat constructor) ?_ | refine' BFill.agg (by rfl) (by rfl) (by repeat constructor) ?_))) ?_
  refine OpsK.firstL 13 [] _ (by rfl) (by kernel_rfl) (by kernel_rfl) rfl (by kernel_rfl) (by kernel_rfl) rfl (by first | exact p_move rfl | exact p_assign rfl | exact p_extract rfl rfl | exact q_fieldAddr rfl | exact p_nilCheck rfl | exact q_load rfl (by repeat (first | exact HMem.here | apply HMem.skip | apply HMem.there)) rfl | exact q_load_agg rfl (by repeat (first | exact HMem.here | apply HMem.skip | apply HMem.there)) (by repeat constructor) | exact q_len_slice rfl | exact q_len_str rfl | exact q_indexAddr rfl rfl (by omega) | exact q_slice_str rfl rfl rfl (by omega) (by omega) | exact q_makeInterface rfl | exact q_assert rfl | exact p_build rfl (by repeat' (first | exact BFill.nil | refine' BFill.one (by rfl) (by rfl) (by repeat constructor) ?_ | refine' BFill.agg (by rfl) (by rfl) (by repeat constructor) ?_))) ?_
  refine OpsK.first 14 _ (by rfl) (by kernel_rfl) rfl (by kernel_rfl) (by kernel_rfl) rfl (by first | exact p_move rfl | exact p_assign rfl | exact p_extract rfl rfl | exact q_fieldAddr rfl | exact p_nilCheck rfl | exact q_load rfl (by repeat (first | exact HMem.here | apply HMem.skip | apply HMem.there)) rfl | exact q_load_agg rfl (by repeat (first | exact HMem.here | apply HMem.skip | apply HMem.there)) (by repeat constructor) | exact q_len_slice rfl | exact q_len_str rfl | exact q_indexAddr rfl rfl (by omega) | exact q_slice_str rfl rfl rfl (by omega) (by omega) | exact q_makeInterface rfl | exact q_assert rfl | exact p_build rfl (by repeat' (first | exact BFill.nil | refine' BFill.one (by rfl) (by rfl) (by repeat constructor) ?_ | refine' BFill.agg (by rfl) (by rfl) (by repeat constructor) ?_))) ?_
  refine OpsK.first 15 _ (by rfl) (by kernel_rfl) rfl (by kernel_rfl) (by kernel_rfl) rfl (p_add (a := 0) (b := n) (c := n) rfl rfl (by omega) (by omega)) ?_
  refine OpsK.only 16 _ (by kernel_rfl) rfl ?_
  refine s_call (growSlice_tr g l c n cur hcs hlc hn hlim (by omega) h1) (fun u K hR => ?_)
  obtain ⟨g2, cap2, cur2, rfl, e1, e2, e3, e4, rfl⟩ := hR
  (repeat' (first | refine k_nil ?_ | refine k_then ?_))
  refine ⟨fun _ => (by repeat (first | exact SubH.nilR _ | refine SubH.pick (by repeat (first | exact HTake.here | apply HTake.there)) ?_)), ?_⟩
  refine OpsK.first 17 _ (by rfl) (by kernel_rfl) rfl (by kernel_rfl) (by kernel_rfl) rfl (by first | exact p_move rfl | exact p_assign rfl | exact p_extract rfl rfl | exact q_fieldAddr rfl | exact p_nilCheck rfl | exact q_load rfl (by repeat (first | exact HMem.here | apply HMem.skip | apply HMem.there)) rfl | exact q_load_agg rfl (by repeat (first | exact HMem.here | apply HMem.skip | apply HMem.there)) (by repeat constructor) | exact q_len_slice rfl | exact q_len_str rfl | exact q_indexAddr rfl rfl (by omega) | exact q_slice_str rfl rfl rfl (by omega) (by omega) | exact q_makeInterface rfl | exact q_assert rfl | exact p_build rfl (by repeat' (first | exact BFill.nil | refine' BFill.one (by rfl) (by rfl) (by repeat constructor) ?_ | refine' BFill.agg (by rfl) (by rfl) (by repeat constructor) ?_))) ?_
  refine OpsK.first 18 _ (by rfl) (by kernel_rfl) rfl (by kernel_rfl) (by kernel_rfl) rfl (by first | exact p_move rfl | exact p_assign rfl | exact p_extract rfl rfl | exact q_fieldAddr rfl | exact p_nilCheck rfl | exact q_load rfl (by repeat (first | exact HMem.here | apply HMem.skip | apply HMem.there)) rfl | exact q_load_agg rfl (by repeat (first | exact HMem.here | apply HMem.skip | apply HMem.there)) (by repeat constructor) | exact q_len_slice rfl | exact q_len_str rfl | exact q_indexAddr rfl rfl (by omega) | exact q_slice_str rfl rfl rfl (by omega) (by omega) | exact q_makeInterface rfl | exact q_assert rfl | exact p_build rfl (by repeat' (first | exact BFill.nil | refine' BFill.one (by rfl) (by rfl) (by repeat constructor) ?_ | refine' BFill.agg (by rfl) (by rfl) (by repeat constructor) ?_))) ?_
  refine OpsK.only 19 _ (by kernel_rfl) rfl ?_
  (repeat' (first | refine k_nil ?_ | refine k_then ?_ | refine s_store ?_))
  refine ⟨(fun h0 => Bool.noConfusion (show true = false from h0)), ?_⟩
  refine OpsK.nil (by kernel_rfl) ?_
  (repeat' (first | refine k_seq ?_ | refine k_region ?_ | refine k_nil ?_ | refine k_then ?_ | refine k_ret ?_ | refine s_move ?_ | refine s_assign ?_ | refine s_load ?_ | refine s_field ?_ | refine s_nilp ?_ | refine s_add ?_ | refine s_slicehi ?_ | refine s_store ?_))
  exact e_ret _ ⟨rfl, g2, cap2, cur2, e1, e2, e3, e4, rfl⟩ (by repeat (first | exact SubH.nilR _ | refine SubH.pick (by repeat (first | exact HTake.here | apply HTake.there)) ?_))

/-- WriteString of a text that is not empty, and no longer than 64. -/
theorem writeString_tr (b : Nat) (v : Value) (l : List UInt8) (R : Blk) (lr : Int) (s : List UInt8) (hR : BRow v l R) (hs : s ≠ []) (h64 : s.length ≤ 64) (hlim : l.length + s.length ≤ 1000000000) :
    Tr Tryz.prog 238 [lp b, str s] [bufb b v lr, R] fun u K => u = .tuple #[inat s.length, .nilIface] ∧ ∃ v' R', BRow v' (l ++ s) R' ∧ K = [bufb b v' 0, R'] := by
  have hs1 : 1 ≤ s.length := by cases s with | nil => exact absurd rfl hs | cons _ _ => simp
  rcases hR with ⟨rfl, rfl, rfl⟩ | ⟨hl, g, cap, cur, rfl, rfl, k1, k2, k3, k4⟩
  · refine Tr.start (n := 32) (rs := [.tmp 4, .tmp 5]) rfl rfl rfl rfl fun B => ?_
    (repeat' (first | refine s_callD (tryGrow_no b s.length 0 0 none 0 (by omega) (by omega) (by omega)) ?_ | refine k_seq ?_ | refine k_region ?_ | refine k_nil ?_ | refine k_then ?_ | refine k_true ?_ | refine s_move ?_ | refine s_assign ?_ | refine s_field ?_ | refine s_nilp ?_ | refine s_lens ?_ | refine s_ext ?_ | refine s_notf ?_ | refine s_store ?_))
    refine s_call (grow_nil b s.length 0 hs1 h64) (fun u K hR => ?_)
    obtain ⟨rfl, g, rfl⟩ := hR
    (repeat' (first | refine k_seq ?_ | refine k_region ?_ | refine k_nil ?_ | refine k_then ?_ | refine s_move ?_ | refine s_assign ?_ | refine s_load ?_ | refine s_field ?_ | refine s_nilp ?_ | refine s_slicelo ?_))
    refine s_copystr (g := g) (off := 0) (m := s.length - 0) (l := s) (cur := List.replicate 64 (.int .u8 0)) (by kernel_rfl) (by omega) (by simp; omega) ?_
    (repeat' (first | refine k_nil ?_ | refine k_then ?_ | refine k_ret ?_ | refine s_assign ?_))
    have hw := BRow.wrote (g := g) (cap := 64) (cur := List.replicate 64 (.int .u8 0)) (l := []) hs (by simp; omega) (by omega) (by simp) (by simp [Lib.byteCells])
    simp only [List.length_nil, Nat.zero_add] at hw
    refine e_ret _ ⟨rfl, _, _, hw, rfl⟩ ?_
    simp only [Nat.zero_add]
    exact (by repeat (first | exact SubH.nilR _ | refine SubH.pick (by repeat (first | exact HTake.here | apply HTake.there)) ?_))
  · have hl1 : 1 ≤ l.length := by cases l with | nil => exact absurd rfl hl | cons _ _ => simp
    by_cases hroom : l.length + s.length ≤ cap
    · have hw := BRow.wrote (g := g) hs hroom k2 k3 k4
      refine Tr.start (n := 32) (rs := [.tmp 4, .tmp 5]) rfl rfl rfl rfl fun B => ?_
      (repeat' (first | refine s_callD (tryGrow_yes b s.length l.length cap (some ⟨g, 0, none⟩) 0 hroom k2) ?_ | refine k_seq ?_ | refine k_region ?_ | refine k_nil ?_ | refine k_then ?_ | refine k_false ?_ | refine k_skip ?_ | refine s_move ?_ | refine s_assign ?_ | refine s_load ?_ | refine s_field ?_ | refine s_nilp ?_ | refine s_lens ?_ | refine s_ext ?_ | refine s_slicelo ?_ | refine s_nott ?_ | refine s_store ?_))
      refine s_copystr (g := g) (off := 0 + l.length * 1) (m := l.length + s.length - l.length) (l := s) (cur := cur) (by kernel_rfl) (by omega) (by omega) ?_
      (repeat' (first | refine k_nil ?_ | refine k_then ?_ | refine k_ret ?_ | refine s_assign ?_))
      refine e_ret _ ⟨rfl, _, _, hw, rfl⟩ ?_
      simp only [Nat.zero_add, Nat.mul_one]
      exact (by repeat (first | exact SubH.nilR _ | refine SubH.pick (by repeat (first | exact HTake.here | apply HTake.there)) ?_))
    · refine Tr.start (n := 32) (rs := [.tmp 4, .tmp 5]) rfl rfl rfl rfl fun B => ?_
      (repeat' (first | refine s_callD (tryGrow_no b s.length l.length cap (some ⟨g, 0, none⟩) 0 k1 hroom k2) ?_ | refine k_seq ?_ | refine k_region ?_ | refine k_nil ?_ | refine k_then ?_ | refine k_true ?_ | refine s_move ?_ | refine s_assign ?_ | refine s_field ?_ | refine s_nilp ?_ | refine s_lens ?_ | refine s_ext ?_ | refine s_notf ?_ | refine s_store ?_))
      refine s_call (grow_row b g l.length cap s.length cur 0 k3 hl1 k1 hs1 hroom (by omega) (by rw [k4]; exact byte_ones l)) (fun u K hR => ?_)
      obtain ⟨rfl, g2, cap2, cur2, e1, e2, e3, e4, rfl⟩ := hR
      have hw := BRow.wrote (g := g2) hs e3 e4 e1 (e2.trans k4)
      (repeat' (first | refine k_seq ?_ | refine k_region ?_ | refine k_nil ?_ | refine k_then ?_ | refine s_move ?_ | refine s_assign ?_ | refine s_load ?_ | refine s_field ?_ | refine s_nilp ?_ | refine s_slicelo ?_))
      refine s_copystr (g := g2) (off := 0 + l.length * 1) (m := l.length + s.length - l.length) (l := s) (cur := cur2) (by kernel_rfl) (by omega) (by omega) ?_
      (repeat' (first | refine k_nil ?_ | refine k_then ?_ | refine k_ret ?_ | refine s_assign ?_))
      refine e_ret _ ⟨rfl, _, _, hw, rfl⟩ ?_
      simp only [Nat.zero_add, Nat.mul_one]
      exact (by repeat (first | exact SubH.nilR _ | refine SubH.pick (by repeat (first | exact HTake.here | apply HTake.there)) ?_))

/-- WriteByte. -/
theorem writeByte_tr (b : Nat) (v : Value) (l : List UInt8) (R : Blk) (lr : Int) (c : UInt8) (hR : BRow v l R) (hlim : l.length + 1 ≤ 1000000000) :
    Tr Tryz.prog 252 [lp b, .int .u8 c.toNat] [bufb b v lr, R] fun u K => u = .nilIface ∧ ∃ v' R', BRow v' (l ++ [c]) R' ∧ K = [bufb b v' 0, R'] := by
  have hset : ∀ (cur : List Value) (m cap : Nat), cur.length = cap → m + 1 ≤ cap → cur.set m (.int .u8 c.toNat) = cur.take m ++ Lib.byteCells [c] ++ cur.drop (m + [c].length) := by
    intro cur m cap h1 h2
    rw [List.set_eq_take_append_cons_drop, if_pos (by omega)]; simp [Lib.byteCells]
  have hs : [c] ≠ [] := by simp
  rcases hR with ⟨rfl, rfl, rfl⟩ | ⟨hl, g, cap, cur, rfl, rfl, k1, k2, k3, k4⟩
  · refine Tr.start (n := 26) (rs := [.tmp 4]) rfl rfl rfl rfl fun B => ?_
    (repeat' (first | refine s_callD (tryGrow_no b 1 0 0 none 0 (by omega) (by omega) (by omega)) ?_ | refine k_seq ?_ | refine k_region ?_ | refine k_nil ?_ | refine k_then ?_ | refine k_true ?_ | refine s_move ?_ | refine s_assign ?_ | refine s_field ?_ | refine s_nilp ?_ | refine s_ext ?_ | refine s_notf ?_ | refine s_store ?_))
    refine s_call (grow_nil b 1 0 (by omega) (by omega)) (fun u K hR => ?_)
    obtain ⟨rfl, g, rfl⟩ := hR
    (repeat' (first | refine k_seq ?_ | refine k_region ?_ | refine k_nil ?_ | refine k_then ?_ | refine k_ret ?_ | refine s_move ?_ | refine s_assign ?_ | refine s_load ?_ | refine s_field ?_ | refine s_nilp ?_ | refine s_idxa ?_ | refine s_store ?_))
    have hw := BRow.wrote (g := g) (cap := 64) (cur := List.replicate 64 (.int .u8 0)) (l := []) hs (by simp) (by omega) (by simp) (by simp [Lib.byteCells])
    simp only [List.length_nil, Nat.zero_add] at hw
    refine e_ret _ ⟨rfl, _, _, hw, rfl⟩ ?_
    exact (by repeat (first | exact SubH.nilR _ | refine SubH.pick (by repeat (first | exact HTake.here | apply HTake.there)) ?_))
  · have hl1 : 1 ≤ l.length := by cases l with | nil => exact absurd rfl hl | cons _ _ => simp
    by_cases hroom : l.length + 1 ≤ cap
    · have hw := BRow.wrote (g := g) (s := [c]) hs hroom k2 k3 k4
      rw [← hset cur l.length cap k3 hroom] at hw
      refine Tr.start (n := 26) (rs := [.tmp 4]) rfl rfl rfl rfl fun B => ?_
      (repeat' (first | refine s_callD (tryGrow_yes b 1 l.length cap (some ⟨g, 0, none⟩) 0 hroom k2) ?_ | refine k_seq ?_ | refine k_region ?_ | refine k_nil ?_ | refine k_then ?_ | refine k_false ?_ | refine k_skip ?_ | refine s_move ?_ | refine s_assign ?_ | refine s_load ?_ | refine s_field ?_ | refine s_nilp ?_ | refine s_ext ?_ | refine s_idxa ?_ | refine s_nott ?_ | refine s_store ?_))
      refine s_storeg ?_
      (repeat' (first | refine k_seq ?_ | refine k_region ?_ | refine k_nil ?_ | refine k_then ?_ | refine k_ret ?_ | refine s_assign ?_))
      simp only [Nat.zero_add, Nat.mul_one]
      refine e_ret _ ⟨rfl, _, _, hw, rfl⟩ ?_
      exact (by repeat (first | exact SubH.nilR _ | refine SubH.pick (by repeat (first | exact HTake.here | apply HTake.there)) ?_))
    · refine Tr.start (n := 26) (rs := [.tmp 4]) rfl rfl rfl rfl fun B => ?_
      (repeat' (first | refine s_callD (tryGrow_no b 1 l.length cap (some ⟨g, 0, none⟩) 0 k1 hroom k2) ?_ | refine k_seq ?_ | refine k_region ?_ | refine k_nil ?_ | refine k_then ?_ | refine k_true ?_ | refine s_move ?_ | refine s_assign ?_ | refine s_field ?_ | refine s_nilp ?_ | refine s_ext ?_ | refine s_notf ?_ | refine s_store ?_))
      refine s_call (grow_row b g l.length cap 1 cur 0 k3 hl1 k1 (by omega) hroom (by omega) (by rw [k4]; exact byte_ones l)) (fun u K hR => ?_)
      obtain ⟨rfl, g2, cap2, cur2, e1, e2, e3, e4, rfl⟩ := hR
      have hw := BRow.wrote (g := g2) (s := [c]) hs e3 e4 e1 (e2.trans k4)
      rw [← hset cur2 l.length cap2 e1 e3] at hw
      (repeat' (first | refine k_seq ?_ | refine k_region ?_ | refine k_nil ?_ | refine k_then ?_ | refine s_move ?_ | refine s_assign ?_ | refine s_load ?_ | refine s_field ?_ | refine s_nilp ?_ | refine s_idxa ?_))
      refine s_storeg ?_
      (repeat' (first | refine k_seq ?_ | refine k_region ?_ | refine k_nil ?_ | refine k_then ?_ | refine k_ret ?_ | refine s_assign ?_))
      simp only [Nat.zero_add, Nat.mul_one]
      refine e_ret _ ⟨rfl, _, _, hw, rfl⟩ ?_
      exact (by repeat (first | exact SubH.nilR _ | refine SubH.pick (by repeat (first | exact HTake.here | apply HTake.there)) ?_))

theorem bufString_tr (b : Nat) (v : Value) (l : List UInt8) (R : Blk) (lr : Int) (hR : BRow v l R) (hl0 : l ≠ []) : TrD Tryz.prog 34 [lp b] [bufb b v lr, R] (str l) [bufb b v lr, R] := by
  rcases hR with ⟨rfl, rfl, rfl⟩ | ⟨hl, g, cap, cur, rfl, rfl, k1, k2, k3, k4⟩
  · exact absurd rfl hl0
  · have hl1 : 1 ≤ l.length := by cases l with | nil => exact absurd rfl hl | cons _ _ => simp
    refine Tr.start (n := 15) (rs := [.tmp 2]) rfl rfl rfl rfl fun B => ?_
    (repeat' (first | refine Wp.draw_all (id := 3) Mixed.out (by kernel_rfl) ?_ | refine k_seq ?_ | refine k_region ?_ | refine k_nil ?_ | refine k_then ?_ | refine k_false ?_ | refine k_skip ?_ | refine s_move ?_ | refine s_assign ?_ | refine s_eqp1 ?_ | refine u_move ?_ | refine u_load ?_ | refine u_field ?_ | refine u_nilp ?_))
    refine u_slicelo (a := 0) (m := l.length) (c := cap) (ha := ⟨Nat.zero_le _, by omega⟩) ?_
    refine OpsS.pure _ (p_bytes_str (g := g) (cap := cap) Tryz.underlying30 Tryz.underlying5 Tryz.underlying9 (by rfl) (by repeat (first | exact HMem.here | apply HMem.skip | apply HMem.there)) k4) (by rfl) ?_
    (repeat' (first | refine k_nil ?_ | refine k_then ?_ | refine k_ret ?_ | refine u_nil ?_ | refine u_assign ?_))
    exact e_ret _ ⟨rfl, rfl⟩ (by repeat (first | exact SubH.nilR _ | refine SubH.pick (by repeat (first | exact HTake.here | apply HTake.there)) ?_))
end Go.Proofs


namespace Go.Proofs
open Go Go.Eng
set_option maxRecDepth 20000
set_option maxHeartbeats 4000000

/-- A byte as HTML text. -/
def escB (c : UInt8) : List UInt8 := if c.toNat = 34 then [38, 113, 117, 111, 116, 59] else if c.toNat = 38 then [38, 97, 109, 112, 59] else if c.toNat = 60 then [38, 108, 116, 59] else if c.toNat = 62 then [38, 103, 116, 59] else [c]
abbrev escH (l : List UInt8) : List UInt8 := l.flatMap escB
theorem escB_len (c : UInt8) : (escB c).length ≤ 6 := by
  unfold escB
  by_cases h1 : c.toNat = 34
  · simp [h1]
  by_cases h2 : c.toNat = 38
  · simp [h2]
  by_cases h3 : c.toNat = 60
  · simp [h3]
  by_cases h4 : c.toNat = 62
  · simp [h4]
  simp [h1, h2, h3, h4]
theorem escH_len (l : List UInt8) : (escH l).length ≤ 6 * l.length := by
  induction l with
  | nil => simp
  | cons c l ih => have := escB_len c; simp only [escH, List.flatMap_cons, List.length_append, List.length_cons] at ih ⊢; omega
theorem escH_snoc {s : List UInt8} {j : Nat} {c : UInt8} (h : s[j]? = some c) : escH (s.take (j + 1)) = escH (s.take j) ++ escB c := by
  obtain ⟨h1, h2⟩ := List.getElem?_eq_some_iff.1 h
  rw [List.take_succ_eq_append_getElem h1, h2]; simp [escH]

abbrev escRow (g : Nat) : Blk := [(g, cellsOf [str [34], str [38, 113, 117, 111, 116, 59], str [38], str [38, 97, 109, 112, 59], str [60], str [38, 108, 116, 59], str [62], str [38, 103, 116, 59]] 9)]
theorem htmlEscaper_tr : Tr Tryz.prog 250 [] [] fun u K => ∃ g, u = .slice (some ⟨g, 0, none⟩) 8 8 ∧ K = [escRow g] := by
  refine Tr.start (n := 2) (rs := [.tmp 0]) rfl rfl rfl rfl fun B => ?_
  (repeat' (first | refine k_seq ?_ | refine k_region ?_ | refine k_nil ?_ | refine k_then ?_ | refine k_ret ?_ | refine s_assign ?_ | refine s_bsln (fun _ => ?_)))
  rename_i g
  exact e_ret [escRow g] ⟨g, rfl, rfl⟩ (by repeat (first | exact SubH.nilR _ | refine SubH.pick (by repeat (first | exact HTake.here | apply HTake.there)) ?_))

structure PW where
  j : Nat
  v : Value
  R : Blk
  lr : Int

theorem pairsWrite_tr (g b : Nat) (v : Value) (l : List UInt8) (R : Blk) (lr : Int) (s : List UInt8) (hR : BRow v l R) (hlim : l.length + 6 * s.length ≤ 1000000) :
    Tr Tryz.prog 251 [.slice (some ⟨g, 0, none⟩) 8 8, lp b, str s] [escRow g, bufb b v lr, R] fun u K => u = unit ∧ ∃ v' R' lr', BRow v' (l ++ escH s) R' ∧ K = [escRow g, bufb b v' lr', R'] := by
  refine Tr.start (n := 41) (rs := []) rfl rfl rfl rfl fun B => ?_
  (repeat' (first | refine k_seq ?_ | refine k_region ?_ | refine k_nil ?_ | refine k_then ?_ | refine k_blk ?_ | refine k_scope ?_ | refine k_label ?_ | refine s_assign ?_))
  refine k_loop (fun x : PW => [(0, .slice (some ⟨g, 0, none⟩) 8 8), (1, lp b), (2, str s), (6, inat x.j)]) (fun x => [escRow g, bufb b x.v x.lr, x.R])
    (fun x => x.j ≤ s.length ∧ BRow x.v (l ++ escH (s.take x.j)) x.R) (fun x => s.length - x.j) ⟨0, v, R, lr⟩ ⟨Nat.zero_le _, by simpa using hR⟩ (Knows.spec (by repeat (first | exact trivial | refine ⟨rfl, ?_⟩))) (by repeat (first | exact SubH.nilR _ | refine SubH.pick (by repeat (first | exact HTake.here | apply HTake.there)) ?_)) fun x hx => ?_
  obtain ⟨j, v, R, lr⟩ := x
  obtain ⟨x1, x2⟩ := hx
  simp only at x1 x2 ⊢
  have hb : (l ++ escH (s.take j)).length ≤ l.length + 6 * j := by
    have := escH_len (s.take j)
    rw [List.length_append]; rw [List.length_take] at this; omega
  by_cases hj : j < s.length
  · obtain ⟨c, hc⟩ : ∃ c, s[j]? = some c := ⟨_, List.getElem?_eq_getElem hj⟩
    have hsn := escH_snoc hc
    have h34 : ((34 : UInt8).toNat) = 34 := rfl
    have h38 : ((38 : UInt8).toNat) = 38 := rfl
    have h60 : ((60 : UInt8).toNat) = 60 := rfl
    have h62 : ((62 : UInt8).toNat) = 62 := rfl
    (repeat' (first | refine k_seq ?_ | refine k_region ?_ | refine k_nil ?_ | refine k_then ?_ | refine k_true ?_ | refine k_blk ?_ | refine k_skip ?_ | refine s_move ?_ | refine s_assign ?_ | refine s_lss_t ?_ | refine s_lens ?_))
    refine k_loop (fun k : Nat => [(0, .slice (some ⟨g, 0, none⟩) 8 8), (1, lp b), (2, str s), (6, inat j), (7, inat k)]) (fun _ => [escRow g, bufb b v lr, R])
      (fun k => k = 0 ∨ (k = 2 ∧ ¬ c.toNat = 34) ∨ (k = 4 ∧ ¬ c.toNat = 34 ∧ ¬ c.toNat = 38) ∨ (k = 6 ∧ ¬ c.toNat = 34 ∧ ¬ c.toNat = 38 ∧ ¬ c.toNat = 60) ∨ (k = 8 ∧ ¬ c.toNat = 34 ∧ ¬ c.toNat = 38 ∧ ¬ c.toNat = 60 ∧ ¬ c.toNat = 62)) (fun k => 8 - k) 0 (.inl rfl) (Knows.spec (by repeat (first | exact trivial | refine ⟨rfl, ?_⟩))) (by repeat (first | exact SubH.nilR _ | refine SubH.pick (by repeat (first | exact HTake.here | apply HTake.there)) ?_)) fun k hk => ?_
    have z34 : ([34] : List UInt8)[0]? = some 34 := rfl
    have z38 : ([38] : List UInt8)[0]? = some 38 := rfl
    have z60 : ([60] : List UInt8)[0]? = some 60 := rfl
    have z62 : ([62] : List UInt8)[0]? = some 62 := rfl
    rcases hk with rfl | ⟨rfl, n1⟩ | ⟨rfl, n1, n2⟩ | ⟨rfl, n1, n2, n3⟩ | ⟨rfl, n1, n2, n3, n4⟩
    · by_cases hc0 : c.toNat = 34
      · have e1 : escB c = [38, 113, 117, 111, 116, 59] := by simp [escB, hc0]
        (repeat' (first | refine Wp.draw_all (id := 6) Mixed.out (by kernel_rfl) ?_ | refine k_seq ?_ | refine k_region ?_ | refine k_nil ?_ | refine k_then ?_ | refine k_true ?_ | refine k_blk ?_ | refine k_skip ?_ | refine s_move ?_ | refine s_load ?_ | refine s_add1 ?_ | refine s_lss_t ?_ | refine s_len ?_ | refine s_idxa ?_ | refine u_nil ?_ | refine u_move ?_ | refine u_load ?_ | refine u_eql_t ?_ | refine u_index ?_ | refine u_idxa ?_))
        refine s_call (writeString_tr b v (l ++ escH (s.take j)) R lr [38, 113, 117, 111, 116, 59] x2 (by simp) (by simp) (by rw [show ([38, 113, 117, 111, 116, 59] : List UInt8).length = 6 from rfl]; omega)) (fun u K hR => ?_)
        obtain ⟨rfl, v', R', h9, rfl⟩ := hR
        (repeat' (first | refine k_region ?_ | refine k_nil ?_ | refine k_then ?_ | refine k_exit ?_ | refine k_exit_then ?_ | refine k_hit ?_ | refine k_miss ?_ | refine s_move ?_ | refine s_assign ?_ | refine s_add1 ?_))
        exact ⟨⟨j + 1, v', R', 0⟩, (Knows.spec (by repeat (first | exact trivial | refine ⟨rfl, ?_⟩))), (by repeat (first | exact SubH.nilR _ | refine SubH.pick (by repeat (first | exact HTake.here | apply HTake.there)) ?_)), ⟨by simp only; omega, by simp only; rw [hsn, e1, ← List.append_assoc]; exact h9⟩, by simp only; omega⟩
      · (repeat' (first | refine Wp.draw_all (id := 6) Mixed.out (by kernel_rfl) ?_ | refine k_seq ?_ | refine k_region ?_ | refine k_nil ?_ | refine k_then ?_ | refine k_true ?_ | refine k_false ?_ | refine k_blk ?_ | refine k_skip ?_ | refine k_block ?_ | refine s_move ?_ | refine s_assign ?_ | refine s_add2 ?_ | refine s_lss_t ?_ | refine s_len ?_ | refine u_nil ?_ | refine u_move ?_ | refine u_load ?_ | refine u_eql_f ?_ | refine u_index ?_ | refine u_idxa ?_))
        exact ⟨2, (Knows.spec (by repeat (first | exact trivial | refine ⟨rfl, ?_⟩))), (by repeat (first | exact SubH.nilR _ | refine SubH.pick (by repeat (first | exact HTake.here | apply HTake.there)) ?_)), .inr (.inl ⟨rfl, hc0⟩), by omega⟩
    · by_cases hc0 : c.toNat = 38
      · have e1 : escB c = [38, 97, 109, 112, 59] := by simp [escB, hc0]
        (repeat' (first | refine Wp.draw_all (id := 6) Mixed.out (by kernel_rfl) ?_ | refine k_seq ?_ | refine k_region ?_ | refine k_nil ?_ | refine k_then ?_ | refine k_true ?_ | refine k_blk ?_ | refine k_skip ?_ | refine s_move ?_ | refine s_load ?_ | refine s_add1 ?_ | refine s_lss_t ?_ | refine s_len ?_ | refine s_idxa ?_ | refine u_nil ?_ | refine u_move ?_ | refine u_load ?_ | refine u_eql_t ?_ | refine u_index ?_ | refine u_idxa ?_))
        refine s_call (writeString_tr b v (l ++ escH (s.take j)) R lr [38, 97, 109, 112, 59] x2 (by simp) (by simp) (by rw [show ([38, 97, 109, 112, 59] : List UInt8).length = 5 from rfl]; omega)) (fun u K hR => ?_)
        obtain ⟨rfl, v', R', h9, rfl⟩ := hR
        (repeat' (first | refine k_region ?_ | refine k_nil ?_ | refine k_then ?_ | refine k_exit ?_ | refine k_exit_then ?_ | refine k_hit ?_ | refine k_miss ?_ | refine s_move ?_ | refine s_assign ?_ | refine s_add1 ?_))
        exact ⟨⟨j + 1, v', R', 0⟩, (Knows.spec (by repeat (first | exact trivial | refine ⟨rfl, ?_⟩))), (by repeat (first | exact SubH.nilR _ | refine SubH.pick (by repeat (first | exact HTake.here | apply HTake.there)) ?_)), ⟨by simp only; omega, by simp only; rw [hsn, e1, ← List.append_assoc]; exact h9⟩, by simp only; omega⟩
      · (repeat' (first | refine Wp.draw_all (id := 6) Mixed.out (by kernel_rfl) ?_ | refine k_seq ?_ | refine k_region ?_ | refine k_nil ?_ | refine k_then ?_ | refine k_true ?_ | refine k_false ?_ | refine k_blk ?_ | refine k_skip ?_ | refine k_block ?_ | refine s_move ?_ | refine s_assign ?_ | refine s_add2 ?_ | refine s_lss_t ?_ | refine s_len ?_ | refine u_nil ?_ | refine u_move ?_ | refine u_load ?_ | refine u_eql_f ?_ | refine u_index ?_ | refine u_idxa ?_))
        exact ⟨4, (Knows.spec (by repeat (first | exact trivial | refine ⟨rfl, ?_⟩))), (by repeat (first | exact SubH.nilR _ | refine SubH.pick (by repeat (first | exact HTake.here | apply HTake.there)) ?_)), .inr (.inr (.inl ⟨rfl, n1, hc0⟩)), by omega⟩
    · by_cases hc0 : c.toNat = 60
      · have e1 : escB c = [38, 108, 116, 59] := by simp [escB, hc0]
        (repeat' (first | refine Wp.draw_all (id := 6) Mixed.out (by kernel_rfl) ?_ | refine k_seq ?_ | refine k_region ?_ | refine k_nil ?_ | refine k_then ?_ | refine k_true ?_ | refine k_blk ?_ | refine k_skip ?_ | refine s_move ?_ | refine s_load ?_ | refine s_add1 ?_ | refine s_lss_t ?_ | refine s_len ?_ | refine s_idxa ?_ | refine u_nil ?_ | refine u_move ?_ | refine u_load ?_ | refine u_eql_t ?_ | refine u_index ?_ | refine u_idxa ?_))
        refine s_call (writeString_tr b v (l ++ escH (s.take j)) R lr [38, 108, 116, 59] x2 (by simp) (by simp) (by rw [show ([38, 108, 116, 59] : List UInt8).length = 4 from rfl]; omega)) (fun u K hR => ?_)
        obtain ⟨rfl, v', R', h9, rfl⟩ := hR
        (repeat' (first | refine k_region ?_ | refine k_nil ?_ | refine k_then ?_ | refine k_exit ?_ | refine k_exit_then ?_ | refine k_hit ?_ | refine k_miss ?_ | refine s_move ?_ | refine s_assign ?_ | refine s_add1 ?_))
        exact ⟨⟨j + 1, v', R', 0⟩, (Knows.spec (by repeat (first | exact trivial | refine ⟨rfl, ?_⟩))), (by repeat (first | exact SubH.nilR _ | refine SubH.pick (by repeat (first | exact HTake.here | apply HTake.there)) ?_)), ⟨by simp only; omega, by simp only; rw [hsn, e1, ← List.append_assoc]; exact h9⟩, by simp only; omega⟩
      · (repeat' (first | refine Wp.draw_all (id := 6) Mixed.out (by kernel_rfl) ?_ | refine k_seq ?_ | refine k_region ?_ | refine k_nil ?_ | refine k_then ?_ | refine k_true ?_ | refine k_false ?_ | refine k_blk ?_ | refine k_skip ?_ | refine k_block ?_ | refine s_move ?_ | refine s_assign ?_ | refine s_add2 ?_ | refine s_lss_t ?_ | refine s_len ?_ | refine u_nil ?_ | refine u_move ?_ | refine u_load ?_ | refine u_eql_f ?_ | refine u_index ?_ | refine u_idxa ?_))
        exact ⟨6, (Knows.spec (by repeat (first | exact trivial | refine ⟨rfl, ?_⟩))), (by repeat (first | exact SubH.nilR _ | refine SubH.pick (by repeat (first | exact HTake.here | apply HTake.there)) ?_)), .inr (.inr (.inr (.inl ⟨rfl, n1, n2, hc0⟩))), by omega⟩
    · by_cases hc0 : c.toNat = 62
      · have e1 : escB c = [38, 103, 116, 59] := by simp [escB, hc0]
        (repeat' (first | refine Wp.draw_all (id := 6) Mixed.out (by kernel_rfl) ?_ | refine k_seq ?_ | refine k_region ?_ | refine k_nil ?_ | refine k_then ?_ | refine k_true ?_ | refine k_blk ?_ | refine k_skip ?_ | refine s_move ?_ | refine s_load ?_ | refine s_add1 ?_ | refine s_lss_t ?_ | refine s_len ?_ | refine s_idxa ?_ | refine u_nil ?_ | refine u_move ?_ | refine u_load ?_ | refine u_eql_t ?_ | refine u_index ?_ | refine u_idxa ?_))
        refine s_call (writeString_tr b v (l ++ escH (s.take j)) R lr [38, 103, 116, 59] x2 (by simp) (by simp) (by rw [show ([38, 103, 116, 59] : List UInt8).length = 4 from rfl]; omega)) (fun u K hR => ?_)
        obtain ⟨rfl, v', R', h9, rfl⟩ := hR
        (repeat' (first | refine k_region ?_ | refine k_nil ?_ | refine k_then ?_ | refine k_exit ?_ | refine k_exit_then ?_ | refine k_hit ?_ | refine k_miss ?_ | refine s_move ?_ | refine s_assign ?_ | refine s_add1 ?_))
        exact ⟨⟨j + 1, v', R', 0⟩, (Knows.spec (by repeat (first | exact trivial | refine ⟨rfl, ?_⟩))), (by repeat (first | exact SubH.nilR _ | refine SubH.pick (by repeat (first | exact HTake.here | apply HTake.there)) ?_)), ⟨by simp only; omega, by simp only; rw [hsn, e1, ← List.append_assoc]; exact h9⟩, by simp only; omega⟩
      · (repeat' (first | refine Wp.draw_all (id := 6) Mixed.out (by kernel_rfl) ?_ | refine k_seq ?_ | refine k_region ?_ | refine k_nil ?_ | refine k_then ?_ | refine k_true ?_ | refine k_false ?_ | refine k_blk ?_ | refine k_skip ?_ | refine k_block ?_ | refine s_move ?_ | refine s_assign ?_ | refine s_add2 ?_ | refine s_lss_t ?_ | refine s_len ?_ | refine u_nil ?_ | refine u_move ?_ | refine u_load ?_ | refine u_eql_f ?_ | refine u_index ?_ | refine u_idxa ?_))
        exact ⟨8, (Knows.spec (by repeat (first | exact trivial | refine ⟨rfl, ?_⟩))), (by repeat (first | exact SubH.nilR _ | refine SubH.pick (by repeat (first | exact HTake.here | apply HTake.there)) ?_)), .inr (.inr (.inr (.inr ⟨rfl, n1, n2, n3, hc0⟩))), by omega⟩
    · have e1 : escB c = [c] := by simp [escB, n1, n2, n3, n4]
      (repeat' (first | refine k_seq ?_ | refine k_region ?_ | refine k_nil ?_ | refine k_then ?_ | refine k_false ?_ | refine k_exit ?_ | refine k_exit_then ?_ | refine k_hit ?_ | refine s_move ?_ | refine s_lss_f ?_ | refine s_len ?_ | refine s_index ?_))
      refine s_call (writeByte_tr b v (l ++ escH (s.take j)) R lr c x2 (by omega)) (fun u K hR => ?_)
      obtain ⟨rfl, v', R', h9, rfl⟩ := hR
      (repeat' (first | refine k_region ?_ | refine k_nil ?_ | refine k_then ?_ | refine k_block ?_ | refine s_move ?_ | refine s_assign ?_ | refine s_add1 ?_))
      exact ⟨⟨j + 1, v', R', 0⟩, (Knows.spec (by repeat (first | exact trivial | refine ⟨rfl, ?_⟩))), (by repeat (first | exact SubH.nilR _ | refine SubH.pick (by repeat (first | exact HTake.here | apply HTake.there)) ?_)), ⟨by simp only; omega, by simp only; rw [hsn, e1, ← List.append_assoc]; exact h9⟩, by simp only; omega⟩
  · have : j = s.length := by omega
    subst this
    rw [List.take_length] at x2
    (repeat' (first | refine k_seq ?_ | refine k_region ?_ | refine k_nil ?_ | refine k_then ?_ | refine k_false ?_ | refine k_exit ?_ | refine k_exit_then ?_ | refine k_hit ?_ | refine k_nogo ?_ | refine s_move ?_ | refine s_lss_f ?_ | refine s_lens ?_))
    exact e_norm _ ⟨rfl, v, R, lr, x2, rfl⟩ (by repeat (first | exact SubH.nilR _ | refine SubH.pick (by repeat (first | exact HTake.here | apply HTake.there)) ?_))
end Go.Proofs

namespace Go.Proofs
open Go Go.Eng
set_option maxRecDepth 20000
set_option maxHeartbeats 4000000

instance arrOf2 : UArr Tryz.prog 261 2 9 := ⟨Tryz.underlying261⟩
instance arrOf12 : UArr Tryz.prog 262 12 261 := ⟨Tryz.underlying262⟩

/-- The table of the entities: a variable of the package, whose cells are texts. -/
abbrev ent (T : Nat) (es : List Value) : Blk := [(1, cellsOf es T)]
def EntOK (es : List Value) : Prop := ∀ k, k < 24 → ∃ s, es[k]? = some (str s) ∧ s ≠ [] ∧ s.length ≤ 8

theorem htmlEntity_tr (T : Nat) (es : List Value) (hE : EntOK es) (l : List UInt8) :
    Tr Tryz.prog 106 [str l] [ent T es] fun u K => (∃ s ok, u = .tuple #[str s, .bool ok] ∧ s.length ≤ 8 ∧ (ok = true → s ≠ [])) ∧ K = [ent T es] := by
  refine Tr.start (n := 19) (rs := [.tmp 2, .tmp 3]) rfl rfl rfl rfl fun B => ?_
  (repeat' (first | refine k_seq ?_ | refine k_region ?_ | refine k_nil ?_ | refine k_then ?_ | refine k_blk ?_ | refine s_assign ?_))
  refine k_loop (fun k : Nat => [(0, str l), (4, inat k)]) (fun _ => [ent T es]) (fun k => k ≤ 12) (fun k => 12 - k) 0 (by omega) (Knows.spec (by repeat (first | exact trivial | refine ⟨rfl, ?_⟩))) (by repeat (first | exact SubH.nilR _ | refine SubH.pick (by repeat (first | exact HTake.here | apply HTake.there)) ?_)) fun k hk => ?_
  by_cases hlt : k < 12
  · obtain ⟨s1, e1, _, _⟩ := hE (0 + k * 2 + 0 * 1) (by omega)
    obtain ⟨s2, e2, n2, m2⟩ := hE (0 + k * 2 + 1 * 1) (by omega)
    by_cases h : s1 = l
    · (repeat' (first | refine s_idxarr ?_ | refine s_idxarr (i := 0) ?_ | refine s_idxarr (i := 1) ?_ | refine s_load (hc := e1) ?_ | refine s_load (hc := e2) ?_ | refine k_seq ?_ | refine k_region ?_ | refine k_nil ?_ | refine k_then ?_ | refine k_true ?_ | refine k_blk ?_ | refine k_skip ?_ | refine k_ret ?_ | refine k_ret_then ?_ | refine k_ret_block ?_ | refine s_move ?_ | refine s_assign ?_ | refine s_lss_t ?_ | refine s_eqs_t ?_))
      exact e_ret _ ⟨⟨s2, true, rfl, m2, fun _ => n2⟩, rfl⟩ (by repeat (first | exact SubH.nilR _ | refine SubH.pick (by repeat (first | exact HTake.here | apply HTake.there)) ?_))
    · (repeat' (first | refine s_idxarr ?_ | refine s_idxarr (i := 0) ?_ | refine s_load (hc := e1) ?_ | refine k_seq ?_ | refine k_region ?_ | refine k_nil ?_ | refine k_then ?_ | refine k_true ?_ | refine k_false ?_ | refine k_blk ?_ | refine k_skip ?_ | refine k_block ?_ | refine s_move ?_ | refine s_assign ?_ | refine s_add1 ?_ | refine s_lss_t ?_ | refine s_eqs_f ?_))
      exact ⟨k + 1, (Knows.spec (by repeat (first | exact trivial | refine ⟨rfl, ?_⟩))), (by repeat (first | exact SubH.nilR _ | refine SubH.pick (by repeat (first | exact HTake.here | apply HTake.there)) ?_)), by omega, by omega⟩
  · have : k = 12 := by omega
    subst this
    (repeat' (first | refine k_seq ?_ | refine k_region ?_ | refine k_nil ?_ | refine k_then ?_ | refine k_false ?_ | refine k_exit ?_ | refine k_exit_then ?_ | refine k_hit ?_ | refine k_ret ?_ | refine s_move ?_ | refine s_assign ?_ | refine s_lss_f ?_))
    exact e_ret _ ⟨⟨[], false, rfl, by simp, fun h => (by cases h)⟩, rfl⟩ (by repeat (first | exact SubH.nilR _ | refine SubH.pick (by repeat (first | exact HTake.here | apply HTake.there)) ?_))

/-! strings.Builder -/
abbrev bldb (b : Nat) (p v : Value) : Blk := [(b, cellsOf [p, v] 52)]
abbrev Bys (v : Value) (l : List UInt8) (R : Blk) : Prop := Own 5 1 v l.length (Lib.byteCells l) R
theorem Bys.app {v : Value} {l s : List UInt8} {R : Blk} (h : Own 5 1 v (l.length + s.length) (Lib.byteCells l ++ Lib.byteCells s) R) : Bys v (l ++ s) R := by
  have e1 : Lib.byteCells (l ++ s) = Lib.byteCells l ++ Lib.byteCells s := by simp [Lib.byteCells]
  unfold Bys
  rw [e1, List.length_append]; exact h

theorem copyCheck_used (b : Nat) (v : Value) : TrD Tryz.prog 41 [lp b] [bldb b (lp b) v] unit [bldb b (lp b) v] := by
  refine Tr.start (n := 20) (rs := []) rfl rfl rfl rfl fun B => ?_
  (repeat' (first | refine k_seq ?_ | refine k_region ?_ | refine k_nil ?_ | refine k_then ?_ | refine k_false ?_ | refine s_move ?_ | refine s_load ?_ | refine s_field ?_ | refine s_nilp ?_ | refine s_eqp1 ?_))
  refine Ops.pure (.bool false) (p_ne (u := lp b) (v := lp b) (r := false) (by rfl) (by rfl) (by first | rfl | kernel_rfl) (fun w => Lib.run_neq_ptr_same (P := Tryz.prog) w ⟨b, 0, none⟩ Tryz.underlying50 (show (Tryz.prog).info? 52 = some Tryz.t52 by kernel_rfl))) (by rfl) ?_
  (repeat' (first | refine k_nil ?_ | refine k_then ?_ | refine k_false ?_ | refine k_skip ?_))
  exact e_norm _ ⟨rfl, rfl⟩ (by repeat (first | exact SubH.nilR _ | refine SubH.pick (by repeat (first | exact HTake.here | apply HTake.there)) ?_))
theorem copyCheck_fresh (b : Nat) (v : Value) : TrD Tryz.prog 41 [lp b] [bldb b (.pointer none) v] unit [bldb b (lp b) v] := by
  refine Tr.start (n := 20) (rs := []) rfl rfl rfl rfl fun B => ?_
  (repeat' (first | refine k_seq ?_ | refine k_region ?_ | refine k_nil ?_ | refine k_then ?_ | refine k_true ?_ | refine s_move ?_ | refine s_load ?_ | refine s_field ?_ | refine s_nilp ?_ | refine s_eqp0 ?_))
  refine Ops.pure _ (p_tounsafe (b := b) (off := 0) (cs := [.pointer none, v]) (T := 52) (j := Tryz.t52) Tryz.underlying50 Tryz.underlying106 (by kernel_rfl) (by decide) (by rfl) (by repeat (first | exact HMem.here | apply HMem.skip | apply HMem.there)) (by simp)) (by rfl) ?_
  refine Ops.pure _ (p_extern (v := lp b) (r := lp b) (by rfl) (fun w => by kernel_rfl)) (by rfl) ?_
  refine Ops.pure _ (p_fromunsafe (b := b) (off := 0) (cs := [.pointer none, v]) (T := 52) (j := Tryz.t52) Tryz.underlying106 Tryz.underlying50 (by kernel_rfl) (by rfl) (by repeat (first | exact HMem.here | apply HMem.skip | apply HMem.there)) (by kernel_rfl)) (by rfl) ?_
  (repeat' (first | refine k_nil ?_ | refine s_field ?_ | refine s_nilp ?_ | refine s_store ?_))
  exact e_norm _ ⟨rfl, rfl⟩ (by repeat (first | exact SubH.nilR _ | refine SubH.pick (by repeat (first | exact HTake.here | apply HTake.there)) ?_))
theorem copyCheck_tr (b : Nat) (p v : Value) (hp : p = .pointer none ∨ p = lp b) : TrD Tryz.prog 41 [lp b] [bldb b p v] unit [bldb b (lp b) v] := by
  rcases hp with rfl | rfl
  · exact copyCheck_fresh b v
  · exact copyCheck_used b v

theorem bldByte_tr (b : Nat) (p v : Value) (l : List UInt8) (R : Blk) (c : UInt8) (hp : p = .pointer none ∨ p = lp b) (hR : Bys v l R) (hl : l.length ≤ 10000000) :
    Tr Tryz.prog 162 [lp b, .int .u8 c.toNat] [bldb b p v, R] fun u K => u = .nilIface ∧ ∃ v' R', Bys v' (l ++ [c]) R' ∧ K = [bldb b (lp b) v', R'] := by
  refine Tr.start (n := 17) (rs := [.tmp 4]) rfl rfl rfl rfl fun B => ?_
  (repeat' (first | refine s_callD (copyCheck_tr b p v hp) ?_ | refine k_seq ?_ | refine k_region ?_ | refine k_nil ?_ | refine k_then ?_ | refine s_move ?_ | refine s_assign ?_ | refine s_load ?_ | refine s_field ?_ | refine s_nilp ?_ | refine s_bsl1 (fun _ => ?_)))
  refine s_app hR (by omega) (fun v2 R2 h2 => ?_)
  have h2' : Bys v2 (l ++ [c]) R2 := Bys.app h2
  obtain ⟨g2, cap2, cur2, rfl, rfl, _⟩ := h2.pos
  (repeat' (first | refine k_seq ?_ | refine k_region ?_ | refine k_nil ?_ | refine k_then ?_ | refine k_ret ?_ | refine s_assign ?_ | refine s_field ?_ | refine s_nilp ?_ | refine s_store ?_))
  exact e_ret _ ⟨rfl, _, _, h2', rfl⟩ (by repeat (first | exact SubH.nilR _ | refine SubH.pick (by repeat (first | exact HTake.here | apply HTake.there)) ?_))

theorem bldStr_tr (b : Nat) (p v : Value) (l : List UInt8) (R : Blk) (s : List UInt8) (hp : p = .pointer none ∨ p = lp b) (hR : Bys v l R) (hs : s ≠ []) (hl : l.length + s.length ≤ 100000000) :
    Tr Tryz.prog 29 [lp b, str s] [bldb b p v, R] fun u K => u = .tuple #[inat s.length, .nilIface] ∧ ∃ v' R', Bys v' (l ++ s) R' ∧ K = [bldb b (lp b) v', R'] := by
  have hs1 : 1 ≤ s.length := by cases s with | nil => exact absurd rfl hs | cons _ _ => simp
  refine Tr.start (n := 19) (rs := [.tmp 4, .tmp 5]) rfl rfl rfl rfl fun B => ?_
  (repeat' (first | refine s_callD (copyCheck_tr b p v hp) ?_ | refine k_seq ?_ | refine k_region ?_ | refine k_nil ?_ | refine k_then ?_ | refine s_move ?_ | refine s_assign ?_ | refine s_load ?_ | refine s_field ?_ | refine s_nilp ?_))
  refine s_appstr hR hs (by omega) (fun v2 R2 h2 => ?_)
  have h2' : Bys v2 (l ++ s) R2 := Bys.app h2
  rw [show l.length + s.length = l.length + s.length - 1 + 1 by omega] at h2
  obtain ⟨g2, cap2, cur2, rfl, rfl, _⟩ := h2.pos
  (repeat' (first | refine k_seq ?_ | refine k_region ?_ | refine k_nil ?_ | refine k_then ?_ | refine k_ret ?_ | refine s_move ?_ | refine s_assign ?_ | refine s_field ?_ | refine s_nilp ?_ | refine s_lens ?_ | refine s_store ?_))
  exact e_ret _ ⟨rfl, _, _, h2', rfl⟩ (by repeat (first | exact SubH.nilR _ | refine SubH.pick (by repeat (first | exact HTake.here | apply HTake.there)) ?_))

theorem bldString_tr (b : Nat) (p v : Value) (l : List UInt8) (R : Blk) (hR : Bys v l R) (hne : l ≠ []) (hl : l.length ≤ 100000000) :
    Tr Tryz.prog 31 [lp b] [bldb b p v, R] fun u K => u = str l ∧ K = [] := by
  have hl1 : 1 ≤ l.length := by cases l with | nil => exact absurd rfl hne | cons _ _ => simp
  have hx' : Own 5 1 v (l.length - 1 + 1) (Lib.byteCells l) R := by rw [show l.length - 1 + 1 = l.length by omega]; exact hR
  obtain ⟨g, cap, cur, rfl, rfl, k1, k2, k3, k4⟩ := hx'.pos
  rw [show l.length - 1 + 1 = l.length by omega, Nat.mul_one] at k4
  rw [show l.length - 1 + 1 = l.length by omega]
  refine Tr.start (n := 14) (rs := [.tmp 2]) rfl rfl rfl rfl fun B => ?_
  (repeat' (first | refine Wp.draw_tail (id := 1) 10 Mixed.out (by kernel_rfl) ?_ | refine OpsS.pure _ (p_usd (by rfl) (by omega)) (by rfl) ?_ | refine k_seq ?_ | refine k_region ?_ | refine k_nil ?_ | refine k_then ?_ | refine s_assign ?_ | refine u_nil ?_ | refine u_move ?_ | refine u_load ?_ | refine u_field ?_ | refine u_nilp ?_ | refine u_len ?_))
  refine s_ustr (g := g) (cur := cur) (e := 5) (l := l) Tryz.underlying78 (by kernel_rfl) hne (by omega) (by omega) k4 ?_
  (repeat' (first | refine k_nil ?_ | refine k_then ?_ | refine k_ret ?_ | refine s_assign ?_))
  exact e_ret [] ⟨rfl, rfl⟩ (by repeat (first | exact SubH.nilR _ | refine SubH.pick (by repeat (first | exact HTake.here | apply HTake.there)) ?_))
theorem bldString_nil (b : Nat) (p : Value) :
    Tr Tryz.prog 31 [lp b] [bldb b p (.slice none 0 0), []] fun u K => u = str [] ∧ K = [] := by
  refine Tr.start (n := 14) (rs := [.tmp 2]) rfl rfl rfl rfl fun B => ?_
  (repeat' (first | refine Wp.draw_tail (id := 1) 10 Mixed.out (by kernel_rfl) ?_ | refine OpsS.pure _ (p_usd_nil (by rfl)) (by rfl) ?_ | refine k_seq ?_ | refine k_region ?_ | refine k_nil ?_ | refine k_then ?_ | refine s_assign ?_ | refine u_nil ?_ | refine u_move ?_ | refine u_load ?_ | refine u_field ?_ | refine u_nilp ?_ | refine u_len ?_))
  refine Ops.pure _ (p_ustr_nil (by rfl) (by rfl)) (by rfl) ?_
  (repeat' (first | refine k_nil ?_ | refine k_then ?_ | refine k_ret ?_ | refine s_assign ?_))
  exact e_ret [] ⟨rfl, rfl⟩ (by repeat (first | exact SubH.nilR _ | refine SubH.pick (by repeat (first | exact HTake.here | apply HTake.there)) ?_))

structure UB where
  j : Nat
  p : Value
  v : Value
  R : Blk
  o : List UInt8
end Go.Proofs
