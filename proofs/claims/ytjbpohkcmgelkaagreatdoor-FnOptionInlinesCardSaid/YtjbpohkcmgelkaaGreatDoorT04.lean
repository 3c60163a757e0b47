/- A bytes.Buffer's writers and its String. Conditions: lengths below a bound. The HTML escaper's WriteString (over bytes.Buffer alone). Conditions: a bound on the length. htmlEntity over the table of entities, and strings.Builder's contracts. Conditions: the table holds texts of 1 to 8 bytes; bounds on the length. Lines of a text, runs of tildes, and texts between fences: plain facts on lists. No conditions beyond those that each states. Contract of the unescaper's Replace: it gives some text, and nothing for nothing. Conditions: the table of entities, a bound on the length. Contract of line.trimFence: what it takes for a fence. Conditions: no tab in the line, bounds on the length. newFence at a line of tildes, the fence's extend at a line between and at the closing line, and its build. Conditions: FLine, bounds. WriteString of any text, Replace of the escaper, and PrintHTML of a block of code. Conditions: bounds on the length. -/
import Derived.Test.YtjbpohkcmgelkaaGreatDoorT01
import Derived.Test.YtjbpohkcmgelkaaGreatDoorT03
import Derived.Test.YtjbpohkcmgelkaaGreatDoorT02
import Derived.Test.YtjbpohkcmgelkaaGreatDoorEngB
namespace Go.Proofs
open Go Go.Eng Go.RowKit
set_option maxRecDepth 20000
set_option maxHeartbeats 4000000

abbrev bufb (b : Nat) (v : Value) (lr : Int) : Blk := [(b, cellsOf [v, .int .i64 0, .int .i8 lr] 81)]
/-- What a buffer holds: nothing yet, or bytes at the head of a row. -/
def BRow (v : Value) (l : List UInt8) (R : Blk) : Prop := (l = [] ∧ v = .slice none 0 0 ∧ R = []) ∨
  (l ≠ [] ∧ ∃ g cap cur, v = .slice (some ⟨g, 0, none⟩) l.length cap ∧ R = [(g, cellsOf cur 5)] ∧ l.length ≤ cap ∧ cap ≤ 9223372036854775807 ∧ cur.length = cap ∧ cur.take l.length = Lib.byteCells l)
theorem BRow.nil : BRow (.slice none 0 0) [] [] := .inl ⟨rfl, rfl, rfl⟩
theorem BRow.wrote {g cap : Nat} {cur : List Value} {l s : List UInt8} (hs : s ≠ []) (h1 : l.length + s.length ≤ cap) (h2 : cap ≤ 9223372036854775807) (h3 : cur.length = cap) (h4 : cur.take l.length = Lib.byteCells l) :
    BRow (.slice (some ⟨g, 0, none⟩) (l.length + s.length) cap) (l ++ s) [(g, cellsOf (cur.take l.length ++ Lib.byteCells s ++ cur.drop (l.length + s.length)) 5)] := by
  refine .inr ⟨by simp [hs], g, cap, _, by rw [List.length_append], rfl, by rw [List.length_append]; exact h1, h2, ?_, ?_⟩
  · simp only [List.length_append, List.length_take, List.length_drop, Lib.byteCells_length]; omega
  · rw [h4]
    have e1 : Lib.byteCells (l ++ s) = Lib.byteCells l ++ Lib.byteCells s := by simp [Lib.byteCells]
    rw [e1, List.take_left' (by simp [Lib.byteCells_length])]

theorem byte_ones (l : List UInt8) : ∀ v ∈ Lib.byteCells l, v.oneCell' = true := by
  intro v hv
  simp only [Lib.byteCells, List.mem_map] at hv
  obtain ⟨c, _, rfl⟩ := hv
  rfl

/-- growSlice of a row. -/
theorem growSlice_tr (g l c n : Nat) (cur : List Value) (hcs : cur.length = c) (hlc : l ≤ c) (hn : 1 ≤ n) (hlim : l + n ≤ 140737488355328) (hc2 : c ≤ 140737488355328) (h1 : ∀ v ∈ cur.take l, v.oneCell' = true) :
    Tr Tryz.prog 250 [.slice (some ⟨g, 0, none⟩) l c, inat n] [[(g, cellsOf cur 5)]] fun u K => ∃ g2 cap2 cur2, u = .slice (some ⟨g2, 0, none⟩) l cap2 ∧ cur2.length = cap2 ∧ cur2.take l = cur.take l ∧ l + n ≤ cap2 ∧ cap2 ≤ 9223372036854775807 ∧ K = [[(g2, cellsOf cur2 5)], [(g, cellsOf cur 5)]] := by
  refine Tr.of_below fun B w hw => ?_
  have hg : w.heap[g]? = some (.cells cur.toArray 5 (0, 0)) := hw.has g _ (by simp)
  refine (growSlice_row g l c n cur.toArray w hg (by simpa using hcs) hlc hn hlim hc2 (by simpa using h1) _ rfl).mono ?_
  rintro e w' ⟨cap2, cells, rfl, h2, h3, h4, h5, h6, h7⟩
  exact ⟨_, cells, _, rfl, h2, h7, w.heap.size, cap2, cells.toList, rfl, by simpa using h3, by simpa using h4, h5, h6, rfl⟩

theorem tryGrow_yes (b n l cap : Nat) (base : Option Addr) (lr : Int) (h : l + n ≤ cap) (hc : cap ≤ 9223372036854775807) :
    TrD Tryz.prog 246 [lp b, inat n] [bufb b (.slice base l cap) lr] (.tuple #[inat l, .bool true]) [bufb b (.slice base (l + n) cap) lr] := by
  refine Tr.start (n := 33) (rs := [.tmp 4, .tmp 5]) rfl rfl rfl rfl fun B => ?_
  (repeat' (first | refine zdu ?_ | refine z7 ?_ | refine z6 ?_ | refine z2 ?_ | refine z1 ?_ | refine zc ?_ | refine ze ?_ | refine zx ?_ | refine z8 ?_ | refine za ?_ | refine zn ?_ | refine zp ?_ | refine zq ?_ | refine zb1 ?_ | refine zd6 ?_ | refine zb8 ?_ | refine zah ?_ | refine zch ?_ | refine za5 ?_))
  exact e_ret _ ⟨rfl, rfl⟩ sA
theorem tryGrow_no (b n l cap : Nat) (base : Option Addr) (lr : Int) (hl : l ≤ cap) (h : ¬ l + n ≤ cap) (hc : cap ≤ 9223372036854775807) :
    TrD Tryz.prog 246 [lp b, inat n] [bufb b (.slice base l cap) lr] (.tuple #[inat 0, .bool false]) [bufb b (.slice base l cap) lr] := by
  refine Tr.start (n := 33) (rs := [.tmp 4, .tmp 5]) rfl rfl rfl rfl fun B => ?_
  (repeat' (first | refine zdu ?_ | refine z7 ?_ | refine z6 ?_ | refine z2 ?_ | refine z1 ?_ | refine zb ?_ | refine zd ?_ | refine ze ?_ | refine z8 ?_ | refine za ?_ | refine zn ?_ | refine zp ?_ | refine zq ?_ | refine zd6 ?_ | refine zbt ?_ | refine zah ?_))
  exact e_ret _ ⟨rfl, rfl⟩ sA
theorem bufLen_tr (b l cap : Nat) (base : Option Addr) (lr : Int) (hc : l ≤ 9223372036854775807) : TrD Tryz.prog 249 [lp b] [bufb b (.slice base l cap) lr] (inat l) [bufb b (.slice base l cap) lr] := by
  refine Tr.start (n := 13) (rs := [.tmp 2]) rfl rfl rfl rfl fun B => ?_
  (repeat' (first | refine Wp.draw_all (id := 1) Mixed.out (by kernel_rfl) ?_ | refine z7 ?_ | refine z6 ?_ | refine z2 ?_ | refine z1 ?_ | refine ze ?_ | refine za ?_ | refine za8 ?_ | refine za7 ?_ | refine zbg ?_ | refine za3 ?_ | refine zae ?_ | refine zad ?_ | refine zb5 ?_ | refine zdr ?_))
  rw [Int.sub_zero]
  exact e_ret _ ⟨rfl, rfl⟩ sA

theorem grow_nil (b n : Nat) (lr : Int) (h1 : 1 ≤ n) (hn : n ≤ 64) :
    Tr Tryz.prog 247 [lp b, inat n] [bufb b (.slice none 0 0) lr] fun u K => u = inat 0 ∧ ∃ g, K = [bufb b (.slice (some ⟨g, 0, none⟩) n 64) lr, [(g, cellsOf (List.replicate 64 (.int .u8 0)) 5)]] := by
  refine Tr.start (n := 110) (rs := [.tmp 4]) rfl rfl rfl rfl fun B => ?_
  (repeat' (first | refine zfh ?_ | refine za9 (bufLen_tr b 0 0 none lr (by omega)) ?_ | refine za9 (tryGrow_no b n 0 0 none lr (by omega) (by omega) (by omega)) ?_ | refine z7 ?_ | refine z6 ?_ | refine z2 ?_ | refine z1 ?_ | refine zc ?_ | refine zb ?_ | refine zd ?_ | refine zh ?_ | refine z8 ?_ | refine za ?_ | refine zn ?_ | refine zp ?_ | refine zq ?_ | refine zb8 ?_ | refine zt ?_ | refine zb0 ?_ | refine zj ?_ | refine za0 ?_))
  refine zfc (m := n) (c := 64) (by omega) (by omega) (by omega) (fun g => ?_)
  (repeat' (first | refine z7 ?_ | refine z6 ?_ | refine z2 ?_ | refine z1 ?_ | refine ze ?_ | refine zx ?_ | refine za ?_ | refine zp ?_ | refine zq ?_ | refine za5 ?_))
  exact e_ret _ ⟨rfl, g, rfl⟩ sA

theorem grow_row (b g l c n : Nat) (cur : List Value) (lr : Int) (hcs : cur.length = c) (hl0 : 1 ≤ l) (hlc : l ≤ c) (hn : 1 ≤ n) (hno : ¬ l + n ≤ c) (hlim : l + n ≤ 140737488355328) (h1 : ∀ v ∈ cur.take l, v.oneCell' = true) :
    Tr Tryz.prog 247 [lp b, inat n] [bufb b (.slice (some ⟨g, 0, none⟩) l c) lr, [(g, cellsOf cur 5)]] fun u K => u = inat l ∧ ∃ g2 cap2 cur2, cur2.length = cap2 ∧ cur2.take l = cur.take l ∧ l + n ≤ cap2 ∧ cap2 ≤ 9223372036854775807 ∧
      K = [bufb b (.slice (some ⟨g2, 0, none⟩) (l + n) cap2) lr, [(g2, cellsOf cur2 5)]] := by
  refine Tr.start (n := 110) (rs := [.tmp 4]) rfl rfl rfl rfl fun B => ?_
  (repeat' (first | refine zgk ?_ | refine za9 (bufLen_tr b l c (some ⟨g, 0, none⟩) lr (by omega)) ?_ | refine za9 (tryGrow_no b n l c (some ⟨g, 0, none⟩) lr hlc hno (by omega)) ?_ | refine zdu ?_ | refine zfr ?_ | refine z7 ?_ | refine z6 ?_ | refine z2 ?_ | refine z1 ?_ | refine zb ?_ | refine zd ?_ | refine za2 ?_ | refine z8 ?_ | refine za ?_ | refine zn ?_ | refine zp ?_ | refine zq ?_ | refine zbt ?_ | refine zat ?_ | refine zr ?_ | refine zk ?_ | refine za0 ?_ | refine zd9 ?_))
  refine Wp.draw_till (id := 15) [bufb b (.slice (some ⟨g, 0, none⟩) l c) lr] 19 20 Mixed.out sA rfl ?_
  refine kF 0 ?_
  refine kF 1 ?_
  refine kF 2 ?_
  refine kF 3 ?_
  refine OpsK.firstL 4 [] _ (by rfl) (by kernel_rfl) (by kernel_rfl) rfl (by kernel_rfl) (by kernel_rfl) rfl (by first | exact zbr rfl | exact zbj rfl | exact zbe rfl rfl | exact zbp rfl | exact zbo rfl | exact zar rfl (by repeat (first | exact HMem.here | apply HMem.skip | apply HMem.there)) rfl | exact zbs rfl (by repeat (first | exact HMem.here | apply HMem.skip | apply HMem.there)) (by repeat constructor) | exact zbk rfl | exact zbm rfl | exact zbi rfl rfl (by omega) | exact zbb rfl rfl rfl (by omega) (by omega) | exact zbu rfl | exact zbv rfl | exact zbn rfl (by repeat' (first | exact BFill.nil | refine' BFill.one (by rfl) (by rfl) (by repeat constructor) ?_ | refine' BFill.agg (by rfl) (by rfl) (by repeat constructor) ?_))) ?_
  refine kF 5 ?_
  refine kF 6 ?_
  refine kF 7 ?_
  refine OpsK.firstL 8 [] _ (by rfl) (by kernel_rfl) (by kernel_rfl) rfl (by kernel_rfl) (by kernel_rfl) rfl (by first | exact zbr rfl | exact zbj rfl | exact zbe rfl rfl | exact zbp rfl | exact zbo rfl | exact zar rfl (by repeat (first | exact HMem.here | apply HMem.skip | apply HMem.there)) rfl | exact zbs rfl (by repeat (first | exact HMem.here | apply HMem.skip | apply HMem.there)) (by repeat constructor) | exact zbk rfl | exact zbm rfl | exact zbi rfl rfl (by omega) | exact zbb rfl rfl rfl (by omega) (by omega) | exact zbu rfl | exact zbv rfl | exact zbn rfl (by repeat' (first | exact BFill.nil | refine' BFill.one (by rfl) (by rfl) (by repeat constructor) ?_ | refine' BFill.agg (by rfl) (by rfl) (by repeat constructor) ?_))) ?_
  refine OpsK.first 9 _ (by rfl) (by kernel_rfl) rfl (by kernel_rfl) (by kernel_rfl) rfl (zdw (a := 0) (sz := 1) USlice.out Siz.out rfl rfl (Nat.zero_le _) (by omega)) ?_
  refine kF 10 ?_
  refine kF 11 ?_
  refine kF 12 ?_
  refine OpsK.firstL 13 [] _ (by rfl) (by kernel_rfl) (by kernel_rfl) rfl (by kernel_rfl) (by kernel_rfl) rfl (by first | exact zbr rfl | exact zbj rfl | exact zbe rfl rfl | exact zbp rfl | exact zbo rfl | exact zar rfl (by repeat (first | exact HMem.here | apply HMem.skip | apply HMem.there)) rfl | exact zbs rfl (by repeat (first | exact HMem.here | apply HMem.skip | apply HMem.there)) (by repeat constructor) | exact zbk rfl | exact zbm rfl | exact zbi rfl rfl (by omega) | exact zbb rfl rfl rfl (by omega) (by omega) | exact zbu rfl | exact zbv rfl | exact zbn rfl (by repeat' (first | exact BFill.nil | refine' BFill.one (by rfl) (by rfl) (by repeat constructor) ?_ | refine' BFill.agg (by rfl) (by rfl) (by repeat constructor) ?_))) ?_
  refine kF 14 ?_
  refine OpsK.first 15 _ (by rfl) (by kernel_rfl) rfl (by kernel_rfl) (by kernel_rfl) rfl (zco (a := 0) (b := n) (c := n) rfl rfl (by omega) (by omega)) ?_
  refine kO 16 ?_
  refine za1 (growSlice_tr g l c n cur hcs hlc hn hlim (by omega) h1) (fun u K hR => ?_)
  obtain ⟨g2, cap2, cur2, rfl, e1, e2, e3, e4, rfl⟩ := hR
  (repeat' (first | refine z2 ?_ | refine z1 ?_))
  refine ⟨fun _ => sA, ?_⟩
  refine kF 17 ?_
  refine kF 18 ?_
  refine kO 19 ?_
  (repeat' (first | refine z2 ?_ | refine z1 ?_ | refine za5 ?_))
  refine ⟨(fun h0 => Bool.noConfusion (show true = false from h0)), ?_⟩
  refine OpsK.nil (by kernel_rfl) ?_
  (repeat' (first | refine z7 ?_ | refine z6 ?_ | refine z2 ?_ | refine z1 ?_ | refine ze ?_ | refine z8 ?_ | refine za ?_ | refine zn ?_ | refine zp ?_ | refine zq ?_ | refine zb1 ?_ | refine zch ?_ | refine za5 ?_))
  exact e_ret _ ⟨rfl, g2, cap2, cur2, e1, e2, e3, e4, rfl⟩ sA

/-- WriteString of a text that is not empty, and no longer than 64. -/
theorem writeString_tr (b : Nat) (v : Value) (l : List UInt8) (R : Blk) (lr : Int) (s : List UInt8) (hR : BRow v l R) (hs : s ≠ []) (h64 : s.length ≤ 64) (hlim : l.length + s.length ≤ 1000000000) :
    Tr Tryz.prog 242 [lp b, str s] [bufb b v lr, R] fun u K => u = .tuple #[inat s.length, .nilIface] ∧ ∃ v' R', BRow v' (l ++ s) R' ∧ K = [bufb b v' 0, R'] := by
  have hs1 : 1 ≤ s.length := by cases s with | nil => exact absurd rfl hs | cons _ _ => simp
  rcases hR with ⟨rfl, rfl, rfl⟩ | ⟨hl, g, cap, cur, rfl, rfl, k1, k2, k3, k4⟩
  · refine Tr.start (n := 32) (rs := [.tmp 4, .tmp 5]) rfl rfl rfl rfl fun B => ?_
    (repeat' (first | refine za9 (tryGrow_no b s.length 0 0 none 0 (by omega) (by omega) (by omega)) ?_ | refine z7 ?_ | refine z6 ?_ | refine z2 ?_ | refine z1 ?_ | refine zc ?_ | refine z8 ?_ | refine za ?_ | refine zp ?_ | refine zq ?_ | refine zg ?_ | refine za0 ?_ | refine zam ?_ | refine za5 ?_))
    refine za1 (grow_nil b s.length 0 hs1 h64) (fun u K hR => ?_)
    obtain ⟨rfl, g, rfl⟩ := hR
    (repeat' (first | refine z7 ?_ | refine z6 ?_ | refine z2 ?_ | refine z1 ?_ | refine z8 ?_ | refine za ?_ | refine zn ?_ | refine zp ?_ | refine zq ?_ | refine zcq ?_))
    refine zcr (g := g) (off := 0) (m := s.length - 0) (l := s) (cur := List.replicate 64 (.int .u8 0)) (by kernel_rfl) (by omega) (by simp; omega) ?_
    (repeat' (first | refine z2 ?_ | refine z1 ?_ | refine ze ?_ | refine za ?_))
    have hw := BRow.wrote (g := g) (cap := 64) (cur := List.replicate 64 (.int .u8 0)) (l := []) hs (by simp; omega) (by omega) (by simp) (by simp [Lib.byteCells])
    simp only [List.length_nil, Nat.zero_add] at hw
    refine e_ret _ ⟨rfl, _, _, hw, rfl⟩ ?_
    simp only [Nat.zero_add]
    exact sA
  · have hl1 : 1 ≤ l.length := by cases l with | nil => exact absurd rfl hl | cons _ _ => simp
    by_cases hroom : l.length + s.length ≤ cap
    · have hw := BRow.wrote (g := g) hs hroom k2 k3 k4
      refine Tr.start (n := 32) (rs := [.tmp 4, .tmp 5]) rfl rfl rfl rfl fun B => ?_
      (repeat' (first | refine za9 (tryGrow_yes b s.length l.length cap (some ⟨g, 0, none⟩) 0 hroom k2) ?_ | refine z7 ?_ | refine z6 ?_ | refine z2 ?_ | refine z1 ?_ | refine zb ?_ | refine zd ?_ | refine z8 ?_ | refine za ?_ | refine zn ?_ | refine zp ?_ | refine zq ?_ | refine zg ?_ | refine za0 ?_ | refine zcq ?_ | refine zaq ?_ | refine za5 ?_))
      refine zcr (g := g) (off := 0 + l.length * 1) (m := l.length + s.length - l.length) (l := s) (cur := cur) (by kernel_rfl) (by omega) (by omega) ?_
      (repeat' (first | refine z2 ?_ | refine z1 ?_ | refine ze ?_ | refine za ?_))
      refine e_ret _ ⟨rfl, _, _, hw, rfl⟩ ?_
      simp only [Nat.zero_add, Nat.mul_one]
      exact sA
    · refine Tr.start (n := 32) (rs := [.tmp 4, .tmp 5]) rfl rfl rfl rfl fun B => ?_
      (repeat' (first | refine za9 (tryGrow_no b s.length l.length cap (some ⟨g, 0, none⟩) 0 k1 hroom k2) ?_ | refine z7 ?_ | refine z6 ?_ | refine z2 ?_ | refine z1 ?_ | refine zc ?_ | refine z8 ?_ | refine za ?_ | refine zp ?_ | refine zq ?_ | refine zg ?_ | refine za0 ?_ | refine zam ?_ | refine za5 ?_))
      refine za1 (grow_row b g l.length cap s.length cur 0 k3 hl1 k1 hs1 hroom (by omega) (by rw [k4]; exact byte_ones l)) (fun u K hR => ?_)
      obtain ⟨rfl, g2, cap2, cur2, e1, e2, e3, e4, rfl⟩ := hR
      have hw := BRow.wrote (g := g2) hs e3 e4 e1 (e2.trans k4)
      (repeat' (first | refine z7 ?_ | refine z6 ?_ | refine z2 ?_ | refine z1 ?_ | refine z8 ?_ | refine za ?_ | refine zn ?_ | refine zp ?_ | refine zq ?_ | refine zcq ?_))
      refine zcr (g := g2) (off := 0 + l.length * 1) (m := l.length + s.length - l.length) (l := s) (cur := cur2) (by kernel_rfl) (by omega) (by omega) ?_
      (repeat' (first | refine z2 ?_ | refine z1 ?_ | refine ze ?_ | refine za ?_))
      refine e_ret _ ⟨rfl, _, _, hw, rfl⟩ ?_
      simp only [Nat.zero_add, Nat.mul_one]
      exact sA

/-- WriteByte. -/
theorem writeByte_tr (b : Nat) (v : Value) (l : List UInt8) (R : Blk) (lr : Int) (c : UInt8) (hR : BRow v l R) (hlim : l.length + 1 ≤ 1000000000) :
    Tr Tryz.prog 251 [lp b, .int .u8 c.toNat] [bufb b v lr, R] fun u K => u = .nilIface ∧ ∃ v' R', BRow v' (l ++ [c]) R' ∧ K = [bufb b v' 0, R'] := by
  have hset : ∀ (cur : List Value) (m cap : Nat), cur.length = cap → m + 1 ≤ cap → cur.set m (.int .u8 c.toNat) = cur.take m ++ Lib.byteCells [c] ++ cur.drop (m + [c].length) := by
    intro cur m cap h1 h2
    rw [List.set_eq_take_append_cons_drop, if_pos (by omega)]; simp [Lib.byteCells]
  have hs : [c] ≠ [] := by simp
  rcases hR with ⟨rfl, rfl, rfl⟩ | ⟨hl, g, cap, cur, rfl, rfl, k1, k2, k3, k4⟩
  · refine Tr.start (n := 26) (rs := [.tmp 4]) rfl rfl rfl rfl fun B => ?_
    (repeat' (first | refine za9 (tryGrow_no b 1 0 0 none 0 (by omega) (by omega) (by omega)) ?_ | refine z7 ?_ | refine z6 ?_ | refine z2 ?_ | refine z1 ?_ | refine zc ?_ | refine z8 ?_ | refine za ?_ | refine zp ?_ | refine zq ?_ | refine za0 ?_ | refine zam ?_ | refine za5 ?_))
    refine za1 (grow_nil b 1 0 (by omega) (by omega)) (fun u K hR => ?_)
    obtain ⟨rfl, g, rfl⟩ := hR
    (repeat' (first | refine z7 ?_ | refine z6 ?_ | refine z2 ?_ | refine z1 ?_ | refine ze ?_ | refine z8 ?_ | refine za ?_ | refine zn ?_ | refine zp ?_ | refine zq ?_ | refine zal ?_ | refine za5 ?_))
    have hw := BRow.wrote (g := g) (cap := 64) (cur := List.replicate 64 (.int .u8 0)) (l := []) hs (by simp) (by omega) (by simp) (by simp [Lib.byteCells])
    simp only [List.length_nil, Nat.zero_add] at hw
    refine e_ret _ ⟨rfl, _, _, hw, rfl⟩ ?_
    exact sA
  · have hl1 : 1 ≤ l.length := by cases l with | nil => exact absurd rfl hl | cons _ _ => simp
    by_cases hroom : l.length + 1 ≤ cap
    · have hw := BRow.wrote (g := g) (s := [c]) hs hroom k2 k3 k4
      rw [← hset cur l.length cap k3 hroom] at hw
      refine Tr.start (n := 26) (rs := [.tmp 4]) rfl rfl rfl rfl fun B => ?_
      (repeat' (first | refine za9 (tryGrow_yes b 1 l.length cap (some ⟨g, 0, none⟩) 0 hroom k2) ?_ | refine z7 ?_ | refine z6 ?_ | refine z2 ?_ | refine z1 ?_ | refine zb ?_ | refine zd ?_ | refine z8 ?_ | refine za ?_ | refine zn ?_ | refine zp ?_ | refine zq ?_ | refine za0 ?_ | refine zal ?_ | refine zaq ?_ | refine za5 ?_))
      refine zc5 ?_
      (repeat' (first | refine z7 ?_ | refine z6 ?_ | refine z2 ?_ | refine z1 ?_ | refine ze ?_ | refine za ?_))
      simp only [Nat.zero_add, Nat.mul_one]
      refine e_ret _ ⟨rfl, _, _, hw, rfl⟩ ?_
      exact sA
    · refine Tr.start (n := 26) (rs := [.tmp 4]) rfl rfl rfl rfl fun B => ?_
      (repeat' (first | refine za9 (tryGrow_no b 1 l.length cap (some ⟨g, 0, none⟩) 0 k1 hroom k2) ?_ | refine z7 ?_ | refine z6 ?_ | refine z2 ?_ | refine z1 ?_ | refine zc ?_ | refine z8 ?_ | refine za ?_ | refine zp ?_ | refine zq ?_ | refine za0 ?_ | refine zam ?_ | refine za5 ?_))
      refine za1 (grow_row b g l.length cap 1 cur 0 k3 hl1 k1 (by omega) hroom (by omega) (by rw [k4]; exact byte_ones l)) (fun u K hR => ?_)
      obtain ⟨rfl, g2, cap2, cur2, e1, e2, e3, e4, rfl⟩ := hR
      have hw := BRow.wrote (g := g2) (s := [c]) hs e3 e4 e1 (e2.trans k4)
      rw [← hset cur2 l.length cap2 e1 e3] at hw
      (repeat' (first | refine z7 ?_ | refine z6 ?_ | refine z2 ?_ | refine z1 ?_ | refine z8 ?_ | refine za ?_ | refine zn ?_ | refine zp ?_ | refine zq ?_ | refine zal ?_))
      refine zc5 ?_
      (repeat' (first | refine z7 ?_ | refine z6 ?_ | refine z2 ?_ | refine z1 ?_ | refine ze ?_ | refine za ?_))
      simp only [Nat.zero_add, Nat.mul_one]
      refine e_ret _ ⟨rfl, _, _, hw, rfl⟩ ?_
      exact sA

theorem bufString_tr (b : Nat) (v : Value) (l : List UInt8) (R : Blk) (lr : Int) (hR : BRow v l R) (hl0 : l ≠ []) : TrD Tryz.prog 42 [lp b] [bufb b v lr, R] (str l) [bufb b v lr, R] := by
  rcases hR with ⟨rfl, rfl, rfl⟩ | ⟨hl, g, cap, cur, rfl, rfl, k1, k2, k3, k4⟩
  · exact absurd rfl hl0
  · have hl1 : 1 ≤ l.length := by cases l with | nil => exact absurd rfl hl | cons _ _ => simp
    refine Tr.start (n := 15) (rs := [.tmp 2]) rfl rfl rfl rfl fun B => ?_
    (repeat' (first | refine Wp.draw_all (id := 3) Mixed.out (by kernel_rfl) ?_ | refine z7 ?_ | refine z6 ?_ | refine z2 ?_ | refine z1 ?_ | refine zb ?_ | refine zd ?_ | refine z8 ?_ | refine za ?_ | refine zdc ?_ | refine za7 ?_ | refine za3 ?_ | refine zae ?_ | refine zad ?_))
    refine zf2 (a := 0) (m := l.length) (c := cap) (ha := ⟨Nat.zero_le _, by omega⟩) ?_
    refine OpsS.pure _ (ze0 (g := g) (cap := cap) Tryz.underlying22 Tryz.underlying5 Tryz.underlying9 (by rfl) (by repeat (first | exact HMem.here | apply HMem.skip | apply HMem.there)) k4) (by rfl) ?_
    (repeat' (first | refine z2 ?_ | refine z1 ?_ | refine ze ?_ | refine za8 ?_ | refine zbg ?_))
    exact e_ret _ ⟨rfl, rfl⟩ sA
end Go.Proofs


namespace Go.Proofs
open Go Go.Eng
set_option maxRecDepth 20000
set_option maxHeartbeats 4000000

/-- A byte as HTML text. -/
def escB (c : UInt8) : List UInt8 := if c.toNat = 34 then [38, 113, 117, 111, 116, 59] else if c.toNat = 38 then [38, 97, 109, 112, 59] else if c.toNat = 60 then [38, 108, 116, 59] else if c.toNat = 62 then [38, 103, 116, 59] else [c]
abbrev escH (l : List UInt8) : List UInt8 := l.flatMap escB
theorem escB_len (c : UInt8) : (escB c).length ≤ 6 := by
  unfold escB
  by_cases h1 : c.toNat = 34
  · simp [h1]
  by_cases h2 : c.toNat = 38
  · simp [h2]
  by_cases h3 : c.toNat = 60
  · simp [h3]
  by_cases h4 : c.toNat = 62
  · simp [h4]
  simp [h1, h2, h3, h4]
theorem escH_len (l : List UInt8) : (escH l).length ≤ 6 * l.length := by
  induction l with
  | nil => simp
  | cons c l ih => have := escB_len c; simp only [escH, List.flatMap_cons, List.length_append, List.length_cons] at ih ⊢; omega
theorem escH_snoc {s : List UInt8} {j : Nat} {c : UInt8} (h : s[j]? = some c) : escH (s.take (j + 1)) = escH (s.take j) ++ escB c := by
  obtain ⟨h1, h2⟩ := List.getElem?_eq_some_iff.1 h
  rw [List.take_succ_eq_append_getElem h1, h2]; simp [escH]

abbrev escRow (g : Nat) : Blk := [(g, cellsOf [str [34], str [38, 113, 117, 111, 116, 59], str [38], str [38, 97, 109, 112, 59], str [60], str [38, 108, 116, 59], str [62], str [38, 103, 116, 59]] 9)]
theorem htmlEscaper_tr : Tr Tryz.prog 271 [] [] fun u K => ∃ g, u = .slice (some ⟨g, 0, none⟩) 8 8 ∧ K = [escRow g] := by
  refine Tr.start (n := 2) (rs := [.tmp 0]) rfl rfl rfl rfl fun B => ?_
  (repeat' (first | refine z7 ?_ | refine z6 ?_ | refine z2 ?_ | refine z1 ?_ | refine ze ?_ | refine za ?_ | refine zek (fun _ => ?_)))
  rename_i g
  exact e_ret [escRow g] ⟨g, rfl, rfl⟩ sA

structure PW where
  j : Nat
  v : Value
  R : Blk
  lr : Int

theorem pairsWrite_tr (g b : Nat) (v : Value) (l : List UInt8) (R : Blk) (lr : Int) (s : List UInt8) (hR : BRow v l R) (hlim : l.length + 6 * s.length ≤ 1000000) :
    Tr Tryz.prog 248 [.slice (some ⟨g, 0, none⟩) 8 8, lp b, str s] [escRow g, bufb b v lr, R] fun u K => u = unit ∧ ∃ v' R' lr', BRow v' (l ++ escH s) R' ∧ K = [escRow g, bufb b v' lr', R'] := by
  refine Tr.start (n := 41) (rs := []) rfl rfl rfl rfl fun B => ?_
  (repeat' (first | refine z7 ?_ | refine z6 ?_ | refine z2 ?_ | refine z1 ?_ | refine zf ?_ | refine zc9 ?_ | refine zcb ?_ | refine za ?_))
  refine za6 (fun x : PW => [(0, .slice (some ⟨g, 0, none⟩) 8 8), (1, lp b), (2, str s), (6, inat x.j)]) (fun x => [escRow g, bufb b x.v x.lr, x.R])
    (fun x => x.j ≤ s.length ∧ BRow x.v (l ++ escH (s.take x.j)) x.R) (fun x => s.length - x.j) ⟨0, v, R, lr⟩ ⟨Nat.zero_le _, by simpa using hR⟩ kB sA fun x hx => ?_
  obtain ⟨j, v, R, lr⟩ := x
  obtain ⟨x1, x2⟩ := hx
  simp only at x1 x2 ⊢
  have hb : (l ++ escH (s.take j)).length ≤ l.length + 6 * j := by
    have := escH_len (s.take j)
    rw [List.length_append]; rw [List.length_take] at this; omega
  by_cases hj : j < s.length
  · obtain ⟨c, hc⟩ : ∃ c, s[j]? = some c := ⟨_, List.getElem?_eq_getElem hj⟩
    have hsn := escH_snoc hc
    have h34 : ((34 : UInt8).toNat) = 34 := rfl
    have h38 : ((38 : UInt8).toNat) = 38 := rfl
    have h60 : ((60 : UInt8).toNat) = 60 := rfl
    have h62 : ((62 : UInt8).toNat) = 62 := rfl
    (repeat' (first | refine z7 ?_ | refine z6 ?_ | refine z2 ?_ | refine z1 ?_ | refine zc ?_ | refine zf ?_ | refine zd ?_ | refine z8 ?_ | refine za ?_ | refine zm ?_ | refine zg ?_))
    refine za6 (fun k : Nat => [(0, .slice (some ⟨g, 0, none⟩) 8 8), (1, lp b), (2, str s), (6, inat j), (7, inat k)]) (fun _ => [escRow g, bufb b v lr, R])
      (fun k => k = 0 ∨ (k = 2 ∧ ¬ c.toNat = 34) ∨ (k = 4 ∧ ¬ c.toNat = 34 ∧ ¬ c.toNat = 38) ∨ (k = 6 ∧ ¬ c.toNat = 34 ∧ ¬ c.toNat = 38 ∧ ¬ c.toNat = 60) ∨ (k = 8 ∧ ¬ c.toNat = 34 ∧ ¬ c.toNat = 38 ∧ ¬ c.toNat = 60 ∧ ¬ c.toNat = 62)) (fun k => 8 - k) 0 (.inl rfl) kB sA fun k hk => ?_
    have z34 : ([34] : List UInt8)[0]? = some 34 := rfl
    have z38 : ([38] : List UInt8)[0]? = some 38 := rfl
    have z60 : ([60] : List UInt8)[0]? = some 60 := rfl
    have z62 : ([62] : List UInt8)[0]? = some 62 := rfl
    rcases hk with rfl | ⟨rfl, n1⟩ | ⟨rfl, n1, n2⟩ | ⟨rfl, n1, n2, n3⟩ | ⟨rfl, n1, n2, n3, n4⟩
    · by_cases hc0 : c.toNat = 34
      · have e1 : escB c = [38, 113, 117, 111, 116, 59] := by simp [escB, hc0]
        (repeat' (first | refine Wp.draw_all (id := 6) Mixed.out (by kernel_rfl) ?_ | refine z7 ?_ | refine z6 ?_ | refine z2 ?_ | refine z1 ?_ | refine zc ?_ | refine zf ?_ | refine zd ?_ | refine z8 ?_ | refine zn ?_ | refine zl ?_ | refine zm ?_ | refine zah ?_ | refine zal ?_ | refine za8 ?_ | refine za7 ?_ | refine za3 ?_ | refine zbd ?_ | refine zbh ?_ | refine zb9 ?_))
        refine za1 (writeString_tr b v (l ++ escH (s.take j)) R lr [38, 113, 117, 111, 116, 59] x2 (by simp) (by simp) (by rw [show ([38, 113, 117, 111, 116, 59] : List UInt8).length = 6 from rfl]; omega)) (fun u K hR => ?_)
        obtain ⟨rfl, v', R', h9, rfl⟩ := hR
        (repeat' (first | refine z6 ?_ | refine z2 ?_ | refine z1 ?_ | refine zw ?_ | refine zy ?_ | refine zz ?_ | refine zaw ?_ | refine z8 ?_ | refine za ?_ | refine zl ?_))
        exact ⟨⟨j + 1, v', R', 0⟩, kB, sA, ⟨by simp only; omega, by simp only; rw [hsn, e1, ← List.append_assoc]; exact h9⟩, by simp only; omega⟩
      · (repeat' (first | refine Wp.draw_all (id := 6) Mixed.out (by kernel_rfl) ?_ | refine z7 ?_ | refine z6 ?_ | refine z2 ?_ | refine z1 ?_ | refine zc ?_ | refine zb ?_ | refine zf ?_ | refine zd ?_ | refine zu ?_ | refine z8 ?_ | refine za ?_ | refine zb3 ?_ | refine zm ?_ | refine zah ?_ | refine za8 ?_ | refine za7 ?_ | refine za3 ?_ | refine zc1 ?_ | refine zbh ?_ | refine zb9 ?_))
        exact ⟨2, kB, sA, .inr (.inl ⟨rfl, hc0⟩), by omega⟩
    · by_cases hc0 : c.toNat = 38
      · have e1 : escB c = [38, 97, 109, 112, 59] := by simp [escB, hc0]
        (repeat' (first | refine Wp.draw_all (id := 6) Mixed.out (by kernel_rfl) ?_ | refine z7 ?_ | refine z6 ?_ | refine z2 ?_ | refine z1 ?_ | refine zc ?_ | refine zf ?_ | refine zd ?_ | refine z8 ?_ | refine zn ?_ | refine zl ?_ | refine zm ?_ | refine zah ?_ | refine zal ?_ | refine za8 ?_ | refine za7 ?_ | refine za3 ?_ | refine zbd ?_ | refine zbh ?_ | refine zb9 ?_))
        refine za1 (writeString_tr b v (l ++ escH (s.take j)) R lr [38, 97, 109, 112, 59] x2 (by simp) (by simp) (by rw [show ([38, 97, 109, 112, 59] : List UInt8).length = 5 from rfl]; omega)) (fun u K hR => ?_)
        obtain ⟨rfl, v', R', h9, rfl⟩ := hR
        (repeat' (first | refine z6 ?_ | refine z2 ?_ | refine z1 ?_ | refine zw ?_ | refine zy ?_ | refine zz ?_ | refine zaw ?_ | refine z8 ?_ | refine za ?_ | refine zl ?_))
        exact ⟨⟨j + 1, v', R', 0⟩, kB, sA, ⟨by simp only; omega, by simp only; rw [hsn, e1, ← List.append_assoc]; exact h9⟩, by simp only; omega⟩
      · (repeat' (first | refine Wp.draw_all (id := 6) Mixed.out (by kernel_rfl) ?_ | refine z7 ?_ | refine z6 ?_ | refine z2 ?_ | refine z1 ?_ | refine zc ?_ | refine zb ?_ | refine zf ?_ | refine zd ?_ | refine zu ?_ | refine z8 ?_ | refine za ?_ | refine zb3 ?_ | refine zm ?_ | refine zah ?_ | refine za8 ?_ | refine za7 ?_ | refine za3 ?_ | refine zc1 ?_ | refine zbh ?_ | refine zb9 ?_))
        exact ⟨4, kB, sA, .inr (.inr (.inl ⟨rfl, n1, hc0⟩)), by omega⟩
    · by_cases hc0 : c.toNat = 60
      · have e1 : escB c = [38, 108, 116, 59] := by simp [escB, hc0]
        (repeat' (first | refine Wp.draw_all (id := 6) Mixed.out (by kernel_rfl) ?_ | refine z7 ?_ | refine z6 ?_ | refine z2 ?_ | refine z1 ?_ | refine zc ?_ | refine zf ?_ | refine zd ?_ | refine z8 ?_ | refine zn ?_ | refine zl ?_ | refine zm ?_ | refine zah ?_ | refine zal ?_ | refine za8 ?_ | refine za7 ?_ | refine za3 ?_ | refine zbd ?_ | refine zbh ?_ | refine zb9 ?_))
        refine za1 (writeString_tr b v (l ++ escH (s.take j)) R lr [38, 108, 116, 59] x2 (by simp) (by simp) (by rw [show ([38, 108, 116, 59] : List UInt8).length = 4 from rfl]; omega)) (fun u K hR => ?_)
        obtain ⟨rfl, v', R', h9, rfl⟩ := hR
        (repeat' (first | refine z6 ?_ | refine z2 ?_ | refine z1 ?_ | refine zw ?_ | refine zy ?_ | refine zz ?_ | refine zaw ?_ | refine z8 ?_ | refine za ?_ | refine zl ?_))
        exact ⟨⟨j + 1, v', R', 0⟩, kB, sA, ⟨by simp only; omega, by simp only; rw [hsn, e1, ← List.append_assoc]; exact h9⟩, by simp only; omega⟩
      · (repeat' (first | refine Wp.draw_all (id := 6) Mixed.out (by kernel_rfl) ?_ | refine z7 ?_ | refine z6 ?_ | refine z2 ?_ | refine z1 ?_ | refine zc ?_ | refine zb ?_ | refine zf ?_ | refine zd ?_ | refine zu ?_ | refine z8 ?_ | refine za ?_ | refine zb3 ?_ | refine zm ?_ | refine zah ?_ | refine za8 ?_ | refine za7 ?_ | refine za3 ?_ | refine zc1 ?_ | refine zbh ?_ | refine zb9 ?_))
        exact ⟨6, kB, sA, .inr (.inr (.inr (.inl ⟨rfl, n1, n2, hc0⟩))), by omega⟩
    · by_cases hc0 : c.toNat = 62
      · have e1 : escB c = [38, 103, 116, 59] := by simp [escB, hc0]
        (repeat' (first | refine Wp.draw_all (id := 6) Mixed.out (by kernel_rfl) ?_ | refine z7 ?_ | refine z6 ?_ | refine z2 ?_ | refine z1 ?_ | refine zc ?_ | refine zf ?_ | refine zd ?_ | refine z8 ?_ | refine zn ?_ | refine zl ?_ | refine zm ?_ | refine zah ?_ | refine zal ?_ | refine za8 ?_ | refine za7 ?_ | refine za3 ?_ | refine zbd ?_ | refine zbh ?_ | refine zb9 ?_))
        refine za1 (writeString_tr b v (l ++ escH (s.take j)) R lr [38, 103, 116, 59] x2 (by simp) (by simp) (by rw [show ([38, 103, 116, 59] : List UInt8).length = 4 from rfl]; omega)) (fun u K hR => ?_)
        obtain ⟨rfl, v', R', h9, rfl⟩ := hR
        (repeat' (first | refine z6 ?_ | refine z2 ?_ | refine z1 ?_ | refine zw ?_ | refine zy ?_ | refine zz ?_ | refine zaw ?_ | refine z8 ?_ | refine za ?_ | refine zl ?_))
        exact ⟨⟨j + 1, v', R', 0⟩, kB, sA, ⟨by simp only; omega, by simp only; rw [hsn, e1, ← List.append_assoc]; exact h9⟩, by simp only; omega⟩
      · (repeat' (first | refine Wp.draw_all (id := 6) Mixed.out (by kernel_rfl) ?_ | refine z7 ?_ | refine z6 ?_ | refine z2 ?_ | refine z1 ?_ | refine zc ?_ | refine zb ?_ | refine zf ?_ | refine zd ?_ | refine zu ?_ | refine z8 ?_ | refine za ?_ | refine zb3 ?_ | refine zm ?_ | refine zah ?_ | refine za8 ?_ | refine za7 ?_ | refine za3 ?_ | refine zc1 ?_ | refine zbh ?_ | refine zb9 ?_))
        exact ⟨8, kB, sA, .inr (.inr (.inr (.inr ⟨rfl, n1, n2, n3, hc0⟩))), by omega⟩
    · have e1 : escB c = [c] := by simp [escB, n1, n2, n3, n4]
      (repeat' (first | refine z7 ?_ | refine z6 ?_ | refine z2 ?_ | refine z1 ?_ | refine zb ?_ | refine zw ?_ | refine zy ?_ | refine zz ?_ | refine z8 ?_ | refine za4 ?_ | refine zah ?_ | refine zi ?_))
      refine za1 (writeByte_tr b v (l ++ escH (s.take j)) R lr c x2 (by omega)) (fun u K hR => ?_)
      obtain ⟨rfl, v', R', h9, rfl⟩ := hR
      (repeat' (first | refine z6 ?_ | refine z2 ?_ | refine z1 ?_ | refine zu ?_ | refine z8 ?_ | refine za ?_ | refine zl ?_))
      exact ⟨⟨j + 1, v', R', 0⟩, kB, sA, ⟨by simp only; omega, by simp only; rw [hsn, e1, ← List.append_assoc]; exact h9⟩, by simp only; omega⟩
  · have : j = s.length := by omega
    subst this
    rw [List.take_length] at x2
    (repeat' (first | refine z7 ?_ | refine z6 ?_ | refine z2 ?_ | refine z1 ?_ | refine zb ?_ | refine zw ?_ | refine zy ?_ | refine zz ?_ | refine zd5 ?_ | refine z8 ?_ | refine za4 ?_ | refine zg ?_))
    exact e_norm _ ⟨rfl, v, R, lr, x2, rfl⟩ sA
end Go.Proofs

namespace Go.Proofs
open Go Go.Eng
set_option maxRecDepth 20000
set_option maxHeartbeats 4000000

instance arrOf2 : UArr Tryz.prog 240 2 9 := ⟨Tryz.underlying240⟩
instance arrOf12 : UArr Tryz.prog 241 12 240 := ⟨Tryz.underlying241⟩

/-- The table of the entities: a variable of the package, whose cells are texts. -/
abbrev ent (T : Nat) (es : List Value) : Blk := [(1, cellsOf es T)]
def EntOK (es : List Value) : Prop := ∀ k, k < 24 → ∃ s, es[k]? = some (str s) ∧ s ≠ [] ∧ s.length ≤ 8

/-! strings.Builder -/
abbrev bldb (b : Nat) (p v : Value) : Blk := [(b, cellsOf [p, v] 48)]
abbrev Bys (v : Value) (l : List UInt8) (R : Blk) : Prop := Own 5 1 v l.length (Lib.byteCells l) R
theorem Bys.app {v : Value} {l s : List UInt8} {R : Blk} (h : Own 5 1 v (l.length + s.length) (Lib.byteCells l ++ Lib.byteCells s) R) : Bys v (l ++ s) R := by
  have e1 : Lib.byteCells (l ++ s) = Lib.byteCells l ++ Lib.byteCells s := by simp [Lib.byteCells]
  unfold Bys
  rw [e1, List.length_append]; exact h

theorem copyCheck_used (b : Nat) (v : Value) : TrD Tryz.prog 40 [lp b] [bldb b (lp b) v] unit [bldb b (lp b) v] := by
  refine Tr.start (n := 20) (rs := []) rfl rfl rfl rfl fun B => ?_
  (repeat' (first | refine z7 ?_ | refine z6 ?_ | refine z2 ?_ | refine z1 ?_ | refine zb ?_ | refine z8 ?_ | refine zn ?_ | refine zp ?_ | refine zq ?_ | refine zdc ?_))
  refine Ops.pure (.bool false) (zdg (u := lp b) (v := lp b) (r := false) (by rfl) (by rfl) (by first | rfl | kernel_rfl) (fun w => Lib.run_neq_ptr_same (P := Tryz.prog) w ⟨b, 0, none⟩ Tryz.underlying46 (show (Tryz.prog).info? 48 = some Tryz.t48 by kernel_rfl))) (by rfl) ?_
  (repeat' (first | refine z2 ?_ | refine z1 ?_ | refine zb ?_ | refine zd ?_))
  exact e_norm _ ⟨rfl, rfl⟩ sA
theorem copyCheck_fresh (b : Nat) (v : Value) : TrD Tryz.prog 40 [lp b] [bldb b (.pointer none) v] unit [bldb b (lp b) v] := by
  refine Tr.start (n := 20) (rs := []) rfl rfl rfl rfl fun B => ?_
  (repeat' (first | refine z7 ?_ | refine z6 ?_ | refine z2 ?_ | refine z1 ?_ | refine zc ?_ | refine z8 ?_ | refine zn ?_ | refine zp ?_ | refine zq ?_ | refine zep ?_))
  refine Ops.pure _ (zgm (b := b) (off := 0) (cs := [.pointer none, v]) (T := 48) (j := Tryz.t48) Tryz.underlying46 Tryz.underlying111 (by kernel_rfl) (by decide) (by rfl) (by repeat (first | exact HMem.here | apply HMem.skip | apply HMem.there)) (by simp)) (by rfl) ?_
  refine Ops.pure _ (zg9 (v := lp b) (r := lp b) (by rfl) (fun w => by kernel_rfl)) (by rfl) ?_
  refine Ops.pure _ (zew (b := b) (off := 0) (cs := [.pointer none, v]) (T := 48) (j := Tryz.t48) Tryz.underlying111 Tryz.underlying46 (by kernel_rfl) (by rfl) (by repeat (first | exact HMem.here | apply HMem.skip | apply HMem.there)) (by kernel_rfl)) (by rfl) ?_
  (repeat' (first | refine z2 ?_ | refine zp ?_ | refine zq ?_ | refine za5 ?_))
  exact e_norm _ ⟨rfl, rfl⟩ sA
theorem copyCheck_tr (b : Nat) (p v : Value) (hp : p = .pointer none ∨ p = lp b) : TrD Tryz.prog 40 [lp b] [bldb b p v] unit [bldb b (lp b) v] := by
  rcases hp with rfl | rfl
  · exact copyCheck_fresh b v
  · exact copyCheck_used b v

theorem bldByte_tr (b : Nat) (p v : Value) (l : List UInt8) (R : Blk) (c : UInt8) (hp : p = .pointer none ∨ p = lp b) (hR : Bys v l R) (hl : l.length ≤ 10000000) :
    Tr Tryz.prog 145 [lp b, .int .u8 c.toNat] [bldb b p v, R] fun u K => u = .nilIface ∧ ∃ v' R', Bys v' (l ++ [c]) R' ∧ K = [bldb b (lp b) v', R'] := by
  refine Tr.start (n := 17) (rs := [.tmp 4]) rfl rfl rfl rfl fun B => ?_
  (repeat' (first | refine za9 (copyCheck_tr b p v hp) ?_ | refine z7 ?_ | refine z6 ?_ | refine z2 ?_ | refine z1 ?_ | refine z8 ?_ | refine za ?_ | refine zn ?_ | refine zp ?_ | refine zq ?_ | refine zb7 (fun _ => ?_)))
  refine zbz hR (by omega) (fun v2 R2 h2 => ?_)
  have h2' : Bys v2 (l ++ [c]) R2 := Bys.app h2
  obtain ⟨g2, cap2, cur2, rfl, rfl, _⟩ := h2.pos
  (repeat' (first | refine z7 ?_ | refine z6 ?_ | refine z2 ?_ | refine z1 ?_ | refine ze ?_ | refine za ?_ | refine zp ?_ | refine zq ?_ | refine za5 ?_))
  exact e_ret _ ⟨rfl, _, _, h2', rfl⟩ sA

theorem bldStr_tr (b : Nat) (p v : Value) (l : List UInt8) (R : Blk) (s : List UInt8) (hp : p = .pointer none ∨ p = lp b) (hR : Bys v l R) (hs : s ≠ []) (hl : l.length + s.length ≤ 100000000) :
    Tr Tryz.prog 25 [lp b, str s] [bldb b p v, R] fun u K => u = .tuple #[inat s.length, .nilIface] ∧ ∃ v' R', Bys v' (l ++ s) R' ∧ K = [bldb b (lp b) v', R'] := by
  have hs1 : 1 ≤ s.length := by cases s with | nil => exact absurd rfl hs | cons _ _ => simp
  refine Tr.start (n := 19) (rs := [.tmp 4, .tmp 5]) rfl rfl rfl rfl fun B => ?_
  (repeat' (first | refine za9 (copyCheck_tr b p v hp) ?_ | refine z7 ?_ | refine z6 ?_ | refine z2 ?_ | refine z1 ?_ | refine z8 ?_ | refine za ?_ | refine zn ?_ | refine zp ?_ | refine zq ?_))
  refine zel hR hs (by omega) (fun v2 R2 h2 => ?_)
  have h2' : Bys v2 (l ++ s) R2 := Bys.app h2
  rw [show l.length + s.length = l.length + s.length - 1 + 1 by omega] at h2
  obtain ⟨g2, cap2, cur2, rfl, rfl, _⟩ := h2.pos
  (repeat' (first | refine z7 ?_ | refine z6 ?_ | refine z2 ?_ | refine z1 ?_ | refine ze ?_ | refine z8 ?_ | refine za ?_ | refine zp ?_ | refine zq ?_ | refine zg ?_ | refine za5 ?_))
  exact e_ret _ ⟨rfl, _, _, h2', rfl⟩ sA

theorem bldString_tr (b : Nat) (p v : Value) (l : List UInt8) (R : Blk) (hR : Bys v l R) (hne : l ≠ []) (hl : l.length ≤ 100000000) :
    Tr Tryz.prog 27 [lp b] [bldb b p v, R] fun u K => u = str l ∧ K = [] := by
  have hl1 : 1 ≤ l.length := by cases l with | nil => exact absurd rfl hne | cons _ _ => simp
  have hx' : Own 5 1 v (l.length - 1 + 1) (Lib.byteCells l) R := by rw [show l.length - 1 + 1 = l.length by omega]; exact hR
  obtain ⟨g, cap, cur, rfl, rfl, k1, k2, k3, k4⟩ := hx'.pos
  rw [show l.length - 1 + 1 = l.length by omega, Nat.mul_one] at k4
  rw [show l.length - 1 + 1 = l.length by omega]
  refine Tr.start (n := 14) (rs := [.tmp 2]) rfl rfl rfl rfl fun B => ?_
  (repeat' (first | refine Wp.draw_tail (id := 1) 10 Mixed.out (by kernel_rfl) ?_ | refine OpsS.pure _ (zfu (by rfl) (by omega)) (by rfl) ?_ | refine z7 ?_ | refine z6 ?_ | refine z2 ?_ | refine z1 ?_ | refine za ?_ | refine za8 ?_ | refine za7 ?_ | refine za3 ?_ | refine zae ?_ | refine zad ?_ | refine zb5 ?_))
  refine zg7 (g := g) (cur := cur) (e := 5) (l := l) Tryz.underlying75 (by kernel_rfl) hne (by omega) (by omega) k4 ?_
  (repeat' (first | refine z2 ?_ | refine z1 ?_ | refine ze ?_ | refine za ?_))
  exact e_ret [] ⟨rfl, rfl⟩ sA
theorem bldString_nil (b : Nat) (p : Value) :
    Tr Tryz.prog 27 [lp b] [bldb b p (.slice none 0 0), []] fun u K => u = str [] ∧ K = [] := by
  refine Tr.start (n := 14) (rs := [.tmp 2]) rfl rfl rfl rfl fun B => ?_
  (repeat' (first | refine Wp.draw_tail (id := 1) 10 Mixed.out (by kernel_rfl) ?_ | refine OpsS.pure _ (zfk (by rfl)) (by rfl) ?_ | refine z7 ?_ | refine z6 ?_ | refine z2 ?_ | refine z1 ?_ | refine za ?_ | refine za8 ?_ | refine za7 ?_ | refine za3 ?_ | refine zae ?_ | refine zad ?_ | refine zb5 ?_))
  refine Ops.pure _ (zfp (by rfl) (by rfl)) (by rfl) ?_
  (repeat' (first | refine z2 ?_ | refine z1 ?_ | refine ze ?_ | refine za ?_))
  exact e_ret [] ⟨rfl, rfl⟩ sA

structure UB where
  j : Nat
  p : Value
  v : Value
  R : Blk
  o : List UInt8
end Go.Proofs

namespace Go.Proofs
open Go Go.Eng
set_option maxRecDepth 20000
set_option maxHeartbeats 4000000

abbrev tildes (K : Nat) : List UInt8 := List.replicate K 126
theorem tildes_len (K : Nat) : (tildes K).length = K := List.length_replicate
/-- A line between the fences. -/
structure FLine (K : Nat) (tx : List UInt8) : Prop where
  nt : NoTab tx
  len : tx.length ≤ 10000
  few : ∃ j, j < K ∧ at0 tx (sp3 0 tx + j) ≠ 126
  c : ∀ d ∈ tx, d ≠ 10 ∧ d ≠ 13 ∧ d ≠ 0

/-! A text's lines. -/
def spl : List UInt8 → List (List UInt8)
  | [] => [[]]
  | c :: l => if c = 10 then [] :: spl l else match spl l with | a :: r => (c :: a) :: r | [] => [[c]]
theorem spl_ten (l : List UInt8) : spl (10 :: l) = [] :: spl l := by simp [spl]
theorem spl_ne : ∀ s, spl s ≠ []
  | [] => by simp [spl]
  | c :: l => by
    by_cases h : c = 10
    · subst h; simp [spl]
    · simp only [spl, if_neg h]; split <;> simp
theorem spl_cons {c : UInt8} {l a : List UInt8} {r : List (List UInt8)} (h : c ≠ 10) (hs : spl l = a :: r) : spl (c :: l) = (c :: a) :: r := by simp only [spl, if_neg h, hs]
theorem spl_some (s : List UInt8) : ∃ a r, spl s = a :: r := by
  cases h : spl s with
  | nil => exact absurd h (spl_ne s)
  | cons a r => exact ⟨a, r, rfl⟩
theorem spl_no : ∀ s, ∀ l ∈ spl s, ∀ d ∈ l, d ≠ 10
  | [], l, hl, d, hd => by simp [spl] at hl; subst hl; simp at hd
  | c :: s, l, hl, d, hd => by
    by_cases h : c = 10
    · subst h; rw [spl_ten] at hl
      rcases List.mem_cons.1 hl with rfl | hl
      · simp at hd
      · exact spl_no s l hl d hd
    · obtain ⟨a, r, hs⟩ := spl_some s
      rw [spl_cons h hs] at hl
      have ih := spl_no s
      rw [hs] at ih
      rcases List.mem_cons.1 hl with rfl | hl
      · rcases List.mem_cons.1 hd with rfl | hd
        · exact h
        · exact ih a (by simp) d hd
      · exact ih l (List.mem_cons_of_mem _ hl) d hd
theorem spl_head : ∀ (s a : List UInt8) (r : List (List UInt8)), spl s = a :: r → a <+: s
  | [], a, r, h => by simp [spl] at h; obtain ⟨rfl, _⟩ := h; exact List.prefix_refl _
  | c :: s, a, r, h => by
    by_cases hc : c = 10
    · subst hc; rw [spl_ten] at h; injection h with h1 h2; subst h1; exact List.nil_prefix
    · obtain ⟨a', r', hs⟩ := spl_some s
      rw [spl_cons hc hs] at h
      injection h with h1 h2
      subst h1
      exact (List.cons_prefix_cons).2 ⟨rfl, spl_head s a' r' hs⟩
theorem spl_infix : ∀ s, ∀ l ∈ spl s, l <:+: s
  | [], l, hl => by simp [spl] at hl; subst hl; exact List.infix_refl _
  | c :: s, l, hl => by
    obtain ⟨a, r, hs⟩ := spl_some s
    have ih := spl_infix s
    by_cases hc : c = 10
    · subst hc; rw [spl_ten] at hl
      rcases List.mem_cons.1 hl with rfl | hl
      · exact List.nil_infix
      · exact List.infix_cons (ih l hl)
    · have h0 := spl_cons hc hs
      rw [h0] at hl
      rcases List.mem_cons.1 hl with rfl | hl
      · exact (spl_head _ _ _ h0).isInfix
      · exact List.infix_cons (ih l (by rw [hs]; exact List.mem_cons_of_mem _ hl))

/-- A text whose lines stand between fences of K tildes. -/
structure FText (K : Nat) (s : List UInt8) : Prop where
  len : s.length ≤ 5000
  c : ∀ d ∈ s, d = 10 ∨ 32 ≤ d.toNat ∧ d.toNat ≤ 126
  few : ¬ tildes K <:+: s
theorem FText.line {K : Nat} {s : List UInt8} (h : FText K s) (l : List UInt8) (hl : l ∈ spl s) : FLine K l := by
  have h1 := spl_infix s l hl
  have h2 := spl_no s l hl
  have hm : ∀ d ∈ l, d = 10 ∨ 32 ≤ d.toNat ∧ d.toNat ≤ 126 := fun d hd => h.c d (h1.mem hd)
  have h3 : ∀ d ∈ l, 32 ≤ d.toNat ∧ d.toNat ≤ 126 := fun d hd => (hm d hd).resolve_left (h2 d hd)
  refine ⟨fun d hd => by have := h3 d hd; omega, by have := h1.length_le; have := h.len; omega, ?_, fun d hd => ⟨h2 d hd, ?_, ?_⟩⟩
  · refine Classical.byContradiction fun hn => h.few ?_
    have hn' : ∀ j, j < K → at0 l (sp3 0 l + j) = 126 := fun j hj => Classical.byContradiction fun h0 => hn ⟨j, hj, h0⟩
    have hpre : tildes K <+: l.drop (sp3 0 l) := by
      refine List.prefix_iff_getElem?.2 fun i hi => ?_
      rw [tildes_len] at hi
      have h4 := hn' i hi
      rw [List.getElem_replicate, List.getElem?_drop]
      unfold at0 at h4
      split at h4
      · rename_i c hc
        rw [hc]; congr 1; exact UInt8.toNat_inj.1 (h4.trans rfl)
      · cases h4
    exact (hpre.isInfix.trans (List.drop_suffix _ _).isInfix).trans h1
  · intro e; subst e; have := h3 13 hd; exact absurd this (by decide)
  · intro e; subst e; have := h3 0 hd; exact absurd this (by decide)

/-! The longest run of tildes. -/
end Go.Proofs

namespace Go.Proofs
open Go Go.Eng
set_option maxRecDepth 20000
set_option maxHeartbeats 4000000

/-- What a builder holds: nothing yet, or some bytes. -/
def BOK (b : Nat) (x : UB) : Prop := (x.p = .pointer none ∨ x.p = lp b) ∧ Bys x.v x.o x.R ∧ ((x.o = [] ∧ x.v = .slice none 0 0 ∧ x.R = []) ∨ x.o ≠ [])

end Go.Proofs

namespace Go.Proofs
open Go Go.Eng
set_option maxRecDepth 20000
set_option maxHeartbeats 4000000

theorem zzContains_yes (l : List UInt8) (c : UInt8) (hl : l.length ≤ 140737488355328) (hn : fst1 c l < l.length) :
    TrP Tryz.prog 51 [str l, str [c]] (.bool true) := by
  refine Tr.start (n := 9) (rs := [.tmp 4]) rfl rfl rfl rfl fun B => ?_
  (repeat' (first | refine zo (zzIndex_tr l c hl (fst1 c l) (by rw [if_pos hn])) ?_ | refine z7 ?_ | refine z6 ?_ | refine z2 ?_ | refine z1 ?_ | refine ze ?_ | refine z8 ?_ | refine za ?_ | refine zas ?_))
  exact e_pure ⟨rfl, rfl⟩

end Go.Proofs

namespace Go.Proofs
open Go Go.Eng
set_option maxRecDepth 20000
set_option maxHeartbeats 4000000

theorem FLine.no {K k : Nat} {tx : List UInt8} (h : FLine K tx) (_hc : at0 tx (sp3 0 tx) = 96 ∨ at0 tx (sp3 0 tx) = 126) (_hall : ∀ j, j < k → at0 tx (sp3 0 tx + j) = at0 tx (sp3 0 tx)) (_hle : sp3 0 tx + k ≤ tx.length) (_hk : 3 ≤ k) (_hK : 1 ≤ K) : ¬ ((tx.drop (sp3 0 tx)).take k).take (tildes K).length = tildes K := by
  intro e
  rw [tildes_len, List.take_take] at e
  have hlen := congrArg List.length e
  rw [tildes_len, List.length_take, List.length_drop] at hlen
  have hat : ∀ j, j < K → at0 tx (sp3 0 tx + j) = 126 := by
    intro j hj
    have h1 : ((tx.drop (sp3 0 tx)).take (min K k))[j]? = (tildes K)[j]? := by rw [e]
    rw [List.getElem?_take, if_pos (by omega), List.getElem?_drop] at h1
    have h2 : (tildes K)[j]? = some 126 := by simp [hj]
    rw [h2] at h1
    exact (at0_some h1).trans rfl
  obtain ⟨j, hj, hj2⟩ := h.few
  exact hj2 (hat j hj)

end Go.Proofs

namespace Go.Proofs
open Go Go.Eng
set_option maxRecDepth 20000
set_option maxHeartbeats 4000000

theorem BRow.wroteA {g cap : Nat} {cur : List Value} {l s : List UInt8} (hs : l ≠ []) (h1 : l.length + s.length ≤ cap) (h2 : cap ≤ 9223372036854775807) (h3 : cur.length = cap) (h4 : cur.take l.length = Lib.byteCells l) :
    BRow (.slice (some ⟨g, 0, none⟩) (l.length + s.length) cap) (l ++ s) [(g, cellsOf (cur.take l.length ++ Lib.byteCells s ++ cur.drop (l.length + s.length)) 5)] := by
  refine .inr ⟨by simp [hs], g, cap, _, by rw [List.length_append], rfl, by rw [List.length_append]; exact h1, h2, ?_, ?_⟩
  · simp only [List.length_append, List.length_take, List.length_drop, Lib.byteCells_length]; omega
  · rw [h4]
    have e1 : Lib.byteCells (l ++ s) = Lib.byteCells l ++ Lib.byteCells s := by simp [Lib.byteCells]
    rw [e1, List.take_left' (by simp [Lib.byteCells_length])]

theorem p_slice_lo_end {L : Eng.Loc} {H : Heap} {x : Operand} {t ty e : TypeId} {r off a sz : Nat} {lo : Operand} (ht : Tryz.prog.underlying t = some (.slice e)) (hs : ∀ w, (sizeOf e).run Tryz.prog w = .ok sz w)
    (hx : ev L x = some (.slice (some ⟨r, off, none⟩) (a + 0) a)) (hlo : ev L lo = some (.int .i64 a)) :
    Pure1 Tryz.prog L H (.slice t x (some lo) none none) ty (.slice (some ⟨r, off, none⟩) 0 0) := by
  intro ρ w o hρ _ ho _
  simp [execOp, ho, hρ _ _ hx, hρ _ _ hlo, Instr.sliceAt, Instr.slice, underlying, ht, Instr.sliceBounds, Instr.sliceBound, asIntOf, hs]

/-- WriteString of any text behind some bytes. -/
theorem writeAny_tr (b : Nat) (v : Value) (l : List UInt8) (R : Blk) (lr : Int) (s : List UInt8) (hR : BRow v l R) (hl : l ≠ []) (hlim : l.length + s.length ≤ 1000000000) :
    Tr Tryz.prog 242 [lp b, str s] [bufb b v lr, R] fun u K => u = .tuple #[inat s.length, .nilIface] ∧ ∃ v' R', BRow v' (l ++ s) R' ∧ K = [bufb b v' 0, R'] := by
  rcases hR with ⟨rfl, rfl, rfl⟩ | ⟨_, g, cap, cur, rfl, rfl, k1, k2, k3, k4⟩
  · exact absurd rfl hl
  · have hl1 : 1 ≤ l.length := by cases l with | nil => exact absurd rfl hl | cons _ _ => simp
    by_cases hs0 : s = []
    · subst hs0
      have hb : BRow (.slice (some ⟨g, 0, none⟩) (l.length + 0) cap) (l ++ []) [(g, cellsOf cur 5)] := by rw [List.append_nil]; exact .inr ⟨hl, g, cap, cur, rfl, rfl, k1, k2, k3, k4⟩
      by_cases hc : l.length < cap
      · have e : cur.take (0 + l.length * 1) ++ Lib.byteCells [] ++ cur.drop (0 + l.length * 1 + ([] : List UInt8).length) = cur := by simp [Lib.byteCells]
        refine Tr.start (n := 32) (rs := [.tmp 4, .tmp 5]) rfl rfl rfl rfl fun B => ?_
        (repeat' (first | refine za9 (tryGrow_yes b 0 l.length cap (some ⟨g, 0, none⟩) 0 (by omega) k2) ?_ | refine z7 ?_ | refine z6 ?_ | refine z2 ?_ | refine z1 ?_ | refine zb ?_ | refine zd ?_ | refine z8 ?_ | refine za ?_ | refine zn ?_ | refine zp ?_ | refine zq ?_ | refine zg ?_ | refine za0 ?_ | refine zcq ?_ | refine zaq ?_ | refine za5 ?_))
        refine zcr (g := g) (off := 0 + l.length * 1) (m := l.length + 0 - l.length) (l := []) (cur := cur) (by kernel_rfl) (Nat.zero_le _) (by simp only [List.length_nil]; omega) ?_
        rw [e]
        (repeat' (first | refine z2 ?_ | refine z1 ?_ | refine ze ?_ | refine za ?_))
        exact e_ret _ ⟨rfl, _, _, hb, rfl⟩ sA
      · have e : cur.take 0 ++ Lib.byteCells [] ++ cur.drop (0 + ([] : List UInt8).length) = cur := by simp [Lib.byteCells]
        have hcap : cap = l.length := by omega
        subst hcap
        refine Tr.start (n := 32) (rs := [.tmp 4, .tmp 5]) rfl rfl rfl rfl fun B => ?_
        (repeat' (first | refine za9 (tryGrow_yes b 0 l.length l.length (some ⟨g, 0, none⟩) 0 (by omega) k2) ?_ | refine z7 ?_ | refine z6 ?_ | refine z2 ?_ | refine z1 ?_ | refine zb ?_ | refine zd ?_ | refine z8 ?_ | refine za ?_ | refine zn ?_ | refine zp ?_ | refine zq ?_ | refine zg ?_ | refine za0 ?_ | refine zaq ?_ | refine za5 ?_))
        refine Ops.pure _ (p_slice_lo_end (a := l.length) USlice.out Siz.out (by rfl) (by rfl)) (by rfl) ?_
        (repeat' (first | refine z8 ?_))
        refine zcr (g := g) (off := 0) (m := 0) (l := []) (cur := cur) (by kernel_rfl) (Nat.zero_le _) (by simp only [List.length_nil]; omega) ?_
        rw [e]
        (repeat' (first | refine z2 ?_ | refine z1 ?_ | refine ze ?_ | refine za ?_))
        exact e_ret _ ⟨rfl, _, _, hb, rfl⟩ sA
    have hsl : 1 ≤ s.length := List.length_pos_iff.2 hs0
    by_cases hroom : l.length + s.length ≤ cap
    · have hw := BRow.wroteA (g := g) (s := s) hl hroom k2 k3 k4
      refine Tr.start (n := 32) (rs := [.tmp 4, .tmp 5]) rfl rfl rfl rfl fun B => ?_
      (repeat' (first | refine za9 (tryGrow_yes b s.length l.length cap (some ⟨g, 0, none⟩) 0 hroom k2) ?_ | refine z7 ?_ | refine z6 ?_ | refine z2 ?_ | refine z1 ?_ | refine zb ?_ | refine zd ?_ | refine z8 ?_ | refine za ?_ | refine zn ?_ | refine zp ?_ | refine zq ?_ | refine zg ?_ | refine za0 ?_ | refine zcq ?_ | refine zaq ?_ | refine za5 ?_))
      refine zcr (g := g) (off := 0 + l.length * 1) (m := l.length + s.length - l.length) (l := s) (cur := cur) (by kernel_rfl) (by omega) (by omega) ?_
      (repeat' (first | refine z2 ?_ | refine z1 ?_ | refine ze ?_ | refine za ?_))
      refine e_ret _ ⟨rfl, _, _, hw, rfl⟩ ?_
      simp only [Nat.zero_add, Nat.mul_one]
      exact sA
    · have hs1 : 1 ≤ s.length := by omega
      refine Tr.start (n := 32) (rs := [.tmp 4, .tmp 5]) rfl rfl rfl rfl fun B => ?_
      (repeat' (first | refine za9 (tryGrow_no b s.length l.length cap (some ⟨g, 0, none⟩) 0 k1 hroom k2) ?_ | refine z7 ?_ | refine z6 ?_ | refine z2 ?_ | refine z1 ?_ | refine zc ?_ | refine z8 ?_ | refine za ?_ | refine zp ?_ | refine zq ?_ | refine zg ?_ | refine za0 ?_ | refine zam ?_ | refine za5 ?_))
      refine za1 (grow_row b g l.length cap s.length cur 0 k3 hl1 k1 hs1 hroom (by omega) (by rw [k4]; exact byte_ones l)) (fun u K hR => ?_)
      obtain ⟨rfl, g2, cap2, cur2, e1, e2, e3, e4, rfl⟩ := hR
      have hw := BRow.wroteA (g := g2) (s := s) hl e3 e4 e1 (e2.trans k4)
      (repeat' (first | refine z7 ?_ | refine z6 ?_ | refine z2 ?_ | refine z1 ?_ | refine z8 ?_ | refine za ?_ | refine zn ?_ | refine zp ?_ | refine zq ?_ | refine zcq ?_))
      refine zcr (g := g2) (off := 0 + l.length * 1) (m := l.length + s.length - l.length) (l := s) (cur := cur2) (by kernel_rfl) (by omega) (by omega) ?_
      (repeat' (first | refine z2 ?_ | refine z1 ?_ | refine ze ?_ | refine za ?_))
      refine e_ret _ ⟨rfl, _, _, hw, rfl⟩ ?_
      simp only [Nat.zero_add, Nat.mul_one]
      exact sA

theorem bufString_nil (b : Nat) (lr : Int) : TrD Tryz.prog 42 [lp b] [bufb b (.slice none 0 0) lr] (str []) [bufb b (.slice none 0 0) lr] := by
  refine Tr.start (n := 15) (rs := [.tmp 2]) rfl rfl rfl rfl fun B => ?_
  (repeat' (first | refine Wp.draw_all (id := 3) Mixed.out (by kernel_rfl) ?_ | refine z7 ?_ | refine z6 ?_ | refine z2 ?_ | refine z1 ?_ | refine zb ?_ | refine zd ?_ | refine z8 ?_ | refine za ?_ | refine zdc ?_ | refine za7 ?_ | refine za3 ?_ | refine zae ?_ | refine zad ?_))
  refine OpsS.pure _ (zff USlice.out Siz.out (by rfl) (by rfl)) (by rfl) ?_
  refine OpsS.pure _ (zf3 Tryz.underlying22 Tryz.underlying5 Tryz.underlying9 (by rfl)) (by rfl) ?_
  (repeat' (first | refine z2 ?_ | refine z1 ?_ | refine ze ?_ | refine za8 ?_ | refine zbg ?_))
  exact e_ret _ ⟨rfl, rfl⟩ sA

theorem replaceEsc_tr (g : Nat) (s : List UInt8) (hlim : 6 * s.length ≤ 1000000) :
    Tr Tryz.prog 244 [.slice (some ⟨g, 0, none⟩) 8 8, str s] [escRow g] fun u K => u = str (escH s) ∧ K = [] := by
  refine Tr.start (n := 10) (rs := [.tmp 4]) rfl rfl rfl rfl fun B => ?_
  (repeat' (first | refine z7 ?_ | refine z6 ?_ | refine z2 ?_ | refine z1 ?_ | refine z8 ?_ | refine za ?_ | refine zai (fun _ => ?_)))
  rename_i b
  refine zct ?_
  refine za1 (pairsWrite_tr g b (.slice none 0 0) [] [] 0 s BRow.nil (by simp; omega)) (fun u K hR => ?_)
  obtain ⟨rfl, v', R', lr', h9, rfl⟩ := hR
  rw [List.nil_append] at h9
  by_cases hn : escH s = []
  · rw [hn] at h9 ⊢
    rcases h9 with ⟨_, rfl, rfl⟩ | ⟨h, _⟩
    · (repeat' (first | refine za9 (bufString_nil b lr') ?_ | refine z7 ?_ | refine z6 ?_ | refine z2 ?_ | refine z1 ?_ | refine ze ?_ | refine za ?_))
      exact e_ret [] ⟨rfl, rfl⟩ sA
    · exact absurd rfl h
  · (repeat' (first | refine za9 (bufString_tr b v' (escH s) R' lr' h9 hn) ?_ | refine z7 ?_ | refine z6 ?_ | refine z2 ?_ | refine z1 ?_ | refine ze ?_ | refine za ?_))
    exact e_ret [] ⟨rfl, rfl⟩ sA

end Go.Proofs
