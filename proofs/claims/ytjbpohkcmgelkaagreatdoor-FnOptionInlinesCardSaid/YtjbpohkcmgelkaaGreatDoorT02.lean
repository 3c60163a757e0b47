/- newFence and the list items' starters answer no. Conditions: how the line begins. trimStack with nothing to do, and addBlock. Conditions: bounds on the stack. newPara at a first line. Conditions: no table option. newPara at a further line. Conditions: no table option. addLine at a first line that begins nothing but a paragraph. Conditions: PLine. addLine at a further line of a paragraph. Conditions: PLine. -/
import Derived.Test.YtjbpohkcmgelkaaGreatDoorT01
import Derived.Test.YtjbpohkcmgelkaaGreatDoorEngB
namespace Go.Proofs
open Go Go.Eng
set_option maxRecDepth 20000
set_option maxHeartbeats 4000000

theorem trimSpace1_tr (q i : Nat) (tx : List UInt8) (nl : Nat) (hnt : NoTab tx) (hl : tx.length ≤ 140737488355328) (hi : i ≤ tx.length) (b : Bool) (hb : b = decide (1 ≤ nsp (tx.drop i))) :
    TrD Tryz.prog 167 [lp q, .int .i64 1, .int .i64 1, .bool false] [lnb q i tx nl] (.bool b) [lnb q (if b then i + 1 else i) tx nl] := by
  have h := trimSpace_tr q i tx nl 1 1 false hnt hi hl (by omega) (by omega)
  have e : tsOK i tx 1 1 false = b := by rw [hb]; simp only [tsOK]; congr 1; simp only [Bool.false_and, Bool.or_false, decide_eq_decide]; omega
  have e2 : tsI i tx 1 1 false = if b then i + 1 else i := by
    unfold tsI
    rw [e]
    by_cases hq : 1 ≤ nsp (tx.drop i)
    · simp [hb, hq]
    · simp [hb, hq]
  rw [e, e2] at h
  exact h

theorem trimFence_no (q f1 f2 n i : Nat) (v1 v2 v3 : Value) (tx : List UInt8) (nl : Nat) (hnt : NoTab tx) (hl : tx.length ≤ 140737488355328) (hi : i ≤ tx.length) (h1 : at0 tx (sp3 i tx) ≠ 96) (h2 : at0 tx (sp3 i tx) ≠ 126) :
    TrD Tryz.prog 166 [lp q, lp f1, lp f2, lp n] [lnb q i tx nl, [(f1, cellsOf [v1] 9)], [(f2, cellsOf [v2] 9)], [(n, cellsOf [v3] 3)]] (.bool false) [lnb q i tx nl] := by
  refine Tr.start (n := 69) (rs := [.tmp 8]) rfl rfl rfl rfl fun B => ?_
  have hs := sp3_le hi
  (repeat' (first | refine z7 ?_ | refine z6 ?_ | refine z2 ?_ | refine z1 ?_ | refine z8 ?_ | refine za ?_ | refine zq ?_ | refine zak ?_ | refine za5 ?_ | refine zaj ?_ | refine zai (fun _ => ?_)))
  rename_i r
  have hsp : sp3 i tx = i + min (nsp (tx.drop i)) 3 := rfl
  refine zac [(0, lp q), (1, lp f1), (2, lp f2), (3, lp n), (9, lp r)] [lnb r (sp3 i tx) tx nl, lnb q i tx nl] ?_ ?_
  · (repeat' (first | refine zf ?_))
    refine za6 (fun k : Nat => [(0, lp q), (1, lp f1), (2, lp f2), (3, lp n), (9, lp r)]) (fun k => [lnb r (i + k) tx nl, lnb q i tx nl, [(n, cellsOf [.int .i64 ((k : Nat) : Int)] 3)]]) (fun k => k ≤ min (nsp (tx.drop i)) 3) (fun k => 3 - k) 0 (by omega) kB sA fun k hk => ?_
    have hd := nsp_drop (tx.drop i) k (by omega)
    rw [List.drop_drop] at hd
    by_cases hk3 : k < 3
    · by_cases hsp1 : 1 ≤ nsp (tx.drop (i + k))
      · (repeat' (first | refine za9 (trimSpace1_tr r (i + k) tx nl hnt hl (by omega) true (by simp; omega)) ?_ | refine z7 ?_ | refine z6 ?_ | refine z2 ?_ | refine z1 ?_ | refine zc ?_ | refine zf ?_ | refine zd ?_ | refine zu ?_ | refine zh ?_ | refine z8 ?_ | refine zn ?_ | refine zq ?_ | refine zl ?_ | refine zm ?_ | refine zj ?_ | refine za5 ?_))
        exact ⟨k + 1, kB, sA, by omega, by omega⟩
      · (repeat' (first | refine za9 (trimSpace1_tr r (i + k) tx nl hnt hl (by omega) false (by simp; omega)) ?_ | refine z7 ?_ | refine z6 ?_ | refine z2 ?_ | refine z1 ?_ | refine zb ?_ | refine zw ?_ | refine zy ?_ | refine zz ?_ | refine zh ?_ | refine z8 ?_ | refine zn ?_ | refine zq ?_ | refine zm ?_ | refine zj ?_))
        have : sp3 i tx = i + k := by omega
        rw [this]
        exact ⟨kA, sA⟩
    · (repeat' (first | refine z7 ?_ | refine z6 ?_ | refine z2 ?_ | refine z1 ?_ | refine zb ?_ | refine zw ?_ | refine zy ?_ | refine zz ?_ | refine za2 ?_ | refine z8 ?_ | refine zn ?_ | refine zq ?_ | refine za4 ?_ | refine zk ?_))
      have : sp3 i tx = i + k := by omega
      rw [this]
      exact ⟨kA, sA⟩
  · (repeat' (first | refine za9 (peek_tr _ (sp3 i tx) tx nl hl hs) ?_ | refine z7 ?_ | refine z6 ?_ | refine z2 ?_ | refine z1 ?_ | refine zb ?_ | refine zf ?_ | refine zd ?_ | refine zu ?_ | refine ze ?_ | refine z8 ?_ | refine za ?_ | refine zr ?_))
    exact e_ret _ ⟨rfl, rfl⟩ sA

theorem newFence_no (p : Value) (i : Nat) (tx : List UInt8) (nl : Nat) (hnt : NoTab tx) (hl : tx.length ≤ 140737488355328) (hi : i ≤ tx.length) (h1 : at0 tx (sp3 i tx) ≠ 96) (h2 : at0 tx (sp3 i tx) ≠ 126) :
    TrP Tryz.prog 116 [p, lnv i tx nl] (.tuple #[lnv i tx nl, .bool false]) := by
  refine Tr.start (n := 57) (rs := [.cell 4 122, .tmp 5]) rfl rfl rfl rfl fun B => ?_
  (repeat' (first | refine za9 (trimFence_no _ _ _ _ i _ _ _ tx nl hnt hl hi h1 h2) ?_ | refine z7 ?_ | refine z6 ?_ | refine z2 ?_ | refine z1 ?_ | refine zb ?_ | refine zd ?_ | refine ze ?_ | refine za ?_ | refine zak ?_ | refine zaj ?_ | refine zai (fun _ => ?_) | refine zdf (fun _ => ?_) | refine zaf (fun _ => ?_)))
  exact e_pure ⟨rfl, rfl⟩

/-- No list begins at this text. -/
def noItem (l : List UInt8) : Prop := at0 l 0 ≠ 45 ∧ at0 l 0 ≠ 42 ∧ at0 l 0 ≠ 43 ∧ ∀ j, (∀ k, k < j → 48 ≤ at0 l k ∧ at0 l k ≤ 57) → 0 < j → at0 l j ≠ 46 ∧ at0 l j ≠ 41

theorem startListItem_no (p q i : Nat) (tx : List UInt8) (nl : Nat) (hnt : NoTab tx) (hl : tx.length ≤ 140737488355328) (hi : i ≤ tx.length) (h : noItem (tx.drop (sp3 i tx))) :
    TrD Tryz.prog 164 [lp p, lp q] [lnb q i tx nl] (.bool false) [lnb q i tx nl] := by
  refine Tr.start (n := 181) (rs := [.tmp 4]) rfl rfl rfl rfl fun B => ?_
  have hs := sp3_le hi
  have hsp : sp3 i tx = i + min (nsp (tx.drop i)) 3 := rfl
  have hat : ∀ k, at0 (tx.drop (sp3 i tx)) k = at0 tx (sp3 i tx + k) := fun k => by simp [at0]
  obtain ⟨n1, n2, n3, n4⟩ := h
  simp only [hat, Nat.add_zero] at n1 n2 n3 n4
  (repeat' (first | refine z7 ?_ | refine z6 ?_ | refine z2 ?_ | refine z1 ?_ | refine zc9 ?_ | refine z8 ?_ | refine za ?_ | refine zq ?_ | refine zak ?_ | refine zaj ?_ | refine zai (fun _ => ?_) | refine zdk (fun _ => ?_)))
  rename_i r
  refine zau (fun g : Nat => [(7, .int .i64 (g : Int)), (1, lp q), (5, lp r), (6, .int .i64 (g : Int))]) (fun g => [lnb r (sp3 i tx) tx nl, lnb q i tx nl]) (fun g => g ≤ 3) ?_ ?_
  · (repeat' (first | refine zf ?_))
    refine za6 (fun k : Nat => [(7, .int .i64 (k : Int)), (1, lp q), (5, lp r), (6, .int .i64 (k : Int))]) (fun k => [lnb r (i + k) tx nl, lnb q i tx nl]) (fun k => k ≤ min (nsp (tx.drop i)) 3) (fun k => 3 - k) 0 (by omega) kB sA fun k hk => ?_
    have hd := nsp_drop (tx.drop i) k (by omega)
    rw [List.drop_drop] at hd
    by_cases hk3 : k < 3
    · by_cases hsp1 : 1 ≤ nsp (tx.drop (i + k))
      · (repeat' (first | refine za9 (trimSpace1_tr r (i + k) tx nl hnt hl (by omega) true (by simp; omega)) ?_ | refine z7 ?_ | refine z6 ?_ | refine z2 ?_ | refine z1 ?_ | refine zc ?_ | refine zb ?_ | refine zf ?_ | refine zd ?_ | refine zu ?_ | refine z8 ?_ | refine za ?_ | refine zl ?_ | refine zm ?_ | refine zaq ?_))
        exact ⟨k + 1, kB, sA, by omega, by omega⟩
      · (repeat' (first | refine za9 (trimSpace1_tr r (i + k) tx nl hnt hl (by omega) false (by simp; omega)) ?_ | refine z7 ?_ | refine z6 ?_ | refine z2 ?_ | refine z1 ?_ | refine zc ?_ | refine zf ?_ | refine zd ?_ | refine zw ?_ | refine zy ?_ | refine zz ?_ | refine zaw ?_ | refine z8 ?_ | refine zm ?_ | refine zam ?_))
        have : sp3 i tx = i + k := by omega
        rw [this]
        exact ⟨k, kA, sA, by omega⟩
    · (repeat' (first | refine z7 ?_ | refine z6 ?_ | refine z2 ?_ | refine z1 ?_ | refine zb ?_ | refine zw ?_ | refine zy ?_ | refine zz ?_ | refine z8 ?_ | refine za4 ?_))
      have : sp3 i tx = i + k := by omega
      rw [this]
      exact ⟨k, kA, sA, by omega⟩
  · intro g hg
    by_cases hdig : 48 ≤ at0 tx (sp3 i tx) ∧ at0 tx (sp3 i tx) ≤ 57
    · have hlt : sp3 i tx < tx.length := by
        by_cases hlt : sp3 i tx < tx.length
        · exact hlt
        · rw [at0_none (by omega)] at hdig; omega
      (repeat' (first | refine za9 (peek_tr _ (sp3 i tx) tx nl hl hs) ?_ | refine z7 ?_ | refine z6 ?_ | refine z2 ?_ | refine z1 ?_ | refine zb ?_ | refine zf ?_ | refine zcb ?_ | refine z8 ?_ | refine za ?_ | refine zr ?_ | refine zdi ?_))
      refine zac [(7, .int .i64 (g : Int)), (1, lp q), (5, lp r), (6, .int .i64 (g : Int)), (8, .int .u8 ((at0 tx (sp3 i tx) : Nat) : Int)), (9, .int .i64 ((0 : Nat) : Int)), (40, .bool true)] [lnb r (sp3 i tx) tx nl, lnb q i tx nl] ?_ ?_
      · (repeat' (first | refine z7 ?_ | refine z6 ?_ | refine z2 ?_ | refine z1 ?_ | refine zd ?_ | refine za ?_ | refine zt ?_ | refine zdi ?_ | refine zcp (fun hg => ?_) (fun hg => ?_)))
        all_goals exact ⟨(by repeat (first | exact trivial | refine ⟨rfl, ?_⟩ | refine ⟨congrArg (fun b => some (Value.bool b)) (decide_eq_true hg), ?_⟩)), sA⟩
      · (repeat' (first | refine z7 ?_ | refine z6 ?_ | refine z2 ?_ | refine z1 ?_ | refine zc ?_ | refine zf ?_ | refine za ?_ | refine zn ?_ | refine zp ?_))
        refine za6 (fun x : Nat × Int => [(7, .int .i64 (g : Int)), (1, lp q), (5, lp r), (6, .int .i64 (g : Int)), (9, .int .i64 x.2), (10, .int .i64 ((sp3 i tx + x.1 : Nat) : Int))]) (fun _ => [lnb r (sp3 i tx) tx nl, lnb q i tx nl])
          (fun x => (∀ k, k < x.1 → 48 ≤ at0 tx (sp3 i tx + k) ∧ at0 tx (sp3 i tx + k) ≤ 57) ∧ x.1 ≤ 9 ∧ 0 ≤ x.2 ∧ x.2 < ((10 ^ x.1 : Nat) : Int)) (fun x => 10 - x.1) (0, 0) ⟨by omega, by omega, by decide, by decide⟩ kB sA fun x hx => ?_
        obtain ⟨k, num⟩ := x
        obtain ⟨hx1, hx2, hx4, hx3⟩ := hx
        simp only at hx1 hx2 hx3 hx4 ⊢
        by_cases hend : sp3 i tx + k < tx.length
        · obtain ⟨d, hd⟩ := get_some hend
          have hv := at0_some hd
          have hno : d.toNat ≠ 46 ∧ d.toNat ≠ 41 := by
            rw [← hv]
            by_cases hk0 : k = 0
            · subst hk0; rw [Nat.add_zero]; omega
            · exact n4 k hx1 (by omega)
          by_cases hdd : 48 ≤ d.toNat ∧ d.toNat ≤ 57
          · by_cases hk9 : k < 9
            · have hpow : 10 ^ (k + 1) ≤ 10 ^ 9 := Nat.pow_le_pow_right (by omega) (by omega)
              have hpow2 : 10 ^ (k + 1) = 10 ^ k * 10 := Nat.pow_succ 10 k
              have hn9 : (10 : Nat) ^ 9 = 1000000000 := by decide
              (repeat' (first | refine z7 ?_ | refine z6 ?_ | refine z2 ?_ | refine z1 ?_ | refine zb ?_ | refine zf ?_ | refine zd ?_ | refine zu ?_ | refine zh ?_ | refine z8 ?_ | refine za ?_ | refine zn ?_ | refine zp ?_ | refine zl ?_ | refine zd6 ?_ | refine za4 ?_ | refine zab ?_ | refine zr ?_ | refine zk ?_ | refine zg ?_ | refine zi ?_ | refine zet ?_ | refine zd9 ?_ | refine zf6 ?_ | refine zfm ?_))
              refine ⟨(k + 1, num * 10 + d.toNat - 48), kB, sA, ⟨?_, ?_, ?_, ?_⟩, ?_⟩
              · intro j hj
                by_cases hjk : j < k
                · exact hx1 j hjk
                · have : j = k := by simp only at hj; omega
                  subst this; rw [hv]; exact hdd
              · simp only; omega
              · simp only; omega
              · simp only; omega
              · simp only; omega
            · (repeat' (first | refine z7 ?_ | refine z6 ?_ | refine z2 ?_ | refine z1 ?_ | refine zc ?_ | refine zb ?_ | refine zf ?_ | refine zd ?_ | refine ze ?_ | refine zx ?_ | refine zag ?_ | refine zbq ?_ | refine zh ?_ | refine z8 ?_ | refine za ?_ | refine zn ?_ | refine zp ?_ | refine zd6 ?_ | refine za4 ?_ | refine zas ?_ | refine zab ?_ | refine zr ?_ | refine zk ?_ | refine zg ?_ | refine zi ?_))
              exact e_ret _ ⟨rfl, rfl⟩ sA
          · by_cases hlow : d.toNat < 48
            · (repeat' (first | refine z7 ?_ | refine z6 ?_ | refine z2 ?_ | refine z1 ?_ | refine zc ?_ | refine zb ?_ | refine zf ?_ | refine zd ?_ | refine ze ?_ | refine zx ?_ | refine zag ?_ | refine zbq ?_ | refine zh ?_ | refine zaa ?_ | refine z8 ?_ | refine za ?_ | refine zn ?_ | refine zp ?_ | refine zm ?_ | refine zab ?_ | refine zr ?_ | refine zj ?_ | refine zk ?_ | refine zg ?_ | refine zi ?_))
              exact e_ret _ ⟨rfl, rfl⟩ sA
            · (repeat' (first | refine z7 ?_ | refine z6 ?_ | refine z2 ?_ | refine z1 ?_ | refine zc ?_ | refine zb ?_ | refine zf ?_ | refine zd ?_ | refine ze ?_ | refine zx ?_ | refine zag ?_ | refine zbq ?_ | refine zh ?_ | refine z8 ?_ | refine za ?_ | refine zn ?_ | refine zp ?_ | refine zm ?_ | refine za4 ?_ | refine zab ?_ | refine zr ?_ | refine zk ?_ | refine zg ?_ | refine zi ?_))
              exact e_ret _ ⟨rfl, rfl⟩ sA
        · (repeat' (first | refine z7 ?_ | refine z6 ?_ | refine z2 ?_ | refine z1 ?_ | refine zc ?_ | refine zf ?_ | refine ze ?_ | refine zx ?_ | refine zag ?_ | refine zbq ?_ | refine z8 ?_ | refine za ?_ | refine zn ?_ | refine zp ?_ | refine zas ?_ | refine zg ?_))
          exact e_ret _ ⟨rfl, rfl⟩ sA
    · (repeat' (first | refine za9 (peek_tr _ (sp3 i tx) tx nl hl hs) ?_ | refine z7 ?_ | refine z6 ?_ | refine z2 ?_ | refine z1 ?_ | refine zb ?_ | refine zf ?_ | refine ze ?_ | refine zx ?_ | refine zag ?_ | refine zcb ?_ | refine zbq ?_ | refine z8 ?_ | refine za ?_ | refine zr ?_))
      exact e_ret _ ⟨rfl, rfl⟩ sA

theorem newListItem_no (p g m cap d : Nat) (s : PS) (cs : List Value) (t : Nat) (u : Value) (i : Nat) (tx : List UInt8) (nl : Nat) (hnt : NoTab tx) (hl : tx.length ≤ 140737488355328) (hi : i ≤ tx.length) (h : noItem (tx.drop (sp3 i tx)))
    (hm : d < m) (hm2 : m ≤ 140737488355328) (hb : cs[0 + d * 4 + 0]? = some (.iface t u)) (ht : Nat.beq t 270 = false) (hs : s.stack = stk g m cap) (hd : s.depth = inat d) :
    TrD Tryz.prog 114 [lp p, lnv i tx nl] [s.blk p, stb g cs] (.tuple #[lnv i tx nl, .bool false]) [s.blk p, stb g cs] := by
  refine Tr.start (n := 35) (rs := [.cell 4 122, .tmp 5]) rfl rfl rfl rfl fun B => ?_
  (repeat' (first | refine za9 (curB_yes p g m cap d s cs _ hm hm2 hb hs hd) ?_ | refine za9 (startListItem_no p _ i tx nl hnt hl hi h) ?_ | refine zby (hne := ht) ?_ | refine z7 ?_ | refine z6 ?_ | refine z2 ?_ | refine z1 ?_ | refine zb ?_ | refine zd ?_ | refine ze ?_ | refine za2 ?_ | refine z8 ?_ | refine za ?_ | refine zk ?_ | refine za0 ?_ | refine zak ?_ | refine zaj ?_ | refine zai (fun _ => ?_) | refine zaf (fun _ => ?_)))
  exact e_ret _ ⟨rfl, rfl⟩ sA
end Go.Proofs

namespace Go.Proofs
open Go Go.Eng
set_option maxRecDepth 20000
set_option maxHeartbeats 4000000

abbrev unit : Value := .tuple #[]

theorem trimStack_none (p g m cap : Nat) (s : PS) (_hm : m ≤ 140737488355328) (hs : s.stack = stk g m cap) :
    TrD Tryz.prog 56 [lp p, inat m] [s.blk p] unit [s.blk p] := by
  obtain ⟨par, root, links, lineno, stack, depth, corner, str, em, list, lists, texts, bt⟩ := s
  subst hs
  refine Tr.start (n := 21) (rs := []) rfl rfl rfl rfl fun B => ?_
  (repeat' (first | refine z7 ?_ | refine z6 ?_ | refine z2 ?_ | refine z1 ?_ | refine zb ?_ | refine zf ?_ | refine zd ?_ | refine z8 ?_ | refine zn ?_ | refine zp ?_ | refine zq ?_ | refine za4 ?_ | refine zah ?_))
  refine za6 (fun _ : Nat => [(0, lp p), (1, inat m)]) (fun _ => [(⟨par, root, links, lineno, stk g m cap, depth, corner, str, em, list, lists, texts, bt⟩ : PS).blk p]) (fun _ => True) (fun _ => 0) 0 trivial kB sA fun k hk => ?_
  (repeat' (first | refine z7 ?_ | refine z6 ?_ | refine z2 ?_ | refine z1 ?_ | refine zb ?_ | refine zw ?_ | refine zy ?_ | refine zz ?_ | refine z8 ?_ | refine zn ?_ | refine zp ?_ | refine zq ?_ | refine zat ?_ | refine zah ?_))
  exact e_norm _ ⟨rfl, rfl⟩ sA

theorem trimStack_nil (p : Nat) (s : PS) (hs : s.stack = .slice none 0 0) :
    TrD Tryz.prog 56 [lp p, .int .i64 0] [s.blk p] unit [s.blk p] := by
  obtain ⟨par, root, links, lineno, stack, depth, corner, str, em, list, lists, texts, bt⟩ := s
  subst hs
  refine Tr.start (n := 21) (rs := []) rfl rfl rfl rfl fun B => ?_
  (repeat' (first | refine z7 ?_ | refine z6 ?_ | refine z2 ?_ | refine z1 ?_ | refine zb ?_ | refine zf ?_ | refine zd ?_ | refine z8 ?_ | refine zn ?_ | refine zp ?_ | refine zq ?_ | refine za4 ?_ | refine zah ?_))
  refine za6 (fun _ : Nat => [(0, lp p), (1, inat 0)]) (fun _ => [(⟨par, root, links, lineno, .slice none 0 0, depth, corner, str, em, list, lists, texts, bt⟩ : PS).blk p]) (fun _ => True) (fun _ => 0) 0 trivial kB sA fun k hk => ?_
  (repeat' (first | refine z7 ?_ | refine z6 ?_ | refine z2 ?_ | refine z1 ?_ | refine zb ?_ | refine zw ?_ | refine zy ?_ | refine zz ?_ | refine z8 ?_ | refine zn ?_ | refine zp ?_ | refine zq ?_ | refine zat ?_ | refine zah ?_))
  exact e_norm _ ⟨rfl, rfl⟩ sA

/-- The stack 'v' has 'm' blocks, whose cells are 'xs'. -/
abbrev Stk (v : Value) (m : Nat) (xs : List Value) (Bk : Blk) : Prop := Own 178 4 v m xs Bk

theorem take_set_tail {cur xs zs : List Value} {n k : Nat} (v : Value) {z : Nat} (hz : zs.length = z) (h : cur.take (n + z) = xs ++ zs) (hx : xs.length = n) : (cur.set (n + k) v).take (n + z) = xs ++ zs.set k v := by
  subst hz
  rw [List.take_set, h, List.set_append_right _ _ (by omega), hx]
  congr 2; omega

theorem addBlock_tr (p g d cap : Nat) (s : PS) (xs cur : List Value) (bty : Nat) (bv : Value) (ln : Nat) (hd : d ≤ 100000) (hO : Stk (stk g (d + 1) cap) (d + 1) xs (stb g cur)) (hs : s.stack = stk g (d + 1) cap) (hdep : s.depth = inat d) (hln : s.lineno = inat ln) :
    Tr Tryz.prog 53 [lp p, .iface bty bv] [s.blk p, stb g cur] fun u K => u = unit ∧ ∃ g' cap' cur', Stk (stk g' (d + 2) cap') (d + 2) (xs ++ [.iface bty bv, .slice none 0 0, inat ln, inat ln]) (stb g' cur') ∧
      K = [({ s with stack := stk g' (d + 2) cap' } : PS).blk p, stb g' cur'] := by
  obtain ⟨par, root, links, lineno, stack, depth, corner, str, em, list, lists, texts, bt⟩ := s
  subst hs; subst hdep; subst hln
  refine Tr.start (n := 53) (rs := []) rfl rfl rfl rfl fun B => ?_
  (repeat' (first | refine za9 (trimStack_none p g (d + 1) cap _ (by omega) rfl) ?_ | refine z7 ?_ | refine z6 ?_ | refine z2 ?_ | refine z1 ?_ | refine z8 ?_ | refine zn ?_ | refine zp ?_ | refine zq ?_ | refine zl ?_ | refine zdh ?_ | refine zdn (fun _ => ?_)))
  refine zbz hO (by omega) (fun v' Bk' hO' => ?_)
  obtain ⟨g', cap', cur', rfl, rfl, h1, h2, h3, h4⟩ := hO'.pos
  (repeat' (first | refine Wp.draw_all (id := 2) Mixed.out (by kernel_rfl) ?_ | refine zc5 ?_ | refine z7 ?_ | refine z6 ?_ | refine z2 ?_ | refine z1 ?_ | refine z8 ?_ | refine zn ?_ | refine zp ?_ | refine zq ?_ | refine za5 ?_ | refine za8 ?_ | refine za7 ?_ | refine zbg ?_ | refine za3 ?_ | refine zae ?_ | refine zad ?_ | refine zc7 ?_ | refine zb5 ?_ | refine zb9 ?_))
  have e : (d + 1 + 1 - 1) * 4 = (d + 1) * 4 := by omega
  rw [e]
  simp only [Nat.zero_add, Nat.add_assoc, Nat.reduceAdd]
  have hxl : xs.length = (d + 1) * 4 := hO.1
  have h5 : cur'.take ((d + 1) * 4 + 4) = xs ++ [.nilIface, .slice none 0 0, .int .i64 0, .int .i64 0] := by rw [← show (d + 1 + 1) * 4 = (d + 1) * 4 + 4 by omega]; exact h4
  have h6 := take_set_tail (z := 4) (k := 0) (.iface bty bv) rfl h5 hxl
  have h7 := take_set_tail (z := 4) (k := 2) (inat ln) rfl h6 hxl
  have h8 := take_set_tail (z := 4) (k := 3) (inat ln) rfl h7 hxl
  refine e_norm [_, stb g' _] ⟨rfl, g', cap', _, ?_, rfl⟩ sA
  have h9 := Own.mk' (E := 178) (g := g') (cur := ((cur'.set ((d + 1) * 4 + 0) (.iface bty bv)).set ((d + 1) * 4 + 2) (inat ln)).set ((d + 1) * 4 + 3) (inat ln)) h1 h2 (by simpa using h3)
  rw [show (d + 1 + 1) * 4 = (d + 1) * 4 + 4 by omega] at h9
  exact h8 ▸ h9

theorem addBlock_root (p : Nat) (s : PS) (bty : Nat) (bv : Value) (ln : Nat) (hs : s.stack = .slice none 0 0) (hdep : s.depth = .int .i64 (-1)) (hln : s.lineno = inat ln) :
    Tr Tryz.prog 53 [lp p, .iface bty bv] [s.blk p] fun u K => u = unit ∧ ∃ g' cap' cur', Stk (stk g' 1 cap') 1 [.iface bty bv, .slice none 0 0, inat ln, inat ln] (stb g' cur') ∧
      K = [({ s with stack := stk g' 1 cap' } : PS).blk p, stb g' cur'] := by
  obtain ⟨par, root, links, lineno, stack, depth, corner, str, em, list, lists, texts, bt⟩ := s
  subst hs; subst hdep; subst hln
  refine Tr.start (n := 53) (rs := []) rfl rfl rfl rfl fun B => ?_
  (repeat' (first | refine za9 (trimStack_nil p _ rfl) ?_ | refine z7 ?_ | refine z6 ?_ | refine z2 ?_ | refine z1 ?_ | refine z8 ?_ | refine zn ?_ | refine zp ?_ | refine zq ?_ | refine zet ?_ | refine zdh ?_ | refine zdn (fun _ => ?_)))
  refine zct ?_
  refine zbz (Own.nil _ _) (by omega) (fun v' Bk' hO' => ?_)
  obtain ⟨g', cap', cur', rfl, rfl, h1, h2, h3, h4⟩ := hO'.pos
  (repeat' (first | refine Wp.draw_all (id := 2) Mixed.out (by kernel_rfl) ?_ | refine zc5 ?_ | refine z7 ?_ | refine z6 ?_ | refine z2 ?_ | refine z1 ?_ | refine z8 ?_ | refine zn ?_ | refine zp ?_ | refine zq ?_ | refine za5 ?_ | refine za8 ?_ | refine za7 ?_ | refine zbg ?_ | refine za3 ?_ | refine zae ?_ | refine zad ?_ | refine zc7 ?_ | refine zb5 ?_ | refine zb9 ?_))
  have h5 : cur'.take (0 + 4) = [] ++ [.nilIface, .slice none 0 0, .int .i64 0, .int .i64 0] := h4
  have h6 := take_set_tail (z := 4) (k := 0) (.iface bty bv) rfl h5 rfl
  have h7 := take_set_tail (z := 4) (k := 2) (inat ln) rfl h6 rfl
  have h8 := take_set_tail (z := 4) (k := 3) (inat ln) rfl h7 rfl
  refine e_norm [_, stb g' _] ⟨rfl, g', cap', _, ?_, rfl⟩ sA
  have h9 := Own.mk' (E := 178) (g := g') (cur := ((cur'.set (0 + 0) (.iface bty bv)).set (0 + 2) (inat ln)).set (0 + 3) (inat ln)) h1 h2 (by simpa using h3)
  have h10 : (((cur'.set (0 + 0) (.iface bty bv)).set (0 + 2) (inat ln)).set (0 + 3) (inat ln)).take ((0 + 1) * 4) = [.iface bty bv, .slice none 0 0, inat ln, inat ln] := h8
  rw [h10] at h9
  exact h9

end Go.Proofs

namespace Go.Proofs
open Go Go.Eng
set_option maxRecDepth 20000
set_option maxHeartbeats 4000000

/-- A paragraph's builder, and its lines. -/
abbrev pbb (b : Nat) (tv : Value) : Blk := [(b, cellsOf [tv, .pointer none] 227)]
abbrev Strs (v : Value) (l : List (List UInt8)) (Bk : Blk) : Prop := Own 9 1 v l.length (l.map str) Bk
/-- A parser's options. -/
structure PO where
  headID : Bool
  del : Bool
  tasks : Bool
  auto : Bool
  autoHTTP : Bool
  table : Bool
  emoji : Bool
  dots : Bool
  dashes : Bool
  quotes : Bool
abbrev PO.blk (o : PO) (r : Nat) : Blk := [(r, cellsOf [.bool o.headID, .bool o.del, .bool o.tasks, .bool o.auto, .bool o.autoHTTP, .bool o.table, .bool o.emoji, .bool o.dots, .bool o.dashes, .bool o.quotes] 85)]

theorem newPara_first (p g d cap pr : Nat) (o : PO) (s : PS) (xs cur : List Value) (bty : Nat) (bv : Value) (ln i : Nat) (tx : List UInt8) (nl : Nat) (hl : tx.length ≤ 140737488355328) (hi : i ≤ tx.length) (hd : d ≤ 100000)
    (hO : Stk (stk g (d + 1) cap) (d + 1) xs (stb g cur)) (hb : xs[d * 4]? = some (.iface bty bv)) (ht : Nat.beq bty 223 = false)
    (hs : s.stack = stk g (d + 1) cap) (hdep : s.depth = inat d) (hln : s.lineno = inat ln) (hpar : s.par = lp pr) (htab : o.table = false) :
    Tr Tryz.prog 82 [lp p, lnv i tx nl] [s.blk p, stb g cur, o.blk pr] fun u K => u = .tuple #[lnv 0 [] 0, .bool true] ∧ ∃ g' cap' cur' pb tv Bt, Stk (stk g' (d + 2) cap') (d + 2) (xs ++ [.iface 223 (lp pb), .slice none 0 0, inat ln, inat ln]) (stb g' cur') ∧
      Strs tv [ltrim (tx.drop i)] Bt ∧ K = [({ s with stack := stk g' (d + 2) cap' } : PS).blk p, stb g' cur', o.blk pr, pbb pb tv, Bt] := by
  obtain ⟨par, root, links, lineno, stack, depth, corner, str, em, list, lists, texts, bt⟩ := s
  obtain ⟨o1, o2, o3, o4, o5, o6, o7, o8, o9, o10⟩ := o
  subst hs; subst hdep; subst hln; subst hpar; subst htab
  have hb' : cur[0 + (d + 1 - 1) * 4 + 0]? = some (.iface bty bv) := by
    rw [show 0 + (d + 1 - 1) * 4 + 0 = d * 4 by omega]; exact hO.get hb
  refine Tr.start (n := 175) (rs := [.cell 4 122, .tmp 5]) rfl rfl rfl rfl fun B => ?_
  (repeat' (first | refine Wp.draw_all (id := 2) Mixed.out (by kernel_rfl) ?_ | refine Wp.draw_tail (id := 9) 36 Mixed.out (by kernel_rfl) ?_ | refine za9 (para_no p g (d + 1) cap _ cur bty bv (by omega) (by omega) hb' ht rfl) ?_ | refine za9 (trimSpaceString_tr _ i tx nl hl hi) ?_ | refine z7 ?_ | refine z6 ?_ | refine z2 ?_ | refine z1 ?_ | refine zb ?_ | refine zd ?_ | refine za2 ?_ | refine z8 ?_ | refine za ?_ | refine zk ?_ | refine zan ?_ | refine zcl ?_ | refine zai (fun _ => ?_) | refine zaf (fun _ => ?_) | refine za8 ?_ | refine zbx ?_ | refine za7 ?_ | refine zbg ?_ | refine za3 ?_ | refine zae ?_ | refine zad ?_ | refine zc1 ?_ | refine zbc ?_ | refine zb5 ?_ | refine zdr ?_))
  rename_i r0 r1 pb
  refine za1 (addBlock_tr p g d cap _ xs cur _ _ ln hd hO rfl rfl rfl) (fun u K hR => ?_)
  obtain ⟨rfl, g', cap', cur', hO', rfl⟩ := hR
  (repeat' (first | refine z7 ?_ | refine z6 ?_ | refine z2 ?_ | refine z1 ?_ | refine z8 ?_ | refine zn ?_ | refine zp ?_ | refine zq ?_ | refine zb7 (fun _ => ?_)))
  refine zct ?_
  refine zbz (Own.nil _ _) (by omega) (fun v' Bk' hT => ?_)
  obtain ⟨g2, cap2, cur2, rfl, rfl, h1, h2, h3, h4⟩ := hT.pos
  (repeat' (first | refine z7 ?_ | refine z6 ?_ | refine z2 ?_ | refine z1 ?_ | refine ze ?_ | refine za ?_ | refine zp ?_ | refine zq ?_ | refine za5 ?_ | refine zaj ?_ | refine zdh ?_))
  exact e_ret _ ⟨rfl, g', cap', cur', pb, _, _, hO', hT, rfl⟩ sA
end Go.Proofs

namespace Go.Proofs
open Go Go.Eng
set_option maxRecDepth 20000
set_option maxHeartbeats 4000000

/-- The last lines of the blocks from 'd' on are set. -/
def ends (cs : List Value) (d : Nat) (v : Value) : Nat → List Value
  | 0 => cs
  | j + 1 => (ends cs d v j).set (0 + (d + j) * 4 + 2 + 1) v
theorem ends_len (cs : List Value) (d : Nat) (v : Value) : ∀ j, (ends cs d v j).length = cs.length
  | 0 => rfl
  | j + 1 => by rw [ends, List.length_set, ends_len]
theorem ends_take (cs : List Value) (d : Nat) (v : Value) (n : Nat) : ∀ j, (ends cs d v j).take n = ends (cs.take n) d v j
  | 0 => rfl
  | j + 1 => by rw [ends, List.take_set, ends_take cs d v n j]; rfl

theorem newPara_more (p g d m cap pr pb : Nat) (o : PO) (s : PS) (xs cur : List Value) (ln i : Nat) (tv : Value) (l : List (List UInt8)) (Bt : Blk) (tx : List UInt8) (nl : Nat) (hl : tx.length ≤ 140737488355328) (hi : i ≤ tx.length) (hd : d + 1 ≤ m) (hm : m ≤ 100000) (hll : l.length ≤ 100000000)
    (hO : Stk (stk g m cap) m xs (stb g cur)) (hb : xs[(m - 1) * 4]? = some (.iface 223 (lp pb))) (hT : Strs tv l Bt)
    (hs : s.stack = stk g m cap) (hdep : s.depth = inat d) (hln : s.lineno = inat ln) (hpar : s.par = lp pr) (htab : o.table = false) :
    Tr Tryz.prog 82 [lp p, lnv i tx nl] [s.blk p, stb g cur, o.blk pr, pbb pb tv, Bt] fun u K => u = .tuple #[lnv 0 [] 0, .bool true] ∧ ∃ cur' tv' Bt', Stk (stk g m cap) m (ends xs d (inat ln) (m - d)) (stb g cur') ∧
      Strs tv' (l ++ [ltrim (tx.drop i)]) Bt' ∧ K = [s.blk p, stb g cur', o.blk pr, pbb pb tv', Bt'] := by
  obtain ⟨par, root, links, lineno, stack, depth, corner, str, em, list, lists, texts, bt⟩ := s
  obtain ⟨o1, o2, o3, o4, o5, o6, o7, o8, o9, o10⟩ := o
  subst hs; subst hdep; subst hln; subst hpar; subst htab
  have hb' : cur[0 + (m - 1) * 4 + 0]? = some (.iface 223 (lp pb)) := by
    rw [show 0 + (m - 1) * 4 + 0 = (m - 1) * 4 by omega]; exact hO.get hb
  obtain ⟨v1, v2, v3, v4⟩ := hO.view
  refine Tr.start (n := 175) (rs := [.cell 4 122, .tmp 5]) rfl rfl rfl rfl fun B => ?_
  (repeat' (first | refine Wp.draw_all (id := 2) Mixed.out (by kernel_rfl) ?_ | refine Wp.draw_tail (id := 9) 36 Mixed.out (by kernel_rfl) ?_ | refine za9 (para_yes p g m cap _ cur _ (by omega) (by omega) hb' rfl) ?_ | refine za9 (trimSpaceString_tr _ i tx nl hl hi) ?_ | refine z7 ?_ | refine z6 ?_ | refine z2 ?_ | refine z1 ?_ | refine zc ?_ | refine zb ?_ | refine zd ?_ | refine zh ?_ | refine za2 ?_ | refine z8 ?_ | refine za ?_ | refine zn ?_ | refine zp ?_ | refine zq ?_ | refine zj ?_ | refine zk ?_ | refine zcl ?_ | refine zdl ?_ | refine zai (fun _ => ?_) | refine zaf (fun _ => ?_) | refine za8 ?_ | refine zbx ?_ | refine za7 ?_ | refine zbg ?_ | refine za3 ?_ | refine zae ?_ | refine zad ?_ | refine zgq ?_ | refine zbc ?_ | refine zb5 ?_ | refine zdr ?_))
  rename_i r3 r4
  have hends : ∀ j, (ends cur d (inat ln) j).length = cap * 4 := fun j => by rw [ends_len, v3]
  refine zac [(0, lp p), (4, lp r4), (6, lp pb), (8, Eng.str (ltrim (tx.drop i)))]
    [(⟨lp pr, root, links, inat ln, stk g m cap, inat d, corner, str, em, list, lists, texts, bt⟩ : PS).blk p, stb g (ends cur d (inat ln) (m - d)), (⟨o1, o2, o3, o4, o5, false, o7, o8, o9, o10⟩ : PO).blk pr, pbb pb tv, Bt, lnb r4 0 [] 0] ?_ ?_
  · (repeat' (first | refine zf ?_))
    refine za6 (fun j : Nat => [(0, lp p), (4, lp r4), (6, lp pb), (8, Eng.str (ltrim (tx.drop i))), (11, inat (d + j))])
      (fun j => [(⟨lp pr, root, links, inat ln, stk g m cap, inat d, corner, str, em, list, lists, texts, bt⟩ : PS).blk p, stb g (ends cur d (inat ln) j), (⟨o1, o2, o3, o4, o5, false, o7, o8, o9, o10⟩ : PO).blk pr, pbb pb tv, Bt, lnb r4 0 [] 0]) (fun j => d + j ≤ m) (fun j => m - (d + j)) 0 (by omega) kB sA fun j hj => ?_
    have hej := hends j
    by_cases hjm : d + j < m
    · (repeat' (first | refine Wp.draw_tail (id := 21) 9 Mixed.out (by kernel_rfl) ?_ | refine zc5 ?_ | refine z7 ?_ | refine z6 ?_ | refine z2 ?_ | refine z1 ?_ | refine zc ?_ | refine zf ?_ | refine zd ?_ | refine zu ?_ | refine z8 ?_ | refine za ?_ | refine zn ?_ | refine zp ?_ | refine zq ?_ | refine zl ?_ | refine zm ?_ | refine zah ?_ | refine zal ?_ | refine za8 ?_ | refine za7 ?_ | refine za3 ?_ | refine zae ?_ | refine zad ?_))
      exact ⟨j + 1, kB, sA, by omega, by omega⟩
    · have : m - d = j := by omega
      rw [this]
      (repeat' (first | refine z7 ?_ | refine z6 ?_ | refine z2 ?_ | refine z1 ?_ | refine zb ?_ | refine zw ?_ | refine zy ?_ | refine zz ?_ | refine z8 ?_ | refine zn ?_ | refine zp ?_ | refine zq ?_ | refine za4 ?_ | refine zah ?_))
      exact ⟨kA, sA⟩
  · (repeat' (first | refine z7 ?_ | refine z6 ?_ | refine z8 ?_ | refine zn ?_ | refine zp ?_ | refine zq ?_ | refine zb7 (fun _ => ?_)))
    refine zbz hT (by simpa using (by omega : l.length ≤ 1000000000)) (fun v' Bk' hT' => ?_)
    obtain ⟨g2, cap2, cur2, rfl, rfl, h1, h2, h3, h4⟩ := hT'.pos
    (repeat' (first | refine z7 ?_ | refine z6 ?_ | refine z2 ?_ | refine z1 ?_ | refine ze ?_ | refine za ?_ | refine zp ?_ | refine zq ?_ | refine za5 ?_ | refine zaj ?_ | refine zdh ?_))
    have h9 := Own.mk' (E := 178) (g := g) (cur := ends cur d (inat ln) (m - d)) v1 v2 (hends _)
    rw [ends_take, v4] at h9
    refine e_ret _ ⟨rfl, _, _, _, h9, ?_, rfl⟩ sA
    simpa [Strs] using hT'
end Go.Proofs

namespace Go.Proofs
open Go Go.Eng
set_option maxRecDepth 20000
set_option maxHeartbeats 4000000

/-- The functions that a line is tried with. -/
abbrev newsL : List Value := [.func (.func 110) #[] #[], .func (.func 111) #[] #[], .func (.func 112) #[] #[], .func (.func 113) #[] #[], .func (.func 114) #[] #[], .func (.func 115) #[] #[], .func (.func 116) #[] #[], .func (.func 117) #[] #[]]
theorem news_tr : Tr Tryz.prog 81 [] [] fun u K => ∃ r, u = .slice (some ⟨r, 0, none⟩) 8 8 ∧ K = [[(r, cellsOf newsL 181)]] := by
  refine Tr.start (n := 2) (rs := [.tmp 0]) rfl rfl rfl rfl fun B => ?_
  (repeat' (first | refine z7 ?_ | refine z6 ?_ | refine z2 ?_ | refine z1 ?_ | refine ze ?_ | refine za ?_ | refine zek (fun _ => ?_)))
  exact e_ret _ ⟨_, rfl, rfl⟩ (SubH.refl _)

/-- A line that begins nothing but a paragraph. -/
structure PLine (i : Nat) (tx : List UInt8) : Prop where
  nt : NoTab tx
  len : tx.length ≤ 140737488355328
  le : i ≤ tx.length
  ink : ltrim (tx.drop i) ≠ []
  sp : nsp (tx.drop i) < 4
  quote : at0 tx (sp3 i tx) ≠ 62
  atx : ∀ nl q nq nv, TrD Tryz.prog 150 [lp q, lp nq] [lnb q i tx nl, [(nq, cellsOf [nv] 3)]] (.bool false) [lnb q i tx nl, [(nq, cellsOf [nv] 3)]]
  m45 : at0 tx (sp3 i tx) ≠ 45
  m95 : at0 tx (sp3 i tx) ≠ 95
  m42 : at0 tx (sp3 i tx) ≠ 42
  m60 : at0 tx (sp3 i tx) ≠ 60
  m96 : at0 tx (sp3 i tx) ≠ 96
  m126 : at0 tx (sp3 i tx) ≠ 126
  m61 : at0 tx (sp3 i tx) ≠ 61
  item : noItem (tx.drop (sp3 i tx))

theorem addLine_first (p g cap pr : Nat) (o : PO) (s : PS) (cur : List Value) (bty : Nat) (bv e1 e2 e3 : Value) (ln : Nat) (tx : List UInt8) (nl : Nat) (hp : PLine 0 tx)
    (hO : Stk (stk g 1 cap) 1 [.iface bty bv, e1, e2, e3] (stb g cur)) (ht : Nat.beq bty 223 = false) (ht2 : Nat.beq bty 270 = false)
    (hs : s.stack = stk g 1 cap) (hln : s.lineno = inat ln) (hpar : s.par = lp pr) (htab : o.table = false) :
    Tr Tryz.prog 55 [lp p, lnv 0 tx nl] [s.blk p, stb g cur, o.blk pr] fun u K => u = unit ∧ ∃ g' cap' cur' pb tv Bt, Stk (stk g' 2 cap') 2 ([.iface bty bv, e1, e2, e3] ++ [.iface 223 (lp pb), .slice none 0 0, inat ln, inat ln]) (stb g' cur') ∧
      Strs tv [ltrim tx] Bt ∧ K = [({ s with stack := stk g' 2 cap', depth := inat 0 } : PS).blk p, stb g' cur', o.blk pr, pbb pb tv, Bt] := by
  obtain ⟨par, root, links, lineno, stack, depth, corner, str, em, list, lists, texts, bt⟩ := s
  subst hs; subst hln; subst hpar
  obtain ⟨v1, v2, v3, v4⟩ := hO.view
  have hb : cur[0 + (1 - 1) * 4 + 0]? = some (.iface bty bv) := hO.get rfl
  refine Tr.start (n := 113) (rs := []) rfl rfl rfl rfl fun B => ?_
  (repeat' (first | refine z7 ?_ | refine z6 ?_ | refine z2 ?_ | refine z1 ?_ | refine zc9 ?_ | refine z8 ?_ | refine zp ?_ | refine zq ?_ | refine za5 ?_ | refine zaf (fun _ => ?_)))
  rename_i r3
  refine zac [(0, lp p), (3, lp r3)]
    [(⟨lp pr, root, links, inat ln, stk g 1 cap, inat 0, corner, str, em, list, lists, texts, bt⟩ : PS).blk p, stb g cur, o.blk pr, lnb r3 0 tx nl] ?_ ?_
  · (repeat' (first | refine zf ?_))
    refine za6 (fun _ : Nat => [(0, lp p), (3, lp r3)]) (fun _ => [(⟨lp pr, root, links, inat ln, stk g 1 cap, inat 0, corner, str, em, list, lists, texts, bt⟩ : PS).blk p, stb g cur, o.blk pr, lnb r3 0 tx nl]) (fun _ => True) (fun _ => 0) 0 trivial kB sA fun k hk => ?_
    (repeat' (first | refine Wp.draw_all (id := 2) Mixed.out (by kernel_rfl) ?_ | refine z7 ?_ | refine z2 ?_ | refine z1 ?_ | refine zb ?_ | refine zw ?_ | refine zy ?_ | refine zz ?_ | refine za8 ?_ | refine za7 ?_ | refine za3 ?_ | refine zae ?_ | refine zad ?_ | refine zcg ?_ | refine zdm ?_ | refine zb5 ?_))
    exact ⟨kA, sA⟩
  · (repeat' (first | refine za9 (isBlank_tr r3 0 tx nl hp.len hp.le false (decide_eq_false hp.ink).symm) ?_ | refine z7 ?_ | refine z6 ?_ | refine z2 ?_ | refine z1 ?_ | refine zb ?_ | refine zd ?_ | refine zcb ?_))
    refine za1 news_tr (fun u K hR => ?_)
    obtain ⟨rn, rfl, rfl⟩ := hR
    (repeat' (first | refine z2 ?_ | refine z1 ?_ | refine z8 ?_ | refine zah ?_))
    refine zac [(0, lp p), (3, lp r3)] [(⟨lp pr, root, links, inat ln, stk g 1 cap, inat 0, corner, str, em, list, lists, texts, bt⟩ : PS).blk p, stb g cur, o.blk pr, lnb r3 0 tx nl] ?_ ?_
    · (repeat' (first | refine zf ?_))
      refine za6 (fun k : Nat => [(0, lp p), (3, lp r3), (86, .slice (some ⟨rn, 0, none⟩) 8 8), (87, inat 8), (88, inat k)]) (fun _ => [(⟨lp pr, root, links, inat ln, stk g 1 cap, inat 0, corner, str, em, list, lists, texts, bt⟩ : PS).blk p, stb g cur, o.blk pr, lnb r3 0 tx nl, [(rn, cellsOf newsL 181)]])
        (fun k => k ≤ 8) (fun k => 8 - k) 0 (by omega) kB sA fun k hk => ?_
      rcases (by omega : k = 0 ∨ k = 1 ∨ k = 2 ∨ k = 3 ∨ k = 4 ∨ k = 5 ∨ k = 6 ∨ k = 7 ∨ k = 8) with rfl | rfl | rfl | rfl | rfl | rfl | rfl | rfl | rfl
      · (repeat' (first | refine zbl (newQuote_no (lp p) 0 tx nl hp.nt hp.len hp.le hp.quote) ?_ | refine z7 ?_ | refine z6 ?_ | refine z2 ?_ | refine z1 ?_ | refine zc ?_ | refine zb ?_ | refine zf ?_ | refine zd ?_ | refine zu ?_ | refine z8 ?_ | refine za ?_ | refine zn ?_ | refine zl ?_ | refine zm ?_ | refine za0 ?_ | refine zal ?_ | refine zak ?_ | refine zaj ?_ | refine zai (fun _ => ?_)))
        exact ⟨1, kB, sA, by omega, by omega⟩
      · (repeat' (first | refine zbl (newATX_no (lp p) 0 tx nl (fun q nq nv => hp.atx nl q nq nv)) ?_ | refine z7 ?_ | refine z6 ?_ | refine z2 ?_ | refine z1 ?_ | refine zc ?_ | refine zb ?_ | refine zf ?_ | refine zd ?_ | refine zu ?_ | refine z8 ?_ | refine za ?_ | refine zn ?_ | refine zl ?_ | refine zm ?_ | refine za0 ?_ | refine zal ?_ | refine zak ?_ | refine zaj ?_ | refine zai (fun _ => ?_)))
        exact ⟨2, kB, sA, by omega, by omega⟩
      · (repeat' (first | refine zbl (setext_no1 p g 1 cap 0 _ cur bty bv 0 tx nl (by omega) (by omega) (by omega) hb ht rfl rfl) ?_ | refine z7 ?_ | refine z6 ?_ | refine z2 ?_ | refine z1 ?_ | refine zc ?_ | refine zb ?_ | refine zf ?_ | refine zd ?_ | refine zu ?_ | refine z8 ?_ | refine za ?_ | refine zn ?_ | refine zl ?_ | refine zm ?_ | refine za0 ?_ | refine zal ?_ | refine zak ?_ | refine zaj ?_ | refine zai (fun _ => ?_)))
        exact ⟨3, kB, sA, by omega, by omega⟩
      · (repeat' (first | refine zbl (newHR_no (lp p) 0 tx nl hp.nt hp.len hp.le hp.m45 hp.m95 hp.m42) ?_ | refine z7 ?_ | refine z6 ?_ | refine z2 ?_ | refine z1 ?_ | refine zc ?_ | refine zb ?_ | refine zf ?_ | refine zd ?_ | refine zu ?_ | refine z8 ?_ | refine za ?_ | refine zn ?_ | refine zl ?_ | refine zm ?_ | refine za0 ?_ | refine zal ?_ | refine zak ?_ | refine zaj ?_ | refine zai (fun _ => ?_)))
        exact ⟨4, kB, sA, by omega, by omega⟩
      · (repeat' (first | refine zbl (newListItem_no p g 1 cap 0 _ cur bty bv 0 tx nl hp.nt hp.len hp.le hp.item (by omega) (by omega) hb ht2 rfl rfl) ?_ | refine z7 ?_ | refine z6 ?_ | refine z2 ?_ | refine z1 ?_ | refine zc ?_ | refine zb ?_ | refine zf ?_ | refine zd ?_ | refine zu ?_ | refine z8 ?_ | refine za ?_ | refine zn ?_ | refine zl ?_ | refine zm ?_ | refine za0 ?_ | refine zal ?_ | refine zak ?_ | refine zaj ?_ | refine zai (fun _ => ?_)))
        exact ⟨5, kB, sA, by omega, by omega⟩
      · (repeat' (first | refine zbl (newHTML_no (lp p) 0 tx nl hp.nt hp.len hp.le hp.m60) ?_ | refine z7 ?_ | refine z6 ?_ | refine z2 ?_ | refine z1 ?_ | refine zc ?_ | refine zb ?_ | refine zf ?_ | refine zd ?_ | refine zu ?_ | refine z8 ?_ | refine za ?_ | refine zn ?_ | refine zl ?_ | refine zm ?_ | refine za0 ?_ | refine zal ?_ | refine zak ?_ | refine zaj ?_ | refine zai (fun _ => ?_)))
        exact ⟨6, kB, sA, by omega, by omega⟩
      · (repeat' (first | refine zbl (newFence_no (lp p) 0 tx nl hp.nt hp.len hp.le hp.m96 hp.m126) ?_ | refine z7 ?_ | refine z6 ?_ | refine z2 ?_ | refine z1 ?_ | refine zc ?_ | refine zb ?_ | refine zf ?_ | refine zd ?_ | refine zu ?_ | refine z8 ?_ | refine za ?_ | refine zn ?_ | refine zl ?_ | refine zm ?_ | refine za0 ?_ | refine zal ?_ | refine zak ?_ | refine zaj ?_ | refine zai (fun _ => ?_)))
        exact ⟨7, kB, sA, by omega, by omega⟩
      · (repeat' (first | refine zbl (pre_no1 p g 1 cap _ cur bty bv 0 tx nl (by omega) (by omega) hb ht rfl hp.nt hp.len hp.le hp.sp) ?_ | refine z7 ?_ | refine z6 ?_ | refine z2 ?_ | refine z1 ?_ | refine zc ?_ | refine zb ?_ | refine zf ?_ | refine zd ?_ | refine zu ?_ | refine z8 ?_ | refine za ?_ | refine zn ?_ | refine zl ?_ | refine zm ?_ | refine za0 ?_ | refine zal ?_ | refine zak ?_ | refine zaj ?_ | refine zai (fun _ => ?_)))
        exact ⟨8, kB, sA, by omega, by omega⟩
      · (repeat' (first | refine z7 ?_ | refine z6 ?_ | refine z2 ?_ | refine z1 ?_ | refine zb ?_ | refine zw ?_ | refine zy ?_ | refine zz ?_ | refine za4 ?_))
        exact ⟨kA, sA⟩
    · (repeat' (first | refine z6 ?_ | refine z8 ?_ | refine zak ?_))
      refine za1 (newPara_first p g 0 cap pr o _ [.iface bty bv, e1, e2, e3] cur bty bv ln 0 tx nl hp.len hp.le (by omega) hO rfl ht rfl rfl rfl rfl htab) (fun u K hR => ?_)
      obtain ⟨rfl, g', cap', cur', pb, tv, Bt, h1, h2, rfl⟩ := hR
      (repeat' (first | refine z2 ?_ | refine zd5 ?_))
      exact e_norm _ ⟨rfl, g', cap', cur', pb, tv, Bt, h1, h2, rfl⟩ sA
end Go.Proofs

namespace Go.Proofs
open Go Go.Eng
set_option maxRecDepth 20000
set_option maxHeartbeats 4000000
theorem eq_int (d0 : Nat) (a : Int) (w : World) : (Op.equalIn (d0 + 1) 3 (.int .i64 a) (.int .i64 a)).run Tryz.prog w = .ok true w := by
  rw [Op.equalIn]; simp [underlying, Tryz.underlying3]
theorem eq_u8 (d0 : Nat) (a : Int) (w : World) : (Op.equalIn (d0 + 1) 5 (.int .u8 a) (.int .u8 a)).run Tryz.prog w = .ok true w := by
  rw [Op.equalIn]; simp [underlying, Tryz.underlying5]
theorem eq_str (d0 : Nat) (l : List UInt8) (w : World) : (Op.equalIn (d0 + 1) 9 (str l) (str l)).run Tryz.prog w = .ok true w := by
  rw [Op.equalIn]; simp [underlying, Tryz.underlying9]; show (l.toArray == l.toArray) = true; simp
theorem eq_line (a b c : Int) (l : List UInt8) (d : Int) (w : World) : (Op.equalIn (9999 + 1) 122 (.agg #[.int .i64 a, .int .i64 b, .int .i64 c, str l, .int .u8 d]) (.agg #[.int .i64 a, .int .i64 b, .int .i64 c, str l, .int .u8 d])).run Tryz.prog w = .ok true w := by
  rw [Op.equalIn]
  have h1 := fun a w => eq_int 9998 a w
  have h2 := fun a w => eq_u8 9998 a w
  have h3 := fun a w => eq_str 9998 a w
  simp only [Nat.reduceAdd] at h1 h2 h3
  simp [underlying, Tryz.underlying122, part, isAgg, Tryz.underlying3, Tryz.underlying9, Tryz.underlying5, h1, h2, h3]
theorem q_ne_line {L : Eng.Loc} {H : Heap} {x y : Operand} {ty yt : TypeId} {a b c : Int} {l : List UInt8} {d : Int} (hx : ev L x = some (.agg [.int .i64 a, .int .i64 b, .int .i64 c, str l, .int .u8 d].toArray)) (hy : ev L y = some (.agg [.int .i64 a, .int .i64 b, .int .i64 c, str l, .int .u8 d].toArray)) :
    Pure1 Tryz.prog L H (.binOp .neq 122 x y yt) ty (.bool false) :=
  zbf hx hy fun w => by
    have h := run_nequal_step (P := Tryz.prog) (fun w => eq_line a b c l d w) rfl w
    simp [eqGuard]
    exact h
theorem s_neline {B : Base} {n : Nat} {L : Eng.Loc} {H : Heap} {Q : Eng.Post} {all : Array Oper} {rest : List Oper} {dd : Nat} {ty : TypeId} {pos : String} {after : Array Edge} {x y : Operand} {yt : TypeId} {a b c : Int} {l : List UInt8} {d : Int} (h : Ops Tryz.prog B n all rest ((dd, .bool false) :: L) H Q)
    (hx : ev L x = some (.agg [.int .i64 a, .int .i64 b, .int .i64 c, str l, .int .u8 d].toArray) := by rfl) (hy : ev L y = some (.agg [.int .i64 a, .int .i64 b, .int .i64 c, str l, .int .u8 d].toArray) := by rfl) (hd : Nat.blt dd n = true := by rfl) :
    Ops Tryz.prog B n all (⟨some dd, .binOp .neq 122 x y yt, ty, pos, after, none⟩ :: rest) L H Q := Ops.pure _ (q_ne_line hx hy) hd h

theorem extend_tr (v p : Value) (i : Nat) (tx : List UInt8) (nl : Nat) : TrP Tryz.prog 315 [v, p, lnv i tx nl] (.tuple #[lnv i tx nl, .bool false]) := by
  refine Tr.start (n := 9) (rs := [.cell 6 122, .tmp 7]) rfl rfl rfl rfl fun B => ?_
  (repeat' (first | refine z7 ?_ | refine z6 ?_ | refine z2 ?_ | refine z1 ?_ | refine ze ?_ | refine za ?_ | refine zak ?_ | refine zaj ?_ | refine zai (fun _ => ?_) | refine zaf (fun _ => ?_)))
  exact e_pure ⟨rfl, rfl⟩

theorem addLine_more (p g cap pr pb : Nat) (o : PO) (s : PS) (cur : List Value) (bty : Nat) (bv e1 e2 e3 f1 f2 f3 tv : Value) (l : List (List UInt8)) (Bt : Blk) (ln : Nat) (tx : List UInt8) (nl : Nat) (hp : PLine 0 tx) (hll : l.length ≤ 100000000)
    (hO : Stk (stk g 2 cap) 2 [.iface bty bv, e1, e2, e3, .iface 223 (lp pb), f1, f2, f3] (stb g cur)) (hT : Strs tv l Bt) (ht2 : Nat.beq bty 270 = false)
    (hs : s.stack = stk g 2 cap) (hln : s.lineno = inat ln) (hpar : s.par = lp pr) (htab : o.table = false) :
    Tr Tryz.prog 55 [lp p, lnv 0 tx nl] [s.blk p, stb g cur, o.blk pr, pbb pb tv, Bt] fun u K => u = unit ∧ ∃ cur' tv' Bt', Stk (stk g 2 cap) 2 [.iface bty bv, e1, e2, inat ln, .iface 223 (lp pb), f1, f2, inat ln] (stb g cur') ∧
      Strs tv' (l ++ [ltrim tx]) Bt' ∧ K = [({ s with depth := inat 0 } : PS).blk p, stb g cur', o.blk pr, pbb pb tv', Bt'] := by
  obtain ⟨par, root, links, lineno, stack, depth, corner, str, em, list, lists, texts, bt⟩ := s
  subst hs; subst hln; subst hpar
  obtain ⟨v1, v2, v3, v4⟩ := hO.view
  have hb0 : cur[0 + 0 * 4 + 0]? = some (.iface bty bv) := hO.get rfl
  have hb : cur[0 + (2 - 1) * 4 + 0]? = some (.iface 223 (lp pb)) := hO.get rfl
  have hb1 : cur[0 + (0 + 1) * 4 + 0]? = some (.iface 223 (lp pb)) := hO.get rfl
  refine Tr.start (n := 113) (rs := []) rfl rfl rfl rfl fun B => ?_
  (repeat' (first | refine z7 ?_ | refine z6 ?_ | refine z2 ?_ | refine z1 ?_ | refine zc9 ?_ | refine z8 ?_ | refine zp ?_ | refine zq ?_ | refine za5 ?_ | refine zaf (fun _ => ?_)))
  rename_i r3
  refine zac [(0, lp p), (3, lp r3)] [(⟨lp pr, root, links, inat ln, stk g 2 cap, inat 0, corner, str, em, list, lists, texts, bt⟩ : PS).blk p, stb g cur, o.blk pr, pbb pb tv, Bt, lnb r3 0 tx nl] ?_ ?_
  · (repeat' (first | refine zf ?_))
    refine za6 (fun _ : Nat => [(0, lp p), (3, lp r3)]) (fun _ => [(⟨lp pr, root, links, inat ln, stk g 2 cap, inat 0, corner, str, em, list, lists, texts, bt⟩ : PS).blk p, stb g cur, o.blk pr, pbb pb tv, Bt, lnb r3 0 tx nl]) (fun _ => True) (fun _ => 0) 0 trivial kB sA fun k hk => ?_
    (repeat' (first | refine Wp.draw_all (id := 2) Mixed.out (by kernel_rfl) ?_ | refine Wp.draw_tree (id := 6) 14 6 Mixed.out (by kernel_rfl) rfl ?_ | refine za3 (hc := hb1) ?_ | refine z7 ?_ | refine z6 ?_ | refine z2 ?_ | refine z1 ?_ | refine zc ?_ | refine zf ?_ | refine zd ?_ | refine za ?_ | refine zak ?_ | refine zaj ?_ | refine zai (fun _ => ?_) | refine za8 ?_ | refine za7 ?_ | refine za3 ?_ | refine zae ?_ | refine zad ?_ | refine zcg ?_ | refine zcy ?_ | refine zb5 ?_ | refine zb9 ?_ | refine zfd ?_))
    refine OpsA.only 14 _ (by kernel_rfl) rfl ?_
    (repeat' (first | refine zdj (extend_tr _ _ 0 tx nl) ?_ | refine z2 ?_ | refine z1 ?_))
    refine OpsA.only 15 _ (by kernel_rfl) rfl ?_
    (repeat' (first | refine z2 ?_ | refine z1 ?_ | refine z8 ?_))
    refine OpsA.first 16 _ (by kernel_rfl) rfl (by kernel_rfl) (by kernel_rfl) rfl (zbe rfl rfl) ?_
    refine OpsA.first 17 _ (by kernel_rfl) rfl (by kernel_rfl) (by kernel_rfl) rfl (zbe rfl rfl) ?_
    refine OpsA.only 18 _ (by kernel_rfl) rfl ?_
    (repeat' (first | refine z2 ?_ | refine z1 ?_ | refine zaj ?_))
    refine OpsA.only 19 _ (by kernel_rfl) rfl ?_
    (repeat' (first | refine z2 ?_ | refine z1 ?_ | refine za ?_))
    refine OpsA.nil (by kernel_rfl) ?_
    (repeat' (first | refine za9 (isBlank_tr _ 0 tx nl hp.len hp.le false (decide_eq_false hp.ink).symm) ?_ | refine s_neline ?_ | refine z7 ?_ | refine z6 ?_ | refine z2 ?_ | refine z1 ?_ | refine zc ?_ | refine zb ?_ | refine zd ?_ | refine zw ?_ | refine zy ?_ | refine zz ?_ | refine zaw ?_ | refine zh ?_ | refine z8 ?_ | refine zj ?_ | refine zk ?_ | refine zam ?_ | refine zak ?_))
    exact ⟨kA, sA⟩
  · (repeat' (first | refine za9 (isBlank_tr r3 0 tx nl hp.len hp.le false (decide_eq_false hp.ink).symm) ?_ | refine z7 ?_ | refine z6 ?_ | refine z2 ?_ | refine z1 ?_ | refine zb ?_ | refine zd ?_ | refine zcb ?_))
    refine za1 news_tr (fun u K hR => ?_)
    obtain ⟨rn, rfl, rfl⟩ := hR
    (repeat' (first | refine z2 ?_ | refine z1 ?_ | refine z8 ?_ | refine zah ?_))
    refine zac [(0, lp p), (3, lp r3)] [(⟨lp pr, root, links, inat ln, stk g 2 cap, inat 0, corner, str, em, list, lists, texts, bt⟩ : PS).blk p, stb g cur, o.blk pr, pbb pb tv, Bt, lnb r3 0 tx nl] ?_ ?_
    · (repeat' (first | refine zf ?_))
      refine za6 (fun k : Nat => [(0, lp p), (3, lp r3), (86, .slice (some ⟨rn, 0, none⟩) 8 8), (87, inat 8), (88, inat k)]) (fun _ => [(⟨lp pr, root, links, inat ln, stk g 2 cap, inat 0, corner, str, em, list, lists, texts, bt⟩ : PS).blk p, stb g cur, o.blk pr, pbb pb tv, Bt, lnb r3 0 tx nl, [(rn, cellsOf newsL 181)]])
        (fun k => k ≤ 8) (fun k => 8 - k) 0 (by omega) kB sA fun k hk => ?_
      rcases (by omega : k = 0 ∨ k = 1 ∨ k = 2 ∨ k = 3 ∨ k = 4 ∨ k = 5 ∨ k = 6 ∨ k = 7 ∨ k = 8) with rfl | rfl | rfl | rfl | rfl | rfl | rfl | rfl | rfl
      · (repeat' (first | refine zbl (newQuote_no (lp p) 0 tx nl hp.nt hp.len hp.le hp.quote) ?_ | refine z7 ?_ | refine z6 ?_ | refine z2 ?_ | refine z1 ?_ | refine zc ?_ | refine zb ?_ | refine zf ?_ | refine zd ?_ | refine zu ?_ | refine z8 ?_ | refine za ?_ | refine zn ?_ | refine zl ?_ | refine zm ?_ | refine za0 ?_ | refine zal ?_ | refine zak ?_ | refine zaj ?_ | refine zai (fun _ => ?_)))
        exact ⟨1, kB, sA, by omega, by omega⟩
      · (repeat' (first | refine zbl (newATX_no (lp p) 0 tx nl (fun q nq nv => hp.atx nl q nq nv)) ?_ | refine z7 ?_ | refine z6 ?_ | refine z2 ?_ | refine z1 ?_ | refine zc ?_ | refine zb ?_ | refine zf ?_ | refine zd ?_ | refine zu ?_ | refine z8 ?_ | refine za ?_ | refine zn ?_ | refine zl ?_ | refine zm ?_ | refine za0 ?_ | refine zal ?_ | refine zak ?_ | refine zaj ?_ | refine zai (fun _ => ?_)))
        exact ⟨2, kB, sA, by omega, by omega⟩
      · (repeat' (first | refine zbl (setext_no2 p g 2 cap 0 _ cur pb 0 tx nl hp.nt hp.len hp.le hp.m45 hp.m61 (by omega) (by omega) hb hb1 rfl rfl) ?_ | refine z7 ?_ | refine z6 ?_ | refine z2 ?_ | refine z1 ?_ | refine zc ?_ | refine zb ?_ | refine zf ?_ | refine zd ?_ | refine zu ?_ | refine z8 ?_ | refine za ?_ | refine zn ?_ | refine zl ?_ | refine zm ?_ | refine za0 ?_ | refine zal ?_ | refine zak ?_ | refine zaj ?_ | refine zai (fun _ => ?_)))
        exact ⟨3, kB, sA, by omega, by omega⟩
      · (repeat' (first | refine zbl (newHR_no (lp p) 0 tx nl hp.nt hp.len hp.le hp.m45 hp.m95 hp.m42) ?_ | refine z7 ?_ | refine z6 ?_ | refine z2 ?_ | refine z1 ?_ | refine zc ?_ | refine zb ?_ | refine zf ?_ | refine zd ?_ | refine zu ?_ | refine z8 ?_ | refine za ?_ | refine zn ?_ | refine zl ?_ | refine zm ?_ | refine za0 ?_ | refine zal ?_ | refine zak ?_ | refine zaj ?_ | refine zai (fun _ => ?_)))
        exact ⟨4, kB, sA, by omega, by omega⟩
      · (repeat' (first | refine zbl (newListItem_no p g 2 cap 0 _ cur bty bv 0 tx nl hp.nt hp.len hp.le hp.item (by omega) (by omega) hb0 ht2 rfl rfl) ?_ | refine z7 ?_ | refine z6 ?_ | refine z2 ?_ | refine z1 ?_ | refine zc ?_ | refine zb ?_ | refine zf ?_ | refine zd ?_ | refine zu ?_ | refine z8 ?_ | refine za ?_ | refine zn ?_ | refine zl ?_ | refine zm ?_ | refine za0 ?_ | refine zal ?_ | refine zak ?_ | refine zaj ?_ | refine zai (fun _ => ?_)))
        exact ⟨5, kB, sA, by omega, by omega⟩
      · (repeat' (first | refine zbl (newHTML_no (lp p) 0 tx nl hp.nt hp.len hp.le hp.m60) ?_ | refine z7 ?_ | refine z6 ?_ | refine z2 ?_ | refine z1 ?_ | refine zc ?_ | refine zb ?_ | refine zf ?_ | refine zd ?_ | refine zu ?_ | refine z8 ?_ | refine za ?_ | refine zn ?_ | refine zl ?_ | refine zm ?_ | refine za0 ?_ | refine zal ?_ | refine zak ?_ | refine zaj ?_ | refine zai (fun _ => ?_)))
        exact ⟨6, kB, sA, by omega, by omega⟩
      · (repeat' (first | refine zbl (newFence_no (lp p) 0 tx nl hp.nt hp.len hp.le hp.m96 hp.m126) ?_ | refine z7 ?_ | refine z6 ?_ | refine z2 ?_ | refine z1 ?_ | refine zc ?_ | refine zb ?_ | refine zf ?_ | refine zd ?_ | refine zu ?_ | refine z8 ?_ | refine za ?_ | refine zn ?_ | refine zl ?_ | refine zm ?_ | refine za0 ?_ | refine zal ?_ | refine zak ?_ | refine zaj ?_ | refine zai (fun _ => ?_)))
        exact ⟨7, kB, sA, by omega, by omega⟩
      · (repeat' (first | refine zbl (pre_no2 p g 2 cap _ cur pb 0 tx nl (by omega) (by omega) hb rfl) ?_ | refine z7 ?_ | refine z6 ?_ | refine z2 ?_ | refine z1 ?_ | refine zc ?_ | refine zb ?_ | refine zf ?_ | refine zd ?_ | refine zu ?_ | refine z8 ?_ | refine za ?_ | refine zn ?_ | refine zl ?_ | refine zm ?_ | refine za0 ?_ | refine zal ?_ | refine zak ?_ | refine zaj ?_ | refine zai (fun _ => ?_)))
        exact ⟨8, kB, sA, by omega, by omega⟩
      · (repeat' (first | refine z7 ?_ | refine z6 ?_ | refine z2 ?_ | refine z1 ?_ | refine zb ?_ | refine zw ?_ | refine zy ?_ | refine zz ?_ | refine za4 ?_))
        exact ⟨kA, sA⟩
    · (repeat' (first | refine z6 ?_ | refine z8 ?_ | refine zak ?_))
      refine za1 (newPara_more p g 0 2 cap pr pb o _ _ cur ln 0 tv l Bt tx nl hp.len hp.le (by omega) (by omega) hll hO rfl hT rfl rfl rfl rfl htab) (fun u K hR => ?_)
      obtain ⟨rfl, cur', tv', Bt', h1, h2, rfl⟩ := hR
      (repeat' (first | refine z2 ?_ | refine zd5 ?_))
      exact e_norm _ ⟨rfl, cur', tv', Bt', h1, h2, rfl⟩ sA
end Go.Proofs
