/- Rules on contracts and lists of items; laws.word. Conditions: a bound on the length. -/
import Derived.Test.YtblaoglgknjepaaGreatDoorS8
import Derived.Test.YtblaoglgknjepaaGreatDoorJ1
namespace Go.Proofs
open Go Go.Eng
set_option maxRecDepth 20000
set_option maxHeartbeats 4000000

theorem Tr.weaker {f : FuncId} {args : List Value} {H0 H : Heap} {R : Value → Heap → Prop} (h : Tr Tryz.prog f args H R) (hs : SubH H0 H) : Tr Tryz.prog f args H0 R :=
  ⟨fun B w hw => h.run B w (hw.sub hs)⟩
theorem Tr.postSub {f : FuncId} {args : List Value} {H : Heap} {R R' : Value → Heap → Prop} (h : Tr Tryz.prog f args H R) (hr : ∀ v H', R v H' → ∃ H'', R' v H'' ∧ SubH H' H'') : Tr Tryz.prog f args H R' :=
  ⟨fun B w hw => (h.run B w hw).mono fun _ _ ⟨v, H', h1, h2, h3⟩ => by
    obtain ⟨H'', k1, k2⟩ := hr v H' h2
    exact ⟨v, H'', h1, k1, h3.sub k2⟩⟩
theorem Tr.framed {f : FuncId} {args : List Value} {c : Blk} {F : Heap} {R : Value → Heap → Prop} (h : Tr Tryz.prog f args [c] R) : Tr Tryz.prog f args (c :: F) (fun v K => ∃ K0, R v K0 ∧ K = K0 ++ F) :=
  ⟨fun B w hw => (h.calls (F := F) (HTakes.cons HTake.here HTakes.nil) hw).mono fun _ _ ⟨v, H', h1, h2, h3⟩ => ⟨v, H' ++ F, h1, ⟨H', h2, rfl⟩, h3⟩⟩

theorem ItsT.inv {its : List It} {x : It} {vals : List Value} {Bk : Blk} (h : ItsT (its ++ [x]) vals Bk) : ∃ vals' q Bk', vals = vals' ++ [.iface x.ty (lp q)] ∧ Bk = x.cell q :: Bk' ∧ ItsT its vals' Bk' := by
  generalize hi : its ++ [x] = l at h
  cases h with
  | nil => simp at hi
  | snoc y q h =>
    obtain ⟨h1, h2⟩ := List.append_inj' hi rfl
    injection h2 with h2 _
    subst h1 h2
    exact ⟨_, q, _, rfl, rfl, h⟩
theorem ItsT.inv0 {vals : List Value} {Bk : Blk} (h : ItsT [] vals Bk) : vals = [] ∧ Bk = [] := by
  generalize hi : ([] : List It) = l at h
  cases h with
  | nil => exact ⟨rfl, rfl⟩
  | snoc y q h => simp at hi

theorem word_tr (l : List UInt8) (hl : l.length ≤ 2147483647) : Tr Tryz.prog 13 [str l] [] fun u K => K = [] ∧ ∃ r, u = .bool r ∧ (r = true → Word l) := by
  by_cases hne : l = []
  · subst hne
    refine Tr.start (n := 9) (rs := [.tmp 2]) rfl rfl rfl rfl fun B => ?_
    (repeat' (first | refine k_seq ?_ | refine k_region ?_ | refine k_nil ?_ | refine k_then ?_ | refine k_ret ?_ | refine s_gskipt ?_ | refine s_move ?_ | refine s_assign ?_ | refine s_pickf ?_ | refine s_nes_f ?_))
    exact e_ret [] ⟨rfl, false, rfl, fun h => Bool.noConfusion h⟩ (by repeat (first | exact SubH.nilR _ | refine SubH.pick (by repeat (first | exact HTake.here | apply HTake.there)) ?_))
  refine Tr.start (n := 9) (rs := [.tmp 2]) rfl rfl rfl rfl fun B => ?_
  (repeat' (first | refine k_seq ?_ | refine k_region ?_ | refine k_nil ?_ | refine k_then ?_ | refine s_grun ?_ | refine s_move ?_ | refine s_assign ?_ | refine s_nes_t ?_))
  refine s_call (only_tr l [97, 98, 122, 48, 49, 57] 20 hl) (fun u K hR => ?_)
  obtain ⟨rfl, r, rfl, hA⟩ := hR
  cases r with
  | false =>
    (repeat' (first | refine k_nil ?_ | refine k_then ?_ | refine k_ret ?_ | refine s_assign ?_ | refine s_pickt ?_))
    exact e_ret [] ⟨rfl, false, rfl, fun h => Bool.noConfusion h⟩ (by repeat (first | exact SubH.nilR _ | refine SubH.pick (by repeat (first | exact HTake.here | apply HTake.there)) ?_))
  | true =>
    obtain ⟨h1, h2⟩ := hA rfl
    have hW : Word l := ⟨hne, h1, fun d hd => by
      have := h2 d hd
      simp only [List.mem_cons, List.not_mem_nil, or_false] at this
      rcases this with h | h | h | h | h | h <;> (subst h; decide)⟩
    (repeat' (first | refine k_nil ?_ | refine k_then ?_ | refine k_ret ?_ | refine s_assign ?_ | refine s_pickt ?_))
    exact e_ret [] ⟨rfl, true, rfl, fun _ => hW⟩ (by repeat (first | exact SubH.nilR _ | refine SubH.pick (by repeat (first | exact HTake.here | apply HTake.there)) ?_))

end Go.Proofs
