import Derived.Test.YbulkeoyName2
import Derived.Laws.OwnMore
import Derived.ArgAppend
import Derived.OwnWalk
import Derived.OpenShut
namespace Go.Proofs.Ybulkeoy.lawS0271BWellFormed
open Go.RowKit

theorem Yba.info5' : (Yba.prog.info? 5).map (fun i => (i.zero, i.size, i.bytes)) = some (some (.int .u8 0), 1, 1) := by kernel_rfl

/-! ### the plain law -/
theorem run_of (P T : List Int) (hP : ∀ c ∈ P, isPart c = true) (hT : T = [] ∨ ∃ c T', T = c :: T' ∧ isPart c = false) : runOf (P ++ T) = P.length := by
  induction P with
  | nil =>
    rcases hT with rfl | ⟨c, T', rfl, hc⟩
    · rfl
    · rw [List.nil_append, runOf_cons, hc]; rfl
  | cons c P ih =>
    rw [List.cons_append, runOf_cons, hP c (by simp), if_pos rfl, ih (fun d hd => hP d (by simp [hd]))]; rfl

theorem law (Z0 P T : List Int) (c0 : Int) (hP : ∀ c ∈ P, isPart c = true) (hT : T = [] ∨ ∃ c T', T = c :: T' ∧ isPart c = false) :
    runOf ((Z0 ++ (c0 :: P) ++ T).drop (Z0.length + 1)) = P.length ∧ ((Z0 ++ (c0 :: P) ++ T).drop Z0.length).take (runOf ((Z0 ++ (c0 :: P) ++ T).drop (Z0.length + 1)) + 1) = c0 :: P := by
  have e1 : (Z0 ++ (c0 :: P) ++ T).drop (Z0.length + 1) = P ++ T := by
    rw [List.append_assoc, List.drop_append]; simp
  have e2 : (Z0 ++ (c0 :: P) ++ T).drop Z0.length = (c0 :: P) ++ T := by
    rw [List.append_assoc, List.drop_append]; simp
  rw [e1, e2, run_of P T hP hT]
  refine ⟨rfl, ?_⟩
  rw [List.take_append_of_le_length (by simp)]
  exact List.take_of_length_le (by simp)

/-! ### the three tables -/
def tab (l : List Int) (k : Int) : Int := l.getD (k % 10).toNat 0
def firsts : List Int := [95, 97, 98, 99, 120, 121, 122, 65, 66, 90]
def partsT : List Int := [95, 97, 113, 122, 65, 81, 90, 48, 53, 57]
def stops : List Int := [32, 58, 44, 125, 93, 45, 46, 10, 34, 47]
theorem tab_mem (l : List Int) (h : l.length = 10) (k : Int) : tab l k ∈ l := by
  unfold tab
  have h1 : (k % 10).toNat < l.length := by omega
  rw [List.getD_eq_getElem?_getD, List.getElem?_eq_getElem h1]
  exact List.getElem_mem h1
theorem parts_part (k : Int) : isPart (tab partsT k) = true := by
  have h := tab_mem partsT rfl k
  have all : ∀ c ∈ partsT, isPart c = true := by decide
  exact all _ h
theorem stops_not (k : Int) : isPart (tab stops k) = false := by
  have h := tab_mem stops rfl k
  have all : ∀ c ∈ stops, isPart c = false := by decide
  exact all _ h

theorem tab_at (l : List Int) (k : Int) (r : Nat) (h : k % 10 = (r : Int)) : tab l k = l.getD r 0 := by unfold tab; rw [h]; rfl

set_option maxHeartbeats 1000000 in
theorem first_calls (k : Int) (hk : 0 ≤ k ∧ k ≤ 255) (w : World) : Calls Yba.prog 9 #[.int .u8 k] w fun e w' => e = .returned (.int .u8 (tab firsts k)) ∧ w' = w := by
  have hr : k % 10 = (0 : Nat) ∨ k % 10 = (1 : Nat) ∨ k % 10 = (2 : Nat) ∨ k % 10 = (3 : Nat) ∨ k % 10 = (4 : Nat) ∨ k % 10 = (5 : Nat) ∨ k % 10 = (6 : Nat) ∨ k % 10 = (7 : Nat) ∨ k % 10 = (8 : Nat) ∨ k % 10 = (9 : Nat) := by omega
  rcases hr with h | h | h | h | h | h | h | h | h | h
  all_goals
    rw [tab_at firsts k _ h]
    go_enter Yba.func9, Yba.ntmps9
    go_wp2
    go_ret
    exact ⟨rfl, rfl⟩
set_option maxHeartbeats 1000000 in
theorem partc_calls (k : Int) (hk : 0 ≤ k ∧ k ≤ 255) (w : World) : Calls Yba.prog 10 #[.int .u8 k] w fun e w' => e = .returned (.int .u8 (tab partsT k)) ∧ w' = w := by
  have hr : k % 10 = (0 : Nat) ∨ k % 10 = (1 : Nat) ∨ k % 10 = (2 : Nat) ∨ k % 10 = (3 : Nat) ∨ k % 10 = (4 : Nat) ∨ k % 10 = (5 : Nat) ∨ k % 10 = (6 : Nat) ∨ k % 10 = (7 : Nat) ∨ k % 10 = (8 : Nat) ∨ k % 10 = (9 : Nat) := by omega
  rcases hr with h | h | h | h | h | h | h | h | h | h
  all_goals
    rw [tab_at partsT k _ h]
    go_enter Yba.func10, Yba.ntmps10
    go_wp2
    go_ret
    exact ⟨rfl, rfl⟩
set_option maxHeartbeats 1000000 in
theorem stop_calls (k : Int) (hk : 0 ≤ k ∧ k ≤ 255) (w : World) : Calls Yba.prog 11 #[.int .u8 k] w fun e w' => e = .returned (.int .u8 (tab stops k)) ∧ w' = w := by
  have hr : k % 10 = (0 : Nat) ∨ k % 10 = (1 : Nat) ∨ k % 10 = (2 : Nat) ∨ k % 10 = (3 : Nat) ∨ k % 10 = (4 : Nat) ∨ k % 10 = (5 : Nat) ∨ k % 10 = (6 : Nat) ∨ k % 10 = (7 : Nat) ∨ k % 10 = (8 : Nat) ∨ k % 10 = (9 : Nat) := by omega
  rcases hr with h | h | h | h | h | h | h | h | h | h
  all_goals
    rw [tab_at stops k _ h]
    go_enter Yba.func11, Yba.ntmps11
    go_wp2
    go_ret
    exact ⟨rfl, rfl⟩

/-! ### owned rows -/
theorem own_shape {w : World} {base size : Nat} {e : TypeId} {v : Value} {n : Nat} {xs : List Value} (h : w.ownsRow base e size v n xs) : ∃ ao cap, v = .slice ao n cap ∧ n ≤ cap ∧ cap ≤ maxLen := by
  rcases h.2 with ⟨rfl, rfl⟩ | ⟨g, cap, cur, rfl, _, _, h1, h2, _⟩
  · exact ⟨none, 0, rfl, Nat.le_refl _, Nat.zero_le _⟩
  · exact ⟨_, cap, rfl, h1, h2⟩
theorem own_some {w : World} {base size : Nat} {e : TypeId} {ao : Option Addr} {cap n : Nat} {xs : List Value} (h : w.ownsRow base e size (.slice ao n cap) n xs) (hn : 0 < n) : ∃ g, ao = some ⟨g, 0, none⟩ ∧ base ≤ g ∧ g < w.heap.size := by
  rcases h.2 with ⟨h1, rfl⟩ | ⟨g, cap', cur, h1, h2, h3, _⟩
  · omega
  · injection h1 with h1 _ _
    exact ⟨g, h1, h2, (Array.getElem?_eq_some_iff.1 h3).1⟩
theorem own_below {w w' : World} {base B size : Nat} {e : TypeId} {v : Value} {n : Nat} {xs : List Value} (h : w.ownsRow base e size v n xs) (hb : Below B w w') (hB : ∀ k, v.ownBlock = some k → k < B) : w'.ownsRow base e size v n xs := by
  refine ⟨h.1, ?_⟩
  rcases h.2 with h2 | ⟨g, cap, cur, rfl, h3, h4, h5⟩
  · exact Or.inl h2
  · exact Or.inr ⟨g, cap, cur, rfl, h3, by rw [hb.block g (hB g rfl)]; exact h4, h5⟩
theorem own_base {w : World} {base base' size : Nat} {e : TypeId} {v : Value} {n : Nat} {xs : List Value} (h : w.ownsRow base e size v n xs) (hb : base' ≤ base) : w.ownsRow base' e size v n xs := by
  refine ⟨h.1, ?_⟩
  rcases h.2 with h2 | ⟨g, cap, cur, h1, h2, h3⟩
  · exact Or.inl h2
  · exact Or.inr ⟨g, cap, cur, h1, Nat.le_trans hb h2, h3⟩

/-- 'append' to a row of the call's own, AND WHERE THE ROW LIES BEHIND IT: where it lay, or in a new block. -/
theorem wpList_append_own2 {P : Program} (w : World) {ops : Array Oper} {rest : List Oper} {o : Oper} {a : Act} {Q : Exit → Act → World → Prop}
    (hg : o.guard = none) (s x : Operand) (t : TypeId) (hop : o.op = Op.call { callee := Callee.builtin Builtin.append, args := #[s, x], argTypes := #[t, t] })
    (base : Nat) (e : TypeId) (i : TypeInfo) (z : Value) (size bytes : Nat) (h1 : P.underlying t = some (.slice e)) (h2 : P.info? e = some i) (h3 : i.zero = some z) (h4 : i.size = size) (h5 : i.bytes = bytes) (h6 : z.cells.size = size) (h7 : 0 < size)
    (ao : Option Addr) (n cap : Nat) (xs : List Value) (hs : a.eval s = .slice ao n cap) (hown : w.ownsRow base e size (.slice ao n cap) n xs)
    (ad : Addr) (m c : Nat) (news : List Value) (hx : a.eval x = .slice (some ad) m c) (hn : news.length = m * size) (hc : ∀ j u, news[j]? = some u → w.cell? (ad.add j) = some u) (h1c : ∀ u ∈ news, u.oneCell' = true)
    (hm : 0 < m) (b1 : n + m ≤ maxLen) (b2 : (n + m) * bytes ≤ 140737488355328) (hbase : base ≤ w.heap.size)
    (hK : ∀ ao' cap' w', w'.ownsRow base e size (.slice ao' (n + m) cap') (n + m) (xs ++ news) → w.grownBy w' (Value.slice ao n cap).ownBlock → (ao' = ao ∨ ∃ y, ao' = some ⟨y, 0, none⟩ ∧ w.heap.size ≤ y) → wpList P ops Q rest (a.put o.dst (.slice ao' (n + m) cap')) w') :
    wpList P ops Q (o :: rest) a w := by
  by_cases hroom : n + m ≤ cap
  · rcases hown.2 with ⟨h, rfl⟩ | ⟨g, cap', cur, h, _⟩
    · injection h with h h' h''; omega
    · injection h with h h' h''
      subst h
      exact wpList_append_fits w hg s x t hop base e i size h1 h2 h4 g n cap xs hs hown ad m c news hx hn hc h1c hroom (fun w' o' g' => hK _ cap w' o' g' (Or.inl rfl))
  · refine wpList_append_grows w hg s x t hop e i z size bytes h1 h2 h3 h4 h5 h6 h7 ao n cap xs hs ?_ hown.1 ?_ ad m c news hx hn hc h1c (by omega) b1 b2 ?_
    · intro e
      subst e
      rcases hown.2 with ⟨h, rfl⟩ | ⟨g, cap', cur, h, _⟩
      · injection h with h h' h''; exact ⟨rfl, h''⟩
      · injection h with h h' h''; cases h
    · intro b hb
      subst hb
      rcases hown.2 with ⟨h, rfl⟩ | ⟨g, cap', cur, h, _⟩
      · injection h with h h' h''; cases h
      · injection h with h h' h''
        injection h with h
        subst h
        exact hown.cells (g := g) rfl
    · intro v' w' o' g'
      obtain ⟨ao', cap', rfl, _, _⟩ := own_shape o'
      obtain ⟨y, rfl, hy, _⟩ := own_some o' (by omega)
      exact hK _ cap' w' (own_base o' hbase) ⟨g'.os, g'.tape, g'.output, g'.size, fun k hk _ => g'.block k hk (by simp)⟩ (Or.inr ⟨y, rfl, hy⟩)

/-- The cells of the first k numbers of Z, each turned by f. -/
def rowTo (f : Int → Int) (Z : List Int) (k : Nat) : List Value := ((Z.take k).map f).map (Value.int .u8)
theorem rowTo_zero (f : Int → Int) (Z : List Int) : rowTo f Z 0 = [] := rfl
theorem rowTo_succ (f : Int → Int) (Z : List Int) (k : Nat) (h : k < Z.length) : rowTo f Z k ++ [.int .u8 (f (Z.getD k 0))] = rowTo f Z (k + 1) := by
  unfold rowTo
  rw [List.take_succ_eq_append_getElem h, List.map_append, List.map_append, List.getD_eq_getElem?_getD, List.getElem?_eq_getElem h]; rfl
theorem rowTo_all (f : Int → Int) (Z : List Int) (k : Nat) (h : Z.length = k) : rowTo f Z k = (Z.map f).map (Value.int .u8) := by
  unfold rowTo
  rw [List.take_of_length_le (by omega)]

theorem own_cell {w : World} {base : Nat} {g cap n : Nat} {Z : List Int} (h : w.ownsRow base 5 1 (.slice (some ⟨g, 0, none⟩) n cap) n (Z.map (Value.int .u8))) (j : Nat) (hj : j < n) : w.cell? ⟨g, j, none⟩ = some (.int .u8 (Z.getD j 0)) := by
  have hl : Z.length = n := by have := h.1; simpa using this
  rw [h.cellAt j (by omega)]
  simp [List.getD, List.getElem?_eq_getElem (show j < Z.length by omega)]

/-- 'name' at the reader that the law makes, and what the walk wants of the world behind it. -/
theorem name_here (w Wf : World) (Z0 P T : List Int) (c0 : Int) (n caps g gi cai m n0 base2 : Nat) (hP : ∀ c ∈ P, isPart c = true) (hT : T = [] ∨ ∃ c T', T = c :: T' ∧ isPart c = false)
    (h0 : Z0.length = n0) (hm : P.length + 1 = m) (hn : n ≤ 65536) (hbl : Below w.heap.size w Wf)
    (hown : Wf.ownsRow w.heap.size 5 1 (.slice (some ⟨g, 0, none⟩) n caps) n ((Z0 ++ (c0 :: P) ++ T).map (Value.int .u8)))
    (howi : Wf.ownsRow base2 5 1 (.slice (some ⟨gi, 0, none⟩) m cai) m ((c0 :: P).map (Value.int .u8))) (fl : Value) (dp : Value) :
    Calls Yba.prog 7 #[.pointer (some ⟨Wf.heap.size, 0, none⟩)] (Wf.alloc (.cells #[fl, .slice (some ⟨g, 0, none⟩) n caps, .int .i64 n0, dp] 47)) fun e w1 => e = .returned (.string (strOfNums (c0 :: P))) ∧ w1.cell? ⟨Wf.heap.size, 2, none⟩ = some (.int .i64 ((n0 : Int) + m)) ∧ Below w.heap.size w w1 ∧ (convert 29 9 (.slice (some ⟨gi, 0, none⟩) m cai)).run Yba.prog w1 = .ok (.string (strOfNums (c0 :: P))) w1 := by
  obtain ⟨r1, r2⟩ := law Z0 P T c0 hP hT
  have hl : (Z0 ++ (c0 :: P) ++ T).length = n := by have := hown.1; simpa using this
  have hl' : n0 + m ≤ n := by rw [← hl, List.length_append, List.length_append, h0, List.length_cons]; omega
  have hgs : g < Wf.heap.size := ((hown.lt g rfl)).2
  have hgis : gi < Wf.heap.size := ((howi.lt gi rfl)).2
  have hcap : n ≤ caps := by
    obtain ⟨_, _, e, h, _⟩ := own_shape hown
    injection e with _ _ e; omega
  have hsz := hbl.size
  refine (name_calls Wf.heap.size g n caps n0 (Z0 ++ (c0 :: P) ++ T) hl hn hcap (by omega) _ (by omega) (by rw [World.cell?_alloc_at _ _ _ _ rfl]; rfl) (by rw [World.cell?_alloc_at _ _ _ _ rfl]; rfl) (World.frozen?_alloc_at _ _ _ _ rfl)
    (fun j hj => by rw [World.cell?_alloc_past _ _ _ hgs]; exact own_cell hown j hj)).mono ?_
  rintro e w1 ⟨rfl, k, rfl⟩
  rw [← h0, r2, r1]
  refine ⟨rfl, ?_, ?_, ?_⟩
  · rw [World.cell?_drewN, World.setCell_alloc_at _ _ _ _ _ rfl, World.cell?_alloc_at _ _ _ _ rfl]
    simp; omega
  · exact below_drewN ((hbl.alloc hsz _).setCell hsz _) k
  · refine run_convert_bytes_arg _ 29 5 Yba.underlying29 Yba.underlying5 gi 0 m cai (c0 :: P) (by simp; omega) (fun j hj => ?_) 9 Yba.underlying9
    rw [Nat.zero_add, World.cell?_drewN, World.setCell_alloc_at _ _ _ _ _ rfl, World.cell?_alloc_past _ _ _ hgis]
    exact own_cell howi j hj

end Go.Proofs.Ybulkeoy.lawS0271BWellFormed
