import PyProof.Rows.All
import Wide.All
import OpenK.AllK
import Wide.FinOn
import PySem.Challenge.RW_mj0123_01
open PySem PySem.W PyProof.Rows
set_option Elab.async false
set_option maxRecDepth 100000
set_option maxHeartbeats 8000000
namespace Mine
open_top hd for PySem.Challenge.rw_mj0123_01
section
/-- the names that the head leaves loose -/
noncomputable abbrev LO : List Str := looseW hd.view_39 [Str.ofString "ONE_THIRD", Str.ofString "ONE_SIXTH", Str.ofString "TWO_THIRD"]
noncomputable abbrev PR : Program := PySem.Challenge.rw_mj0123_01.row.prog
noncomputable abbrev tup (vs : List Value) (n : Nat) : Obj := { cls := .type "tuple", data := .seq vs.toArray n }
end
section
noncomputable def flt (a b : UInt64) : Bool := Float64.cmp a b == some .lt
noncomputable def fmax3 (x y z : UInt64) : UInt64 := if flt x y then (if flt y z then z else y) else (if flt x z then z else x)
noncomputable def fmin3 (x y z : UInt64) : UInt64 := if flt y x then (if flt z y then z else y) else (if flt z x then z else x)
section
variable {prog : Program} {w : World} {A : Around} {E : Value → Shared → Prop} {s : Shared} {Q : Value → Shared → Prop} {x y z : UInt64} {t u v : Tok}
theorem hold3 {h' : Heap} {T : Obj} {I : Obj} {wr : List Addr} (hwr : wr = [(s.heap.push T).objs.size])
    (hk : ∀ b o, b ∉ wr → ((s.heap.push T).push I).get? b = some o → h'.get? b = some o) : ∀ c o, s.heap.get? c = some o → h'.get? c = some o := fun c o e => by
  refine hk c o (fun hm => ?_) (Heap.get?_push_of_some _ (Heap.get?_push_of_some _ e))
  rw [hwr] at hm
  have := Heap.lt_size e
  rw [List.mem_singleton.mp hm, Heap.size_push] at this
  exact Nat.lt_irrefl _ (Nat.lt_of_succ_lt this)
theorem lt3 {T I : Obj} {c : Addr} (hc : c ∈ [(s.heap.push T).objs.size, s.heap.objs.size]) : c < ((s.heap.push T).push I).objs.size := by
  rw [Heap.size_push]
  rcases List.mem_cons.mp hc with rfl | hc
  · exact Nat.lt_succ_self _
  · rw [List.mem_singleton.mp hc, Heap.size_push]
    exact Nat.lt_succ_of_lt (Nat.lt_succ_self _)
theorem max3_any (hh : A.handled = none) (h : ∀ h' tk k, (∀ c o, s.heap.get? c = some o → h'.get? c = some o) → Q (.float (fmax3 x y z) k) { s with heap := h', toks := tk }) :
    wpAny (model prog w) A (call (.builtin "max") [.float x t, .float y u, .float z v]) Q E s := by
  have hT : (s.heap.push { cls := .type "tuple", data := .seq #[.float x t, .float y u, .float z v] }).IsTuple s.heap.objs.size #[.float x t, .float y u, .float z v] := ⟨_, Heap.get?_push_size _ rfl, rfl, 0, rfl⟩
  refine call_max_three (wpAny_pyIter_tuple hT ?_)
  have hsz : (s.heap.push { cls := .type "tuple", data := .seq #[.float x t, .float y u, .float z v] }).objs.size = s.heap.objs.size + 1 := Heap.size_push ..
  refine ⟨_, [_, s.heap.objs.size], [_], _, _, _, _, rfl, Walks.tuple (A := A.in1) hh _ s.heap.objs.size (by rw [hsz]; exact Nat.ne_of_lt (Nat.lt_succ_self _)) #[.float x t, .float y u, .float z v],
    ⟨⟨_, Heap.get?_push_size _ rfl, rfl, rfl⟩, hT.push _⟩, fun c hc => lt3 hc, by simp, PySem.Flt.cmpOf_gt #[.float x t, .float y u, .float z v] (by intro a ha; simp at ha; rcases ha with rfl | rfl | rfl <;> exact .float _ _), fun r h' tk hP hk => ?_⟩
  have hold := hold3 rfl hk
  have hv : ∃ k, r = .float (fmax3 x y z) k := by
    unfold fmax3 flt
    cases h1 : (Float64.cmp x y == some .lt) <;> cases h2 : (Float64.cmp y z == some .lt) <;> cases h3 : (Float64.cmp x z == some .lt) <;>
      simp [argBest, PySem.Flt.ltV, h1, h2, h3] at hP <;> exact ⟨_, by simpa using hP.symm⟩
  obtain ⟨k, rfl⟩ := hv
  exact h h' tk k hold
theorem min3_any (hh : A.handled = none) (h : ∀ h' tk k, (∀ c o, s.heap.get? c = some o → h'.get? c = some o) → Q (.float (fmin3 x y z) k) { s with heap := h', toks := tk }) :
    wpAny (model prog w) A (call (.builtin "min") [.float x t, .float y u, .float z v]) Q E s := by
  have hT : (s.heap.push { cls := .type "tuple", data := .seq #[.float x t, .float y u, .float z v] }).IsTuple s.heap.objs.size #[.float x t, .float y u, .float z v] := ⟨_, Heap.get?_push_size _ rfl, rfl, 0, rfl⟩
  refine call_min_three (wpAny_pyIter_tuple hT ?_)
  have hsz : (s.heap.push { cls := .type "tuple", data := .seq #[.float x t, .float y u, .float z v] }).objs.size = s.heap.objs.size + 1 := Heap.size_push ..
  refine ⟨_, [_, s.heap.objs.size], [_], _, _, _, _, rfl, Walks.tuple (A := A.in1) hh _ s.heap.objs.size (by rw [hsz]; exact Nat.ne_of_lt (Nat.lt_succ_self _)) #[.float x t, .float y u, .float z v],
    ⟨⟨_, Heap.get?_push_size _ rfl, rfl, rfl⟩, hT.push _⟩, fun c hc => lt3 hc, by simp, PySem.Flt.cmpOf_lt #[.float x t, .float y u, .float z v] (by intro a ha; simp at ha; rcases ha with rfl | rfl | rfl <;> exact .float _ _), fun r h' tk hP hk => ?_⟩
  have hold := hold3 rfl hk
  have hv : ∃ k, r = .float (fmin3 x y z) k := by
    unfold fmin3 flt
    cases h1 : (Float64.cmp y x == some .lt) <;> cases h2 : (Float64.cmp z y == some .lt) <;> cases h3 : (Float64.cmp z x == some .lt) <;>
      simp [argBest, PySem.Flt.ltV, h1, h2, h3] at hP <;> exact ⟨_, by simpa using hP.symm⟩
  obtain ⟨k, rfl⟩ := hv
  exact h h' tk k hold
theorem max3_K {h₀ : Heap} {L : Addr} {m : Str → Option Value} {news : List (Addr × Obj)} (hh : A.handled = none) (F : Fr h₀ L s.heap m) (N : News h₀ L s.heap news)
    (h : ∀ h' tk k, Fr h₀ L h' m → News h₀ L h' news → Q (.float (fmax3 x y z) k) { s with heap := h', toks := tk }) :
    wpAny (model prog w) A (call (.builtin "max") [.float x t, .float y u, .float z v]) Q E s :=
  max3_any hh fun h' tk k kp => h h' tk k (F.grownK kp) (N.grown kp)
theorem min3_K {h₀ : Heap} {L : Addr} {m : Str → Option Value} {news : List (Addr × Obj)} (hh : A.handled = none) (F : Fr h₀ L s.heap m) (N : News h₀ L s.heap news)
    (h : ∀ h' tk k, Fr h₀ L h' m → News h₀ L h' news → Q (.float (fmin3 x y z) k) { s with heap := h', toks := tk }) :
    wpAny (model prog w) A (call (.builtin "min") [.float x t, .float y u, .float z v]) Q E s :=
  min3_any hh fun h' tk k kp => h h' tk k (F.grownK kp) (N.grown kp)
end
end
section
section
variable {prog : Program} {w : World} {A : Around} {E : Value → Shared → Prop} {s : Shared} {Q : Value → Shared → Prop} {x y z k : Int} {tx ty tz tk : Tok} {a n : Nat}
theorem index3_any (ho : s.heap.get? a = some { cls := .type "tuple", data := .seq #[.int x tx, .int y ty, .int z tz] n })
    (h0 : x = k → Q (.int 0 s.toks) { s with toks := s.toks + 1 }) (h1 : x ≠ k → y = k → Q (.int 1 s.toks) { s with toks := s.toks + 1 })
    (h2 : x ≠ k → y ≠ k → z = k → Q (.int 2 s.toks) { s with toks := s.toks + 1 }) (hk : x = k ∨ y = k ∨ z = k) :
    wpAny (model prog w) A (call (.builtin "tuple.index") [.ref a, .int k tk]) Q E s := by
  refine call_meets PySem.F.slot_tuple_index ⟨_, ho, rfl⟩ PySem.F.entry_tuple_index (PySem.F.args_tuple_index_2 _ _)
    (S := fun A R s => s.heap.get? a = some { cls := .type "tuple", data := .seq #[.int x tx, .int y ty, .int z tz] n } ∧ (x = k → R (.ok (.ret (.int 0 s.toks))) { s with toks := s.toks + 1 }) ∧ (x ≠ k → y = k → R (.ok (.ret (.int 1 s.toks))) { s with toks := s.toks + 1 }) ∧
      (x ≠ k → y ≠ k → z = k → R (.ok (.ret (.int 2 s.toks))) { s with toks := s.toks + 1 })) (Meets.of_wp ?_) ⟨ho, h0, h1, h2⟩
  rintro prog w A R s ⟨ho, h0, h1, h2⟩
  unfold Builtin.«tuple.index»
  refine wpAny_bind (wpAny_pure ?_)
  refine wpAny_bind (wpAny_tupleItemsOf ho rfl ?_)
  dsimp only
  refine wpAny_bind (wpAny_pure ?_)
  refine wpAny_bind (wpAny_pure ?_)
  simp only [Std.Legacy.Range.forIn_eq_forIn_range']
  rw [show List.range' 0 [:min #[Value.int x tx, Value.int y ty, Value.int z tz].size #[Value.int x tx, Value.int y ty, Value.int z tz].size].size = [0, 1, 2] from by (show List.range' 0 [:3].size = [0, 1, 2]); decide]
  rw [List.forIn_cons]
  refine wpAny_bind (wpAny_bind ?_)
  show wpAny _ _ (eqBool (Value.int x tx) (Value.int k tk) >>= _) _ _ _
  refine wpAny_bind (wpAny_eqBool_int ?_)
  by_cases e0 : x = k
  · rw [if_pos (by simp [e0])]
    exact wpAny_bind (wpAny_bind (wpAny_mkInt (wpAny_pure (wpAny_pure (wpAny_pure (wpAny_pure ⟨_, rfl, h0 e0⟩))))))
  rw [if_neg (by simp [e0])]
  refine wpAny_pure ?_
  show wpAny _ _ (forIn [1, 2] _ _) _ _ _
  rw [List.forIn_cons]
  refine wpAny_bind ?_
  show wpAny _ _ (eqBool (Value.int y ty) (Value.int k tk) >>= _) _ _ _
  refine wpAny_bind (wpAny_eqBool_int ?_)
  by_cases e1 : y = k
  · rw [if_pos (by simp [e1])]
    exact wpAny_bind (wpAny_bind (wpAny_mkInt (wpAny_pure (wpAny_pure (wpAny_pure (wpAny_pure ⟨_, rfl, h1 e0 e1⟩))))))
  rw [if_neg (by simp [e1])]
  refine wpAny_pure ?_
  show wpAny _ _ (forIn [2] _ _) _ _ _
  rw [List.forIn_cons]
  refine wpAny_bind ?_
  show wpAny _ _ (eqBool (Value.int z tz) (Value.int k tk) >>= _) _ _ _
  refine wpAny_bind (wpAny_eqBool_int ?_)
  have e2 : z = k := hk.elim (fun h => absurd h e0) fun h => h.elim (fun h => absurd h e1) id
  rw [if_pos (by simp [e2])]
  exact wpAny_bind (wpAny_bind (wpAny_mkInt (wpAny_pure (wpAny_pure (wpAny_pure (wpAny_pure ⟨_, rfl, h2 e0 e1 e2⟩))))))
theorem index3_K {h₀ : Heap} {L : Addr} {news : List (Addr × Obj)} (N : News h₀ L s.heap news) (hm : (a, ({ cls := .type "tuple", data := .seq #[.int x tx, .int y ty, .int z tz] n } : Obj)) ∈ news) (hk : x = k ∨ y = k ∨ z = k)
    (h0 : x = k → Q (.int 0 s.toks) { s with toks := s.toks + 1 }) (h1 : x ≠ k → y = k → Q (.int 1 s.toks) { s with toks := s.toks + 1 })
    (h2 : x ≠ k → y ≠ k → z = k → Q (.int 2 s.toks) { s with toks := s.toks + 1 }) :
    wpAny (model prog w) A (call (.builtin "tuple.index") [.ref a, .int k tk]) Q E s := index3_any (N _ hm).1 h0 h1 h2 hk

theorem collect_tup {vs : List Value} {R : List Value → Shared → Prop} (ho : s.heap.get? a = some (seqObj "tuple" vs.toArray n)) (hsz : vs.length ≤ sizeLine)
    (h : R vs { s with heap := (s.heap.push (seqObj "list" #[] 0)).update s.heap.objs.size (Obj.mapSeq (· ++ vs.toArray)) }) :
    wpAny (model prog w) A (collect (.ref a)) R E s := by
  unfold collect
  refine wpAny_bind (wpAny_runValue (codeAny_builtin entry_proto_collect' ?_))
  show wpAny _ _ (do again (.builtin "list.__iadd__" ⟨[← newList [], .ref a], []⟩)) _ _ s
  refine wpAny_bind (wpAny_newList (wpAny_pure ⟨Code.quiet_builtin _ (by decide +kernel), codeAny_builtin entry_list_iadd' ?_⟩))
  show wpAny _ _ (Builtin.List.listExtendWith (.ref s.heap.objs.size) (.ref a) (.ref s.heap.objs.size)) _ _ { s with heap := s.heap.push (seqObj "list" #[] 0) }
  unfold Builtin.List.listExtendWith
  have ho' : (s.heap.push (seqObj "list" #[] 0)).get? a = some (seqObj "tuple" vs.toArray n) := Heap.get?_push_of_some _ ho
  refine wpAny_bind (wpAny_typeOf (T := "tuple") ⟨_, ho', rfl⟩ ?_)
  rw [if_pos (by simp)]
  refine wpAny_bind (listItems_at ho' rfl ?_)
  refine wpAny_bind (listItems_at (xs := #[]) (n := 0) (Heap.get?_push_size _ rfl) rfl ?_)
  rw [if_neg (by simp)]
  refine wpAny_bind (listUpdate_at (xs := #[]) (n := 0) (Heap.get?_push_size _ rfl) rfl ?_ (Nat.zero_le _) (by show (#[] ++ vs.toArray).size ≤ sizeLine + 1; simp only [Array.size_append, List.size_toArray, List.length_nil]; omega))
  refine wpAny_pure ?_
  refine wpAny_bind (wpAny_load (get?_update_seq (Heap.get?_push_size _ rfl) _) ?_)
  show wpAny _ _ (pure ((#[] : Array Value) ++ vs.toArray).toList) R E _
  rw [show ((#[] : Array Value) ++ vs.toArray).toList = vs by simp]
  exact wpAny_pure h

theorem sorted_tup {vs : List Value} {ns : List Int} (ho : s.heap.get? a = some (seqObj "tuple" vs.toArray n)) (hI : IntsAre vs ns) (h64 : vs.length < 64)
    (h : ∀ (out : Array Value) (ns' : List Int), IntsAre out.toList ns' → ns'.Perm ns → ns'.Pairwise (· ≤ ·) → Q (.ref (s.heap.objs.size + 1)) { s with heap := sortedAll s.heap vs out }) :
    wpAny (model prog w) A (call (.builtin "sorted") [.ref a]) Q E s := by
  refine Calls.call_function_entry kind_sorted plain_sorted entry_sorted (args_sorted1 _) ?_
  unfold Builtin.«sorted»
  refine wpAny_bind (m := checkCount "sorted" 1 1 _) (wpAny_pure ?_)
  refine wpAny_bind (collect_tup ho (by rw [sizeLine_eq]; omega) ?_)
  refine wpAny_bind (wpAny_newList ?_)
  have hsz : ((s.heap.push (seqObj "list" #[] 0)).update s.heap.objs.size (Obj.mapSeq (· ++ vs.toArray))).objs.size = s.heap.objs.size + 1 := by
    rw [Heap.size_update, size_push']
  have hoL : (((s.heap.push (seqObj "list" #[] 0)).update s.heap.objs.size (Obj.mapSeq (· ++ vs.toArray))).push (seqObj "list" vs.toArray 0)).get? (s.heap.objs.size + 1) = some (seqObj "list" vs.toArray 0) := by
    rw [← hsz]; exact Heap.get?_push_size _ rfl
  show wpAny _ _ _ _ _ { s with heap := ((s.heap.push (seqObj "list" #[] 0)).update s.heap.objs.size (Obj.mapSeq (· ++ vs.toArray))).push (seqObj "list" vs.toArray 0) }
  rw [hsz]
  refine wpAny_bind (wpAny_holding (wpAny_call_entry slot_list_sort ⟨_, hoL, rfl⟩ entry_list_sort (list_sort_tree hoL hI h64 fun out ns' a1 a2 a3 => ⟨_, rfl, ?_⟩) (args_list_sort _)))
  exact wpAny_pure ⟨_, rfl, h out ns' a1 a2 a3⟩

theorem perm_sum {a b : List Int} (h : a.Perm b) : a.sum = b.sum := by
  induction h with
  | nil => rfl
  | cons x _ ih => simp [ih]
  | swap x y l => simp; omega
  | trans _ _ i j => exact i.trans j
theorem min3_eq {l x y z : Int} (h : l = x ∨ l = y ∨ l = z) (hx : l ≤ x) (hy : l ≤ y) (hz : l ≤ z) : l = min x (min y z) := by
  rw [eq_comm]
  have a : l ≤ min x (min y z) := Int.le_min.mpr ⟨hx, Int.le_min.mpr ⟨hy, hz⟩⟩
  refine Int.le_antisymm ?_ a
  rcases h with rfl | rfl | rfl
  · exact Int.min_le_left ..
  · exact Int.le_trans (Int.min_le_right ..) (Int.min_le_left ..)
  · exact Int.le_trans (Int.min_le_right ..) (Int.min_le_right ..)
theorem max3_eq {u x y z : Int} (h : u = x ∨ u = y ∨ u = z) (hx : x ≤ u) (hy : y ≤ u) (hz : z ≤ u) : u = max x (max y z) := by
  have a : max x (max y z) ≤ u := Int.max_le.mpr ⟨hx, Int.max_le.mpr ⟨hy, hz⟩⟩
  refine Int.le_antisymm ?_ a
  rcases h with rfl | rfl | rfl
  · exact Int.le_max_left ..
  · exact Int.le_trans (Int.le_max_left ..) (Int.le_max_right x ..)
  · exact Int.le_trans (Int.le_max_right ..) (Int.le_max_right x ..)
theorem sorted3_out {out : List Value} {ns' : List Int} (hI : IntsAre out ns') (hp : ns'.Perm [x, y, z]) (hs : ns'.Pairwise (· ≤ ·)) :
    ∃ (l m u : Int) (tl tm tu : Tok), out = [.int l tl, .int m tm, .int u tu] ∧ l ≤ m ∧ m ≤ u ∧ l = min x (min y z) ∧ u = max x (max y z) ∧ l + m + u = x + y + z := by
  have hl := hp.length_eq
  have hl2 := hI.length
  match ns', hl with
  | [l, m, u], _ =>
    match out, hl2 with
    | [a, b, c], _ =>
      obtain ⟨t0, e0⟩ := hI.get 0 l rfl
      obtain ⟨t1, e1⟩ := hI.get 1 m rfl
      obtain ⟨t2, e2⟩ := hI.get 2 u rfl
      simp at e0 e1 e2
      subst e0 e1 e2
      have hsum : l + (m + (u + 0)) = x + (y + (z + 0)) := by
        simpa using perm_sum hp
      have ml : l = x ∨ l = y ∨ l = z := by simpa using hp.mem_iff (a := l)
      have mu : u = x ∨ u = y ∨ u = z := by simpa using hp.mem_iff (a := u)
      simp at hs
      obtain ⟨⟨lm, lu⟩, mu'⟩ := hs
      have ends : ∀ v ∈ [l, m, u], l ≤ v ∧ v ≤ u := by
        intro v hv
        simp only [List.mem_cons, List.not_mem_nil, or_false] at hv
        rcases hv with rfl | rfl | rfl
        · exact ⟨Int.le_refl _, lu⟩
        · exact ⟨lm, mu'⟩
        · exact ⟨lu, Int.le_refl _⟩
      have ex := ends x (hp.mem_iff.mpr (by simp))
      have ey := ends y (hp.mem_iff.mpr (by simp))
      have ez := ends z (hp.mem_iff.mpr (by simp))
      exact ⟨l, m, u, t0, t1, t2, rfl, lm, mu', min3_eq ml ex.1 ey.1 ez.1, max3_eq mu ex.2 ey.2 ez.2, by clear ml mu ends ex ey ez; omega⟩
theorem sorted3_K {h₀ : Heap} {L : Addr} {m : Str → Option Value} {news : List (Addr × Obj)} (F : Fr h₀ L s.heap m) (N : News h₀ L s.heap news) (hm : (a, ({ cls := .type "tuple", data := .seq #[.int x tx, .int y ty, .int z tz] n } : Obj)) ∈ news)
    (h : ∀ D c h' l md u tl tm tu, Fr h₀ L h' m → News h₀ L h' ((D, PySem.W.listOf #[.int l tl, .int md tm, .int u tu] c) :: news) → (∀ q ∈ news, q.1 < D) → l ≤ md → md ≤ u → l = min x (min y z) → u = max x (max y z) → l + md + u = x + y + z → Q (.ref D) { s with heap := h' }) :
    wpAny (model prog w) A (call (.builtin "sorted") [.ref a]) Q E s := by
  refine sorted_tup (vs := [.int x tx, .int y ty, .int z tz]) (ns := [x, y, z]) (N _ hm).1 ?_ (by simp) fun out ns' a1 a2 a3 => ?_
  · exact .cons _ _ (.cons _ _ (.cons _ _ .nil))
  · obtain ⟨l, md, u, tl, tm, tu, eo, b1, b2, b3, b4, b5⟩ := sorted3_out a1 a2 a3
    obtain ⟨e, he⟩ := sortedAll_at s.heap [.int x tx, .int y ty, .int z tz] out
    have eo' : out = #[.int l tl, .int md tm, .int u tu] := by rw [← Array.toList_inj, eo]
    refine h _ e _ l md u tl tm tu (F.kept fun _ _ => sortedAll_old) (eo' ▸ N.kept_cons F (fun _ _ => sortedAll_old) (Nat.le_succ _) he) (fun p hp => Nat.lt_succ_of_lt (Heap.lt_size (N p hp).1)) b1 b2 b3 b4 b5
end
end
section
/-- what a call of the def at f hands back, over any caller's frame: a value, the ledger as it was -/
noncomputable abbrev CtrV (w : World) (mean : ExcName → Option Value) (mg mb : Str → Option Value) (f : Addr) (vs : List Value) (dep : Nat) (news : List (Addr × Obj)) (Out : Value → Prop) : Prop :=
  ∀ (dp un : Nat) (gd : Option (List Code)) (cn : Str) (cs : Scope) (a : Addr) (ccd : Value) (cl : List (Str × Addr)) (outer : List Env) (A₀ : Around) (base h₀ : Heap) (L : Addr) (m : Str → Option Value) (s : Shared)
    (Q E : Value → Shared → Prop),
    Below A₀ base outer h₀ → Fr h₀ L s.heap m → (hd.heap_39 w.params).In h₀ → News h₀ L s.heap news → Top hd.view_39 (looseW hd.view_39 [Str.ofString "ONE_THIRD", Str.ofString "ONE_SIXTH", Str.ofString "TWO_THIRD"]) mean mg mb h₀ → cs.kind = .function → dp + dep < recursionLimit → un + 8 * dep < cLine →
    (∀ r h' tk', Fr h₀ L h' m → News h₀ L h' news → Out r → Q r { s with heap := h', toks := tk' }) →
    wpAny (model PySem.Challenge.rw_mj0123_01.row.prog w) (ktrTop dp un gd cn cs L a ccd cl outer) (call (.ref f) vs) Q E s
/-- the same: one new object -/
noncomputable abbrev CtrO (w : World) (mean : ExcName → Option Value) (mg mb : Str → Option Value) (f : Addr) (vs : List Value) (dep : Nat) (news : List (Addr × Obj)) (Out : Obj → Prop) : Prop :=
  ∀ (dp un : Nat) (gd : Option (List Code)) (cn : Str) (cs : Scope) (a : Addr) (ccd : Value) (cl : List (Str × Addr)) (outer : List Env) (A₀ : Around) (base h₀ : Heap) (L : Addr) (m : Str → Option Value) (s : Shared)
    (Q E : Value → Shared → Prop),
    Below A₀ base outer h₀ → Fr h₀ L s.heap m → (hd.heap_39 w.params).In h₀ → News h₀ L s.heap news → Top hd.view_39 (looseW hd.view_39 [Str.ofString "ONE_THIRD", Str.ofString "ONE_SIXTH", Str.ofString "TWO_THIRD"]) mean mg mb h₀ → cs.kind = .function → dp + dep < recursionLimit → un + 8 * dep < cLine →
    (∀ D o h' tk', Fr h₀ L h' m → News h₀ L h' ((D, o) :: news) → (∀ q ∈ news, q.1 < D) → Out o → Q (.ref D) { s with heap := h', toks := tk' }) →
    wpAny (model PySem.Challenge.rw_mj0123_01.row.prog w) (ktrTop dp un gd cn cs L a ccd cl outer) (call (.ref f) vs) Q E s
/-- a number of new objects -/
noncomputable abbrev CtrL (w : World) (mean : ExcName → Option Value) (mg mb : Str → Option Value) (f : Addr) (vs : List Value) (dep : Nat) (news : List (Addr × Obj)) (Out : List (Addr × Obj) → Value → Prop) : Prop :=
  ∀ (dp un : Nat) (gd : Option (List Code)) (cn : Str) (cs : Scope) (a : Addr) (ccd : Value) (cl : List (Str × Addr)) (outer : List Env) (A₀ : Around) (base h₀ : Heap) (L : Addr) (m : Str → Option Value) (s : Shared)
    (Q E : Value → Shared → Prop),
    Below A₀ base outer h₀ → Fr h₀ L s.heap m → (hd.heap_39 w.params).In h₀ → News h₀ L s.heap news → Top hd.view_39 (looseW hd.view_39 [Str.ofString "ONE_THIRD", Str.ofString "ONE_SIXTH", Str.ofString "TWO_THIRD"]) mean mg mb h₀ → cs.kind = .function → dp + dep < recursionLimit → un + 8 * dep < cLine →
    (∀ r tl h' tk', Fr h₀ L h' m → News h₀ L h' (tl ++ news) → (∀ p ∈ tl, ∀ q ∈ news, q.1 < p.1) → Out tl r → Q r { s with heap := h', toks := tk' }) →
    wpAny (model PySem.Challenge.rw_mj0123_01.row.prog w) (ktrTop dp un gd cn cs L a ccd cl outer) (call (.ref f) vs) Q E s
/-- the plain functions -/
noncomputable def fEq (a b : UInt64) : Bool := Float64.cmp a b == some .eq
noncomputable def fLe (a b : UInt64) : Bool := Float64.cmp a b == some .lt || Float64.cmp a b == some .eq
noncomputable def rgb2hue (x y z : UInt64) : UInt64 :=
  let mx := fmax3 x y z
  let rg := Float64.sub mx (fmin3 x y z)
  let rc := Float64.div (Float64.sub mx x) rg
  let gc := Float64.div (Float64.sub mx y) rg
  let bc := Float64.div (Float64.sub mx z) rg
  let h := bif fEq x mx then Float64.sub bc gc else bif fEq y mx then Float64.sub (Float64.add 4611686018427387904 rc) bc else Float64.sub (Float64.add 4616189618054758400 gc) rc
  (Float64.divmod (Float64.div h 4618441417868443648) 4607182418800017408).2
noncomputable def hsvF (x y z : UInt64) : UInt64 × UInt64 × UInt64 :=
  let mx := fmax3 x y z
  let mn := fmin3 x y z
  bif fEq mn mx then (0, 0, mx) else (rgb2hue x y z, Float64.div (Float64.sub mx mn) mx, mx)
noncomputable def f3 (p : UInt64 × UInt64 × UInt64) (o : Obj) : Prop := ∃ t u v, o = tup [.float p.1 t, .float p.2.1 u, .float p.2.2 v] 0
theorem f3_of {p : UInt64 × UInt64 × UInt64} {a b c : UInt64} {t u v : Tok} (h : p = (a, b, c)) : f3 p (tup [.float a t, .float b u, .float c v] 0) := by subst h; exact ⟨t, u, v, rfl⟩
noncomputable def hlsF (x y z : UInt64) : UInt64 × UInt64 × UInt64 :=
  let mx := fmax3 x y z
  let mn := fmin3 x y z
  let sm := Float64.add mx mn
  let l := Float64.div sm 4611686018427387904
  bif fEq mn mx then (0, l, 0) else (rgb2hue x y z, l, bif fLe l 4602678819172646912 then Float64.div (Float64.sub mx mn) sm else Float64.div (Float64.sub mx mn) (Float64.sub (Float64.sub 4611686018427387904 mx) mn))
noncomputable def vF (m1 m2 hue : UInt64) : UInt64 :=
  let h := (Float64.divmod hue 4607182418800017408).2
  bif flt h 4595172819793696085 then Float64.add m1 (Float64.mul (Float64.mul (Float64.sub m2 m1) h) 4618441417868443648)
  else bif flt h 4602678819172646912 then m2
  else bif flt h 4604180019048437077 then Float64.add m1 (Float64.mul (Float64.mul (Float64.sub m2 m1) (Float64.sub 4604180019048437077 h)) 4618441417868443648)
  else m1
noncomputable def hls2rgb (h l s : UInt64) : UInt64 × UInt64 × UInt64 :=
  let m2 := bif fLe l 4602678819172646912 then Float64.mul l (Float64.add 4607182418800017408 s) else Float64.sub (Float64.add l s) (Float64.mul l s)
  let m1 := Float64.sub (Float64.mul 4611686018427387904 l) m2
  bif fEq s 0 then (l, l, l) else (vF m1 m2 (Float64.add h 4599676419421066581), vF m1 m2 h, vF m1 m2 (Float64.sub h 4599676419421066581))
noncomputable abbrev sixth (h : UInt64) : Int := PySem.Flt.toInt Float64.truncOf (Float64.mul h 4618441417868443648)
noncomputable def hsv2rgb (h s v : UInt64) : UInt64 × UInt64 × UInt64 :=
  let I := sixth h
  let f := Float64.sub (Float64.mul h 4618441417868443648) (Float64.ofInt I)
  let p := Float64.mul v (Float64.sub 4607182418800017408 s)
  let q := Float64.mul v (Float64.sub 4607182418800017408 (Float64.mul s f))
  let t := Float64.mul v (Float64.sub 4607182418800017408 (Float64.mul s (Float64.sub 4607182418800017408 f)))
  bif fEq s 0 then (v, v, v) else if I.fmod 6 = 0 then (v, t, p) else if I.fmod 6 = 1 then (q, v, p) else if I.fmod 6 = 2 then (p, v, t) else if I.fmod 6 = 3 then (p, q, v) else if I.fmod 6 = 4 then (t, p, v) else (v, p, q)
theorem fmod_six (I : Int) : I.fmod 6 = 0 ∨ I.fmod 6 = 1 ∨ I.fmod 6 = 2 ∨ I.fmod 6 = 3 ∨ I.fmod 6 = 4 ∨ I.fmod 6 = 5 := by
  rw [Int.fmod_eq_emod_of_nonneg I (by decide)]; omega
end
section
theorem useV {w : World} {mean : ExcName → Option Value} {mg mb : Str → Option Value} {f : Addr} {vs : List Value} {dep : Nat} {news : List (Addr × Obj)} {Out : Value → Prop} (c : CtrV w mean mg mb f vs dep news Out)
    {dp un : Nat} {gd : Option (List Code)} {cn : Str} {cs : Scope} {a : Addr} {ccd : Value} {cl : List (Str × Addr)} {outer : List Env} {A₀ : Around} {base h₀ : Heap} {L : Addr} {m : Str → Option Value} {s : Shared}
    {Q E : Value → Shared → Prop}
    (k9 : ∀ r h' tk', Fr h₀ L h' m → News h₀ L h' news → Out r → Q r { s with heap := h', toks := tk' })
    (k1 : Below A₀ base outer h₀ := by k_asm)
    (k2 : Fr h₀ L s.heap m := by k_asm)
    (k3 : (hd.heap_39 w.params).In h₀ := by k_asm)
    (k4 : News h₀ L s.heap news := by k_asm)
    (k5 : Top hd.view_39 (looseW hd.view_39 [Str.ofString "ONE_THIRD", Str.ofString "ONE_SIXTH", Str.ofString "TWO_THIRD"]) mean mg mb h₀ := by k_asm)
    (k6 : cs.kind = .function := by first | exact rfl | assumption)
    (k7 : dp + dep < recursionLimit := by ktr_room)
    (k8 : un + 8 * dep < cLine := by ktr_units)
    :
    wpAny (model PySem.Challenge.rw_mj0123_01.row.prog w) (ktrTop dp un gd cn cs L a ccd cl outer) (call (.ref f) vs) Q E s :=
  c dp un gd cn cs a ccd cl outer A₀ base h₀ L m s Q E k1 k2 k3 k4 k5 k6 k7 k8 k9
theorem useO {w : World} {mean : ExcName → Option Value} {mg mb : Str → Option Value} {f : Addr} {vs : List Value} {dep : Nat} {news : List (Addr × Obj)} {Out : Obj → Prop} (c : CtrO w mean mg mb f vs dep news Out)
    {dp un : Nat} {gd : Option (List Code)} {cn : Str} {cs : Scope} {a : Addr} {ccd : Value} {cl : List (Str × Addr)} {outer : List Env} {A₀ : Around} {base h₀ : Heap} {L : Addr} {m : Str → Option Value} {s : Shared}
    {Q E : Value → Shared → Prop}
    (k9 : ∀ D o h' tk', Fr h₀ L h' m → News h₀ L h' ((D, o) :: news) → (∀ q ∈ news, q.1 < D) → Out o → Q (.ref D) { s with heap := h', toks := tk' })
    (k1 : Below A₀ base outer h₀ := by k_asm)
    (k2 : Fr h₀ L s.heap m := by k_asm)
    (k3 : (hd.heap_39 w.params).In h₀ := by k_asm)
    (k4 : News h₀ L s.heap news := by k_asm)
    (k5 : Top hd.view_39 (looseW hd.view_39 [Str.ofString "ONE_THIRD", Str.ofString "ONE_SIXTH", Str.ofString "TWO_THIRD"]) mean mg mb h₀ := by k_asm)
    (k6 : cs.kind = .function := by first | exact rfl | assumption)
    (k7 : dp + dep < recursionLimit := by ktr_room)
    (k8 : un + 8 * dep < cLine := by ktr_units)
    :
    wpAny (model PySem.Challenge.rw_mj0123_01.row.prog w) (ktrTop dp un gd cn cs L a ccd cl outer) (call (.ref f) vs) Q E s :=
  c dp un gd cn cs a ccd cl outer A₀ base h₀ L m s Q E k1 k2 k3 k4 k5 k6 k7 k8 k9
end
section
section
variable {prog : Program} {w : World} {A : Around} {E : Value → Shared → Prop} {s : Shared} {h₀ : Heap} {L : Addr} {m : Str → Option Value} {env : Env}
/-- the turns of a comprehension by an invariant over the values made and the ledger -/
theorem rest_inv {elt : PySem.Expr} {x : Str} {scope : Scope} {cl : List (Str × Addr)} {S : List (Addr × Obj) → Prop} {P : Nat → Value → Prop} {Fin : List Value → List (Addr × Obj) → Prop} {news : List (Addr × Obj)} {n : Nat}
    (J : Nat → List Value → List (Addr × Obj) → Prop) (h0 : J 0 [] news)
    (turn : ∀ i v ys nw I oI C oC D m₂ h tk (E' : Value → Shared → Prop), i < n → P i v → J i ys nw → LCg.NsObj oC m₂ → m₂ x = some v → Fr h₀ L h m → News h₀ L h ((I, oI) :: (C, oC) :: (D, LCg.lst ys) :: nw) → LCg.Off3 I C D nw → ((@Ne Nat I C) ∧ (@Ne Nat I D) ∧ (@Ne Nat C D)) →
      wpAny (model prog w) A (eval elt (compEnvC scope cl C env)) (LCg.CompEnd h₀ L m { s with heap := h, toks := tk } I oI C oC D (LCg.lst ys) S (fun y nw' => J (i + 1) (ys ++ [y]) nw')) E' { s with heap := h, toks := tk })
    (fin : ∀ ys nw, J n ys nw → Fin ys nw) : LCg.CompRest prog w A h₀ L m env elt x scope cl s S P Fin n 0 [] news := by
  have key : ∀ (j i : Nat) (ys : List Value) (nw : List (Addr × Obj)), i + j = n → J i ys nw → LCg.CompRest prog w A h₀ L m env elt x scope cl s S P Fin j i ys nw := by
    intro j
    induction j with
    | zero =>
      intro i ys nw hi hj
      have e : i = n := by omega
      subst e
      exact LCg.CompRest.zero (fin ys nw hj)
    | succ j ih =>
      intro i ys nw hi hj
      refine LCg.CompRest.succ ?_
      intro v I oI C oC D m₂ h tk E' hv hC hx F N off ne
      refine wpAny_mono (turn i v ys nw I oI C oC D m₂ h tk E' (by omega) hv hj hC hx F N off ne) (fun y s₂ hq => ?_) fun _ _ e => e
      obtain ⟨h', tk', nw', e, F', N', off', hS, hJ⟩ := hq
      exact ⟨h', tk', nw', e, F', N', off', hS, ih (i + 1) _ _ (by omega) hJ⟩
  exact key n 0 [] news (by omega) h0
inductive All2 {β : Type} (R : Value → β → Prop) : List Value → List β → Prop where
  | nil : All2 R [] []
  | cons {v : Value} {b : β} {vs : List Value} {bs : List β} : R v b → All2 R vs bs → All2 R (v :: vs) (b :: bs)
theorem All2.snoc {β : Type} {R : Value → β → Prop} {vs : List Value} {bs : List β} {v : Value} {b : β} (h : All2 R vs bs) (r : R v b) : All2 R (vs ++ [v]) (bs ++ [b]) := by
  induction h with
  | nil => exact .cons r .nil
  | cons r' _ ih => exact .cons r' ih
theorem All2.length {β : Type} {R : Value → β → Prop} {vs : List Value} {bs : List β} (h : All2 R vs bs) : vs.length = bs.length := by
  induction h with
  | nil => rfl
  | cons _ _ ih => simp [ih]
theorem All2.get {β : Type} {R : Value → β → Prop} {vs : List Value} {bs : List β} (h : All2 R vs bs) : ∀ (i : Nat) (b : β), bs[i]? = some b → ∃ v, vs[i]? = some v ∧ R v b := by
  induction h with
  | nil => intro i b e; simp at e
  | cons r _ ih =>
    intro i b e
    cases i with
    | zero => simp at e; subst e; exact ⟨_, by simp, r⟩
    | succ i => simp at e; obtain ⟨v, h1, h2⟩ := ih i b e; exact ⟨v, by simpa using h1, h2⟩
theorem All2.get' {β : Type} {R : Value → β → Prop} {vs : List Value} {bs : List β} (h : All2 R vs bs) : ∀ (i : Nat) (v : Value), vs[i]? = some v → ∃ b, bs[i]? = some b ∧ R v b := by
  induction h with
  | nil => intro i b e; simp at e
  | cons r _ ih =>
    intro i b e
    cases i with
    | zero => simp at e; subst e; exact ⟨_, by simp, r⟩
    | succ i => simp at e; obtain ⟨v, h1, h2⟩ := ih i b e; exact ⟨v, by simpa using h1, h2⟩
theorem All2.mono {β : Type} {R R' : Value → β → Prop} {vs : List Value} {bs : List β} (h : All2 R vs bs) (hs : ∀ v b, R v b → R' v b) : All2 R' vs bs := by
  induction h with
  | nil => exact .nil
  | cons r _ ih => exact .cons (hs _ _ r) ih
/-- the turns of a comprehension whose element leaves the ledger as it was -/
theorem rest_list {β : Type} {elt : PySem.Expr} {x : Str} {scope : Scope} {cl : List (Str × Addr)} {S : List (Addr × Obj) → Prop} {P : Nat → Value → Prop} {Fin : List Value → List (Addr × Obj) → Prop} {news : List (Addr × Obj)} {n : Nat} {bs : List β}
    (R : Value → β → Prop) (hn : bs.length = n)
    (turn : ∀ i v b ys I oI C oC D m₂ h tk (E' : Value → Shared → Prop), bs[i]? = some b → P i v → LCg.NsObj oC m₂ → m₂ x = some v → Fr h₀ L h m → News h₀ L h ((I, oI) :: (C, oC) :: (D, LCg.lst ys) :: news) → LCg.Off3 I C D news → ((@Ne Nat I C) ∧ (@Ne Nat I D) ∧ (@Ne Nat C D)) →
      wpAny (model prog w) A (eval elt (compEnvC scope cl C env)) (LCg.CompEnd h₀ L m { s with heap := h, toks := tk } I oI C oC D (LCg.lst ys) S (fun y nw' => nw' = news ∧ R y b)) E' { s with heap := h, toks := tk })
    (fin : ∀ ys, All2 R ys bs → Fin ys news) : LCg.CompRest prog w A h₀ L m env elt x scope cl s S P Fin n 0 [] news := by
  refine rest_inv (fun i ys nw => nw = news ∧ All2 R ys (bs.take i)) ⟨rfl, by simpa using .nil⟩ ?_ ?_
  · rintro i v ys nw I oI C oC D m₂ h tk E' hi hv ⟨rfl, hy⟩ hC hx F N off ne
    have hb : bs[i]? = some (bs[i]'(by omega)) := List.getElem?_eq_getElem _
    refine wpAny_mono (turn i v _ ys I oI C oC D m₂ h tk E' hb hv hC hx F N off ne) (fun y s₂ hq => ?_) fun _ _ e => e
    obtain ⟨h', tk', nw', e, F', N', off', hS, hJ, hr⟩ := hq
    refine ⟨h', tk', nw', e, F', N', off', hS, hJ, ?_⟩
    rw [List.take_add_one, hb]
    exact hy.snoc hr
  · rintro ys nw ⟨rfl, hy⟩
    rw [← hn, List.take_length] at hy
    exact fin ys hy
/-- what a comprehension over a tuple of the ledger's asks -/
noncomputable def TupSrc (prog : Program) (w : World) (A : Around) (h₀ : Heap) (L : Addr) (m : Str → Option Value) (env : Env) (elt : PySem.Expr) (x : Str) (scope : Scope) (cl : List (Str × Addr)) (Q : Value → Shared → Prop) (xv : Value) (s₁ : Shared) : Prop :=
  ∃ ax its k news, xv = .ref ax ∧ A.handled = none ∧ Fr h₀ L s₁.heap m ∧ News h₀ L s₁.heap news ∧ (ax, tup its k) ∈ news ∧ its.length ≤ sizeLine ∧
      ∀ g, LCg.CompRest prog w A h₀ L m env elt x scope cl { s₁ with heap := g } (fun nw => (ax, tup its k) ∈ nw) (fun i v => its[i]? = some v) (LCg.FinE h₀ L m { s₁ with heap := g } Q) its.length 0 [] news
/-- a comprehension over a tuple of the ledger's -/
theorem ListComp_tup {elt iter : PySem.Expr} {x : Str} {px : Pos} {scope : Scope} {cl : List (Str × Addr)} {pos : Pos} {Q : Value → Shared → Prop} (_F₀ : Fr h₀ L s.heap m)
    (hclos : closureFor scope env = pure cl) (hcell : ∀ y ∈ scope.names, y.2 ≠ .cell) (hkind : scope.kind = .function)
    (hnames : ∀ y ∈ scope.names, y.2 = .local → scope.names.lookup y.1 = some .local) (hx : scope.names.lookup x = some .local)
    (h : wpAny (model prog w) A (eval iter env) (TupSrc prog w A h₀ L m env elt x scope cl Q) E s)
    (hs : ∀ x, foldedSetIterable iter env x = pure x := by intro _; rfl) :
    wpAny (model prog w) A (eval (.ListComp elt [⟨.Name x px, iter, [], 0⟩] scope pos) env) Q E s := by
  rw [eval_ListComp]
  refine wpAny_comprehension_free (use := none) rfl hs hclos hkind hnames (wpAny_mono h (fun xv s₁ h₁ => ?_) fun _ _ e => e)
  obtain ⟨ax, its, k, news, rfl, hh, F, N, hm, hsz, R⟩ := h₁
  have ho := (N _ hm).1
  have hT : s₁.heap.IsTuple ax its.toArray := ⟨_, ho, rfl, k, rfl⟩
  have hlt : ax < s₁.heap.objs.size := Heap.lt_size ho
  refine wpAny_pyIter_tuple hT ?_
  have W := Walks.tuple (prog := prog) (w := w) hh s₁.heap.objs.size ax (Nat.ne_of_lt hlt) its.toArray
  have W' : Walks prog w A s₁.heap.objs.size [s₁.heap.objs.size, ax] [s₁.heap.objs.size] its.length (fun i v => its[i]? = some v) (fun i h => h.IsTupleIter s₁.heap.objs.size ax i ∧ h.IsTuple ax its.toArray) := by simpa using W
  have up : ∀ (o' : Obj) b o, s₁.heap.get? b = some o → (s₁.heap.push o').get? b = some o := fun _ b o e => Heap.get?_push_of_some _ e
  refine LCg.block_U W' hsz (fun i h st => by obtain ⟨o, e, _⟩ := st.1; exact ⟨o, e⟩) (S := fun nw => (ax, tup its k) ∈ nw) ?_ hcell hkind hx ⟨⟨_, Heap.get?_push_size _ rfl, rfl, rfl⟩, hT.push _⟩ (fun b hb => ?_)
    (F.keeps (up _)) (N.grown (up _)) (Nat.ne_of_lt F.ns.lt) (next_is_new F) (fun p hp => Nat.ne_of_lt (Heap.lt_size (N p hp).1)) hm (R _) ?_
  · intro i h h' o nw st e e' _ N' hS
    exact ⟨by obtain ⟨o', q, r⟩ := st.1; rw [e] at q; cases q; exact ⟨o, e', r⟩, ⟨_, (N' _ hS).1, rfl, k, rfl⟩⟩
  · show b < (s₁.heap.push _).objs.size
    rw [Heap.size_push]
    rcases List.mem_cons.mp hb with rfl | hb
    · exact Nat.lt_succ_self _
    · rw [List.mem_singleton.mp hb]; exact Nat.lt_succ_of_lt hlt
  · intro D C h tk m' ys news' F' N' o1 hn hC₀ hD₀ hCL hDL hCD offC fin
    refine ⟨m', hn, fun h'' hs'' => fin D h'' tk (F'.change hs'' hCL hC₀) (fun p hp => ?_) o1⟩
    refine ⟨hs''.extBut _ _ ?_ (N' p hp).1, (N' p hp).2⟩
    rcases List.mem_cons.mp hp with rfl | hp
    · exact Ne.symm hCD
    · exact offC p hp
theorem three_at {x y z b : Int} {tx ty tz : Tok} {v : Value} {i : Nat} (hb : [x, y, z][i]? = some b) (hv : [Value.int x tx, .int y ty, .int z tz][i]? = some v) (bx : 0 ≤ x ∧ x ≤ 8) (bY : 0 ≤ y ∧ y ≤ 8) (bz : 0 ≤ z ∧ z ≤ 8) :
    ∃ t, v = .int b t ∧ 0 ≤ b ∧ b ≤ 8 := by
  match i with
  | 0 => simp at hb hv; subst hb hv; exact ⟨_, rfl, bx⟩
  | 1 => simp at hb hv; subst hb hv; exact ⟨_, rfl, bY⟩
  | 2 => simp at hb hv; subst hb hv; exact ⟨_, rfl, bz⟩
  | n + 3 => simp at hb
theorem All2.three {β : Type} {R : Value → β → Prop} {vs : List Value} {a b c : β} (h : All2 R vs [a, b, c]) : ∃ u v w, vs = [u, v, w] ∧ R u a ∧ R v b ∧ R w c := by
  cases h with
  | cons r1 h => cases h with
    | cons r2 h => cases h with
      | cons r3 h => cases h; exact ⟨_, _, _, rfl, r1, r2, r3⟩
noncomputable abbrev e8 (a : Int) : UInt64 := Float64.div (Float64.ofInt a) 4620693217682128896
theorem allLt_mem {d : Nat} : ∀ {l : List (Addr × Obj)}, AllLt d l → ∀ q ∈ l, q.1 < d
  | [], _, _, h => nomatch h
  | _ :: _, x, q, h => by
    rcases List.mem_cons.mp h with rfl | h
    · exact x.1
    · exact allLt_mem x.2 q h
theorem al1 {a : Prop} {d : Nat} {l : List (Addr × Obj)} (h : a ∧ AllLt d l) : ∀ q ∈ l, q.1 < d := allLt_mem h.2
theorem al2 {a b : Prop} {d : Nat} {l : List (Addr × Obj)} (h : a ∧ b ∧ AllLt d l) : ∀ q ∈ l, q.1 < d := allLt_mem h.2.2
theorem al3 {a b c : Prop} {d : Nat} {l : List (Addr × Obj)} (h : a ∧ b ∧ c ∧ AllLt d l) : ∀ q ∈ l, q.1 < d := allLt_mem h.2.2.2
theorem al4 {a b c e : Prop} {d : Nat} {l : List (Addr × Obj)} (h : a ∧ b ∧ c ∧ e ∧ AllLt d l) : ∀ q ∈ l, q.1 < d := allLt_mem h.2.2.2.2
theorem al5 {a b c e f : Prop} {d : Nat} {l : List (Addr × Obj)} (h : a ∧ b ∧ c ∧ e ∧ f ∧ AllLt d l) : ∀ q ∈ l, q.1 < d := allLt_mem h.2.2.2.2.2
end
section
variable {prog : Program} {w : World} {A : Around} {E : Value → Shared → Prop} {s : Shared} {h₀ : Heap} {L : Addr}
theorem tupIndex_K {a : Addr} {vs : Array Value} {n : Nat} {news : List (Addr × Obj)} {pl : Sem Bool} {Q : Value × List Value → Shared → Prop} (N : News h₀ L s.heap news) (hm : (a, ({ cls := .type "tuple", data := .seq vs n } : Obj)) ∈ news)
    (h : Q (.builtin "tuple.index", [.ref a]) s) : wpAny (model prog w) A (getMethod (.ref a) (Str.ofString "index") pl) Q E s :=
  getMethod_builtin (show s.TypeIs (.ref a) "tuple" from ⟨_, (N _ hm).1, rfl⟩) PySem.F.plainAttrs_tuple PySem.F.slot_tuple_index PySem.F.type_tuple_index (fun b e => by cases e; exact ⟨_, (N _ hm).1, rfl⟩) h
end
end
local macro_rules | `(tactic| walk_at "own:f") => `(tactic| ((intro D9 o9 h9 tk9 F9 N9 l9 ho9); (obtain ⟨t9, u9, v9, e9⟩ := ho9); subst e9; (try k_lt l9); (try dsimp only); (try k_sweep); (try k_fold)))
local macro_rules | `(tactic| walk_at "own:i") => `(tactic| ((intro D9 o9 h9 tk9 F9 N9 l9 ho9); (obtain ⟨vs9, hI9, e9⟩ := ho9); subst e9; (try k_lt l9); (try dsimp only); (try k_sweep); (try k_fold)))
local macro_rules | `(tactic| walk_at "own:v") => `(tactic| ((intro r9 h9 tk9 F9 N9 ho9); (obtain ⟨t9, e9⟩ := ho9); subst e9; (try dsimp only); (try k_sweep); (try k_fold)))
local macro_rules | `(tactic| walk_at "own:b") => `(tactic| ((intro r9 h9 tk9 F9 N9 ho9); subst ho9; (try dsimp only); (try k_sweep); (try k_fold)))
local macro_rules | `(tactic| walk_at "own:m") => `(tactic| ((intro r9 tl9 h9 tk9 F9 N9 ho9); (obtain ⟨P9, pvs9, k9, e9, hm9, hc9⟩ := ho9); subst e9; (try dsimp only); (try k_sweep); (try k_fold)))
local macro_rules | `(tactic| walk_at "own:p") => `(tactic| first | assumption | k_mem | omega)
local macro_rules | `(tactic| walk_at "call builtin:max") => `(tactic| (k_here; (with_reducible show wpAny _ _ (call (Value.builtin "max") [Value.float _ _, Value.float _ _, Value.float _ _]) _ _ _); k_dflt (refine' max3_K ?k1 ?k2 ?k3 ?_; (case k1 => exact rfl); (case k2 | k3 => k_asm); k_whole); intro h' tk' k' F' N'; (try k_sweep)))
local macro_rules | `(tactic| walk_at "call builtin:min") => `(tactic| (k_here; (with_reducible show wpAny _ _ (call (Value.builtin "min") [Value.float _ _, Value.float _ _, Value.float _ _]) _ _ _); k_dflt (refine' min3_K ?k1 ?k2 ?k3 ?_; (case k1 => exact rfl); (case k2 | k3 => k_asm); k_whole); intro h' tk' k' F' N'; (try k_sweep)))
section
theorem hsv {w : World} {mean : ExcName → Option Value} {mg mb : Str → Option Value} {x y z : UInt64} {tx ty tz : Tok} {news : List (Addr × Obj)}
    (ok : fEq (fmin3 x y z) (fmax3 x y z) = false → Float64.isZero (fmax3 x y z) = false ∧ Float64.isZero (Float64.sub (fmax3 x y z) (fmin3 x y z)) = false) :
    CtrO w mean mg mb 70 [.float x tx, .float y ty, .float z tz] 1 news (f3 (hsvF x y z)) := by
  unfold CtrO
  k_fill
  intro dp un gd cn cs a ccd cl outer A₀ base h₀ L m s Q E B F X N T hk hd' hu hret
  refine wpAny_call ?_
  k_dflt ktr_enter
  k_steps
  all_goals first
    | (exfalso; (rename Float64.isZero _ = true => hz); (rename (Float64.cmp (fmin3 _ _ _) _ == _) = false => hc); first | (rw [(ok hc).1] at hz; cases hz) | (rw [(ok hc).2] at hz; cases hz))
    | (refine hret _ _ _ _ (by k_asm) (by k_asm) (by assumption) (f3_of ?_); simp only [hsvF, rgb2hue, fEq, *, cond_true, cond_false])
end
section
local macro_rules | `(tactic| walk_at "no such step") => `(tactic| skip)
theorem hls {w : World} {mean : ExcName → Option Value} {mg mb : Str → Option Value} {x y z : UInt64} {tx ty tz : Tok} {news : List (Addr × Obj)}
    (ok : fEq (fmin3 x y z) (fmax3 x y z) = false → Float64.isZero (Float64.add (fmax3 x y z) (fmin3 x y z)) = false ∧ Float64.isZero (Float64.sub (fmax3 x y z) (fmin3 x y z)) = false ∧ Float64.isZero (Float64.sub (Float64.sub 4611686018427387904 (fmax3 x y z)) (fmin3 x y z)) = false) :
    CtrO w mean mg mb 49 [.float x tx, .float y ty, .float z tz] 1 news (f3 (hlsF x y z)) := by
  unfold CtrO
  k_fill
  intro dp un gd cn cs a ccd cl outer A₀ base h₀ L m s Q E B F X N T hk hd' hu hret
  refine wpAny_call ?_
  k_dflt ktr_enter
  k_steps
  all_goals first
    | (exfalso; (rename Float64.isZero _ = true => hz); (rename (Float64.cmp (fmin3 _ _ _) _ == _) = false => hc); first | (rw [(ok hc).1] at hz; cases hz) | (rw [(ok hc).2.1] at hz; cases hz) | (rw [(ok hc).2.2] at hz; cases hz))
    | (refine hret _ _ _ _ (by k_asm) (by k_asm) (by assumption) (f3_of ?_); simp only [hlsF, rgb2hue, fEq, fLe, *, cond_true, cond_false])
end
section
theorem vv {w : World} {mean : ExcName → Option Value} {mg mb : Str → Option Value} {x y z : UInt64} {tx ty tz : Tok} {news : List (Addr × Obj)} :
    CtrV w mean mg mb 63 [.float x tx, .float y ty, .float z tz] 1 news (fun r => ∃ t, r = .float (vF x y z) t) := by
  unfold CtrV
  k_fill
  intro dp un gd cn cs a ccd cl outer A₀ base h₀ L m s Q E B F X N T hk hd' hu hret
  refine wpAny_call ?_
  k_dflt ktr_enter
  k_steps
  all_goals (refine hret _ _ _ (by k_asm) (by k_asm) ⟨_, congrArg (Value.float · _) ?_⟩; simp only [vF, flt, *, cond_true, cond_false])
end
section
local macro_rules | `(tactic| walk_at "call ref") => `(tactic| (k_here; (with_reducible show wpAny _ _ (call (Value.ref 63) _) _ _ _); k_dflt (refine' useV vv ?_); (intro r9 h9 tk9 F9 N9 ho9); (obtain ⟨t9, e9⟩ := ho9); subst e9; (try dsimp only); (try k_fold)))
theorem hls2rgb_c {w : World} {mean : ExcName → Option Value} {mg mb : Str → Option Value} {x y z : UInt64} {tx ty tz : Tok} {news : List (Addr × Obj)} :
    CtrO w mean mg mb 56 [.float x tx, .float y ty, .float z tz] 2 news (f3 (hls2rgb x y z)) := by
  unfold CtrO
  k_fill
  intro dp un gd cn cs a ccd cl outer A₀ base h₀ L m s Q E B F X N T hk hd' hu hret
  refine wpAny_call ?_
  k_dflt ktr_enter
  k_steps
  all_goals (refine hret _ _ _ _ (by k_asm) (by k_asm) (by assumption) (f3_of ?_); simp only [hls2rgb, fEq, fLe, *, cond_true, cond_false])
end
section
theorem hsv2rgb_c {w : World} {mean : ExcName → Option Value} {mg mb : Str → Option Value} {x y z : UInt64} {tx ty tz : Tok} {news : List (Addr × Obj)}
    (ok : fEq y 0 = false → Float64.isNaN (Float64.mul x 4618441417868443648) = false ∧ Float64.isInf (Float64.mul x 4618441417868443648) = false ∧ (sixth x).natAbs < 2 ^ 1024 - 2 ^ 970) :
    CtrO w mean mg mb 77 [.float x tx, .float y ty, .float z tz] 1 news (f3 (hsv2rgb x y z)) := by
  unfold CtrO
  k_fill
  intro dp un gd cn cs a ccd cl outer A₀ base h₀ L m s Q E B F X N T hk hd' hu hret
  refine wpAny_call ?_
  k_dflt ktr_enter
  k_steps
  all_goals first
    | (exfalso; (rename (Float64.cmp _ _ == _) = false => hc); (rename Float64.isNaN _ = true => hz); rw [(ok hc).1] at hz; cases hz)
    | (exfalso; (rename (Float64.cmp _ _ == _) = false => hc); (rename Float64.isInf _ = true => hz); rw [(ok hc).2.1] at hz; cases hz)
    | (exfalso; (rename (Float64.cmp _ _ == _) = false => hc); (rename 2 ^ 1024 - 2 ^ 970 ≤ _ => hz); exact absurd (ok hc).2.2 (Nat.not_lt.mpr hz))
    | (refine hret _ _ _ _ (by k_asm) (by k_asm) (by assumption) (f3_of ?_); (rename (Float64.cmp _ _ == _) = _ => hc); simp only [hsv2rgb, fEq, hc, cond_true, cond_false]; done)
    | (refine hret _ _ _ _ (by k_asm) (by k_asm) (by assumption) (f3_of ?_); (rename (Float64.cmp _ _ == _) = _ => hc); simp only [hsv2rgb, fEq, hc, cond_false]; (repeat first | rw [if_pos (by assumption)] | rw [if_neg (by assumption)]); done)
    | (exfalso; rcases fmod_six (sixth x) with h | h | h | h | h | h <;> contradiction)
end
section
local macro_rules | `(tactic| walk_at "eval ListComp") => `(tactic| (k_here; k_dflt (refine ListComp_tup (by k_asm) (by rfl) (by decide) (by rfl) (by decide) (by rfl) ?_)))
local macro_rules | `(tactic| walk_at "call ref") => `(tactic| (k_here; (with_reducible show wpAny _ _ (call (Value.ref 70) _) _ _ _); k_dflt (refine' useO (hsv ?p0) ?_; (case p0 => walk_at "own:p")); walk_at "own:f"))
local macro_rules | `(tactic| walk_at "call ref") => `(tactic| (k_here; (with_reducible show wpAny _ _ (call (Value.ref 49) _) _ _ _); k_dflt (refine' useO (hls ?p0) ?_; (case p0 => walk_at "own:p")); walk_at "own:f"))
noncomputable abbrev OkS (x y z : UInt64) : Prop := fEq (fmin3 x y z) (fmax3 x y z) = false → Float64.isZero (fmax3 x y z) = false ∧ Float64.isZero (Float64.sub (fmax3 x y z) (fmin3 x y z)) = false
noncomputable abbrev OkL (x y z : UInt64) : Prop := fEq (fmin3 x y z) (fmax3 x y z) = false → Float64.isZero (Float64.add (fmax3 x y z) (fmin3 x y z)) = false ∧ Float64.isZero (Float64.sub (fmax3 x y z) (fmin3 x y z)) = false ∧ Float64.isZero (Float64.sub (Float64.sub 4611686018427387904 (fmax3 x y z)) (fmin3 x y z)) = false
noncomputable def f6 (p q : UInt64 × UInt64 × UInt64) (o : Obj) : Prop := ∃ t u v t' u' v', o = tup [.float p.1 t, .float p.2.1 u, .float p.2.2 v, .float q.1 t', .float q.2.1 u', .float q.2.2 v'] 0
theorem row_c {w : World} {mean : ExcName → Option Value} {mg mb : Str → Option Value} {c : Addr} {x y z : Int} {tx ty tz : Tok} {n : Nat} {news : List (Addr × Obj)}
    (hm : (c, tup [.int x tx, .int y ty, .int z tz] n) ∈ news) (bx : 0 ≤ x ∧ x ≤ 8) (bY : 0 ≤ y ∧ y ≤ 8) (bz : 0 ≤ z ∧ z ≤ 8)
    (ok1 : OkS (e8 x) (e8 y) (e8 z)) (ok2 : OkL (e8 x) (e8 y) (e8 z)) :
    CtrO w mean mg mb 94 [.ref c] 2 news (f6 (hsvF (e8 x) (e8 y) (e8 z)) (hlsF (e8 x) (e8 y) (e8 z))) := by
  unfold CtrO
  k_fill
  intro dp un gd cn cs a ccd cl outer A₀ base h₀ L m s Q E B F X N T hk hd' hu hret
  refine wpAny_call ?_
  k_dflt ktr_enter
  k_steps
  refine ⟨_, _, _, _, rfl, rfl, by k_asm, by k_asm, hm, by (show 3 ≤ sizeLine; rw [sizeLine_eq]; omega), fun g => ?_⟩
  refine rest_list (bs := [x, y, z]) (fun v a => ∃ t, v = .float (e8 a) t) rfl ?_ ?_
  · intro i v b ys I oI C oC D m₂ h tk E' hb hv hC hx F9 N9 off ne
    obtain ⟨t, rfl, b0, b8⟩ := three_at hb hv bx bY bz
    k_steps
    exact LCg.CompEnd.intro (by k_asm) N9 news (fun _ hp => hp) off hm ⟨rfl, _, rfl⟩
  · intro ys hy
    obtain ⟨_, _, _, rfl, ⟨t1, rfl⟩, ⟨t2, rfl⟩, ⟨t3, rfl⟩⟩ := hy.three
    k_steps
    exact hret _ _ _ _ (by k_asm) (cb_drop (by assumption) (by kcf_all)) (al3 (by assumption)) ⟨_, _, _, _, _, _, rfl⟩
end
local macro_rules | `(tactic| k_mem) => `(tactic| (refine List.mem_cons_of_mem _ ?_; first | ktr_member | (refine List.mem_cons_of_mem _ ?_; first | ktr_member | (refine List.mem_cons_of_mem _ ?_; first | ktr_member | (refine List.mem_cons_of_mem _ ?_; first | ktr_member | (refine List.mem_cons_of_mem _ ?_; first | ktr_member | (refine List.mem_cons_of_mem _ ?_; first | ktr_member | (refine List.mem_cons_of_mem _ ?_; first | ktr_member | (refine List.mem_cons_of_mem _ ?_; first | ktr_member)))))))))
section
local macro_rules | `(tactic| walk_at "no such step") => `(tactic| skip)
local macro_rules | `(tactic| walk_at "eval ListComp") => `(tactic| (k_here; k_dflt (refine ListComp_tup (by k_asm) (by rfl) (by decide) (by rfl) (by decide) (by rfl) ?_)))
local macro_rules | `(tactic| walk_at "call ref") => `(tactic| (k_here; (with_reducible show wpAny _ _ (call (Value.ref 56) _) _ _ _); k_dflt (refine' useO hls2rgb_c ?_); walk_at "own:f"))
local macro_rules | `(tactic| walk_at "call ref") => `(tactic| (k_here; (with_reducible show wpAny _ _ (call (Value.ref 77) _) _ _ _); k_dflt (refine' useO (hsv2rgb_c ?p0) ?_; (case p0 => walk_at "own:p")); walk_at "own:f"))
noncomputable abbrev rnd (x : UInt64) : Int := PySem.Flt.toInt Float64.nearestOf (Float64.mul 4620693217682128896 x)
noncomputable abbrev RndOk (x : UInt64) (a : Int) : Prop := Float64.isNaN (Float64.mul 4620693217682128896 x) = false ∧ Float64.isInf (Float64.mul 4620693217682128896 x) = false ∧ rnd x = a
theorem three_fl {x y z : UInt64} {a b c k : Int} {tx ty tz : Tok} {v : Value} {i : Nat} (hb : [a, b, c][i]? = some k) (hv : [Value.float x tx, .float y ty, .float z tz][i]? = some v) (bx : RndOk x a) (bY : RndOk y b) (bz : RndOk z c) :
    ∃ p t, v = .float p t ∧ RndOk p k := by
  match i with
  | 0 => simp at hb hv; subst hb hv; exact ⟨_, _, rfl, bx⟩
  | 1 => simp at hb hv; subst hb hv; exact ⟨_, _, rfl, bY⟩
  | 2 => simp at hb hv; subst hb hv; exact ⟨_, _, rfl, bz⟩
  | n + 3 => simp at hb
theorem back_c {w : World} {mean : ExcName → Option Value} {mg mb : Str → Option Value} {c rw : Addr} {x y z : Int} {tx ty tz : Tok} {n nr : Nat} {news : List (Addr × Obj)} {a1 a2 a3 b1 b2 b3 : UInt64} {t1 t2 t3 t4 t5 t6 : Tok}
    (hm : (c, tup [.int x tx, .int y ty, .int z tz] n) ∈ news) (hr : (rw, tup [.float a1 t1, .float a2 t2, .float a3 t3, .float b1 t4, .float b2 t5, .float b3 t6] nr) ∈ news) 
    (ok : fEq a2 0 = false → Float64.isNaN (Float64.mul a1 4618441417868443648) = false ∧ Float64.isInf (Float64.mul a1 4618441417868443648) = false ∧ (sixth a1).natAbs < 2 ^ 1024 - 2 ^ 970)
    (s1 : RndOk (hsv2rgb a1 a2 a3).1 x) (s2 : RndOk (hsv2rgb a1 a2 a3).2.1 y) (s3 : RndOk (hsv2rgb a1 a2 a3).2.2 z)
    (l1 : RndOk (hls2rgb b1 b2 b3).1 x) (l2 : RndOk (hls2rgb b1 b2 b3).2.1 y) (l3 : RndOk (hls2rgb b1 b2 b3).2.2 z) :
    CtrV w mean mg mb 125 [.ref c, .ref rw] 12 news (fun v => v = .bool true) := by
  unfold CtrV
  k_fill
  intro dp un gd cn cs a ccd cl outer A₀ base h₀ L m s Q E B F X N T hk hd' hu hret
  refine wpAny_call ?_
  k_dflt ktr_enter
  k_steps
  refine ⟨_, _, _, _, rfl, rfl, by k_asm, by k_asm, by kcf_m, by (show 3 ≤ sizeLine; rw [sizeLine_eq]; omega), fun g => ?_⟩
  refine rest_list (bs := [x, y, z]) (fun v a => ∃ t, v = .int a t) rfl ?_ ?_
  · intro i v b ys I oI C oC D m₂ h tk E' hb hv hC hx F9 N9 off ne
    obtain ⟨p, t, rfl, q1, q2, q3⟩ := three_fl hb hv s1 s2 s3
    k_steps
    all_goals first
      | (exfalso; (rename Float64.isNaN _ = true => hz); rw [q1] at hz; cases hz)
      | (exfalso; (rename Float64.isInf _ = true => hz); rw [q2] at hz; cases hz)
      | exact LCg.CompEnd.intro (by k_asm) (by k_asm) _ (fun _ hp => hp) off (by kcf_m) ⟨rfl, _, congrArg (Value.int · _) q3⟩
  · intro ys hy
    obtain ⟨_, _, _, rfl, ⟨t1, rfl⟩, ⟨t2, rfl⟩, ⟨t3, rfl⟩⟩ := hy.three
    k_steps
    refine ⟨_, _, _, _, rfl, rfl, by k_asm, by k_asm, by kcf_m, by (show 3 ≤ sizeLine; rw [sizeLine_eq]; omega), fun g => ?_⟩
    refine rest_list (bs := [x, y, z]) (fun v a => ∃ t, v = .int a t) rfl ?_ ?_
    · intro i v b ys I oI C oC D m₂ h tk E' hb hv hC hx F9 N9 off ne
      obtain ⟨p, t, rfl, q1, q2, q3⟩ := three_fl hb hv l1 l2 l3
      k_steps
      all_goals first
        | (exfalso; (rename Float64.isNaN _ = true => hz); rw [q1] at hz; cases hz)
        | (exfalso; (rename Float64.isInf _ = true => hz); rw [q2] at hz; cases hz)
        | exact LCg.CompEnd.intro (by k_asm) (by k_asm) _ (fun _ hp => hp) off (by kcf_m) ⟨rfl, _, congrArg (Value.int · _) q3⟩
    · intro ys hy
      obtain ⟨_, _, _, rfl, ⟨t1, rfl⟩, ⟨t2, rfl⟩, ⟨t3, rfl⟩⟩ := hy.three
      k_steps
      exact hret _ _ _ (by k_asm) (cb_drop (by assumption) (by kcf_all)) rfl
end
section
noncomputable def lo3 (x y z : Int) : Int := min x (min y z)
noncomputable def hi3 (x y z : Int) : Int := max x (max y z)
noncomputable def md3 (x y z : Int) : Int := x + y + z - lo3 x y z - hi3 x y z
noncomputable def idx3 (x y z k : Int) : Int := if x = k then 0 else if y = k then 1 else 2
noncomputable def sixthF (c : Int) : Int := if c = 2 then 0 else if c = 5 then 1 else if c = 3 then 2 else if c = 6 then 3 else if c = 7 then 4 else 5
section
variable {x y z k : Int}
theorem hi3_mem : x = hi3 x y z ∨ y = hi3 x y z ∨ z = hi3 x y z := by unfold hi3; omega
theorem lo3_mem : x = lo3 x y z ∨ y = lo3 x y z ∨ z = lo3 x y z := by unfold lo3; omega
theorem idx3_mem : idx3 x y z k = 0 ∨ idx3 x y z k = 1 ∨ idx3 x y z k = 2 := by unfold idx3; split; simp; split <;> simp
theorem idx3_bnd : 0 ≤ idx3 x y z k ∧ idx3 x y z k ≤ 2 := by rcases idx3_mem (x := x) (y := y) (z := z) (k := k) with h | h | h <;> rw [h] <;> decide
theorem idx3_ne (h : lo3 x y z ≠ hi3 x y z) : idx3 x y z (hi3 x y z) ≠ idx3 x y z (lo3 x y z) := by
  unfold idx3
  have a := hi3_mem (x := x) (y := y) (z := z)
  have b := lo3_mem (x := x) (y := y) (z := z)
  revert a b h
  generalize hi3 x y z = p
  generalize lo3 x y z = q
  intro h a b
  split <;> split <;> (try split) <;> (try split) <;> omega
theorem corner_six (h : lo3 x y z ≠ hi3 x y z) : 3 * idx3 x y z (hi3 x y z) + idx3 x y z (lo3 x y z) = 2 ∨ 3 * idx3 x y z (hi3 x y z) + idx3 x y z (lo3 x y z) = 5 ∨ 3 * idx3 x y z (hi3 x y z) + idx3 x y z (lo3 x y z) = 3 ∨
    3 * idx3 x y z (hi3 x y z) + idx3 x y z (lo3 x y z) = 6 ∨ 3 * idx3 x y z (hi3 x y z) + idx3 x y z (lo3 x y z) = 7 ∨ 3 * idx3 x y z (hi3 x y z) + idx3 x y z (lo3 x y z) = 1 := by
  have a := idx3_ne h
  have b := idx3_mem (x := x) (y := y) (z := z) (k := hi3 x y z)
  have c := idx3_mem (x := x) (y := y) (z := z) (k := lo3 x y z)
  omega
end
section
variable {prog : Program} {w : World} {A : Around} {E : Value → Shared → Prop} {s : Shared} {Q : Value → Shared → Prop} {x y z k : Int} {tx ty tz tk : Tok} {a n : Nat}
theorem index3_one {h₀ : Heap} {L : Addr} {news : List (Addr × Obj)} (N : News h₀ L s.heap news) (hm : (a, ({ cls := .type "tuple", data := .seq #[.int x tx, .int y ty, .int z tz] n } : Obj)) ∈ news) (hk : x = k ∨ y = k ∨ z = k)
    (h : 0 ≤ idx3 x y z k → idx3 x y z k ≤ 2 → Q (.int (idx3 x y z k) s.toks) { s with toks := s.toks + 1 }) :
    wpAny (model prog w) A (call (.builtin "tuple.index") [.ref a, .int k tk]) Q E s := by
  have h' := h idx3_bnd.1 idx3_bnd.2
  refine index3_K N hm hk (fun i => ?_) (fun i j => ?_) (fun i j l => ?_)
  · unfold idx3 at h'; rw [if_pos i] at h'; exact h'
  · unfold idx3 at h'; rw [if_neg i, if_pos j] at h'; exact h'
  · unfold idx3 at h'; rw [if_neg i, if_neg j] at h'; exact h'
theorem sorted3_one {h₀ : Heap} {L : Addr} {m : Str → Option Value} {news : List (Addr × Obj)} (F : Fr h₀ L s.heap m) (N : News h₀ L s.heap news) (hm : (a, ({ cls := .type "tuple", data := .seq #[.int x tx, .int y ty, .int z tz] n } : Obj)) ∈ news)
    (bx : 0 ≤ x ∧ x ≤ 8) (bY : 0 ≤ y ∧ y ≤ 8) (bz : 0 ≤ z ∧ z ≤ 8)
    (h : ∀ D c h' tl tm tu, Fr h₀ L h' m → News h₀ L h' ((D, PySem.W.listOf #[.int (lo3 x y z) tl, .int (md3 x y z) tm, .int (hi3 x y z) tu] c) :: news) → (∀ q ∈ news, q.1 < D) → 0 ≤ lo3 x y z → lo3 x y z ≤ md3 x y z → md3 x y z ≤ hi3 x y z → hi3 x y z ≤ 8 → Q (.ref D) { s with heap := h' }) :
    wpAny (model prog w) A (call (.builtin "sorted") [.ref a]) Q E s := by
  refine sorted3_K F N hm fun D c h' l md u tl tm tu F' N' lt e1 e2 e3 e4 e5 => ?_
  have el : l = lo3 x y z := e3
  have eu : u = hi3 x y z := e4
  have em : md = md3 x y z := by unfold md3; omega
  subst el eu em
  exact h D c h' tl tm tu F' N' lt (by unfold lo3; omega) e1 e2 (by unfold hi3; omega)
end
/-- what _law_ranks computes -/
noncomputable def ranksF (x y z : Int) : List Int :=
  let lo := lo3 x y z
  let hi := hi3 x y z
  let md := md3 x y z
  let sp := hi - lo
  if sp = 0 then [0, 0, hi, 0, lo + hi, 0] else
  let sx := sixthF (3 * idx3 x y z hi + idx3 x y z lo)
  let way := if sx.fmod 2 = 0 then md - lo else hi - md
  let wheel := ((840 * (sx * sp + way)).fdiv sp).fmod 5040
  let total := lo + hi
  let room := if total ≤ 8 then total else 16 - total
  [wheel, (840 * sp).fdiv hi, hi, wheel, total, (840 * sp).fdiv room]
end
section
/-- the table of the sixths -/
noncomputable def SixD (prog : Program) (w : World) (o : Obj) : Prop := ∃ t1 t2 t3 t4 t5 t6, o.IsDictOf (PySem.intKind prog w) [(2, .int 0 t1), (5, .int 1 t2), (3, .int 2 t3), (6, .int 3 t4), (7, .int 4 t5), (1, .int 5 t6)]
section
variable {prog : Program} {w : World} {h₀ h : Heap} {L : Addr} {m : Str → Option Value} {news : List (Addr × Obj)} {a1 a2 a3 a4 a5 a6 b1 b2 b3 b4 b5 b6 : Tok}
theorem six_made {P : Heap → Prop} (F : Fr h₀ L h m) (N : News h₀ L h news)
    (k : ∀ h' o, Fr h₀ L h' m → News h₀ L h' ((h.objs.size, o) :: news) → (∀ p ∈ news, p.1 < h.objs.size) → SixD prog w o → P h') :
    ∃ kvs, Carries (PySem.intKind prog w) [(.int 2 a1, .int 0 b1), (.int 5 a2, .int 1 b2), (.int 3 a3, .int 2 b3), (.int 6 a4, .int 3 b4), (.int 7 a5, .int 4 b5), (.int 1 a6, .int 5 b6)] kvs ∧ (h.push { cls := .type "dict", data := .dict #[] }).DictOf (PySem.intKind prog w) h.objs.size [] ∧
      ∀ h', h'.DictOf (PySem.intKind prog w) h.objs.size (merged [] kvs) → Heap.SameBut h.objs.size (h.push { cls := .type "dict", data := .dict #[] }) h' → P h' :=
  made_int F N (by rfl) (by show ([2, 5, 3, 6, 7, 1] : List Int).Nodup; decide) fun h' o F' N' hd => k h' o F' N' (fun p hp => Heap.lt_size (N p hp).1) ⟨_, _, _, _, _, _, hd⟩
end
section
variable {prog : Program} {w : World} {A : Around} {E : Value → Shared → Prop} {s : Shared} {h₀ : Heap} {L d : Addr} {news : List (Addr × Obj)} {o : Obj} {c : Int} {t : Tok}
theorem six_item {value slice : PySem.Expr} {Q : Value → Shared → Prop} (N : News h₀ L s.heap news) (hp : (d, o) ∈ news) (hd : SixD prog w o) (hc : c = 2 ∨ c = 5 ∨ c = 3 ∨ c = 6 ∨ c = 7 ∨ c = 1) (h : ∀ u, 0 ≤ sixthF c → sixthF c ≤ 5 → Q (.int (sixthF c) u) { s with toks := s.toks + 1 })
    (hs : subscripted slice false (.ref d) (.int c t) = operate [.ref d, .int c t] (getItem (.ref d) (.int c t)) := by with_unfolding_all rfl) (hg : ∀ r, letTemporaryGo value (.ref d) r = pure () := by intro _; with_unfolding_all rfl) :
    wpAny (model prog w) A (subscriptTail value slice (.ref d) (.int c t)) Q E s := by
  obtain ⟨t1, t2, t3, t4, t5, t6, hd⟩ := hd
  rcases hc with rfl | rfl | rfl | rfl | rfl | rfl
  all_goals exact kda_item (knd := PySem.intKind _ _) N hp hd (intKind_is _ _ _ _) (by rfl) (h _ (by decide) (by decide)) hs hg
end
noncomputable def intsO (ns : List Int) (o : Obj) : Prop := ∃ vs, IntsAre vs ns ∧ o = PySem.W.listOf vs.toArray 0
theorem ints6 {ns : List Int} {a b c d e f : Int} {t1 t2 t3 t4 t5 t6 : Tok} (h : ns = [a, b, c, d, e, f]) : intsO ns (PySem.W.listOf #[.int a t1, .int b t2, .int c t3, .int d t4, .int e t5, .int f t6] 0) := by
  subst h
  exact ⟨[.int a t1, .int b t2, .int c t3, .int d t4, .int e t5, .int f t6], .cons _ _ (.cons _ _ (.cons _ _ (.cons _ _ (.cons _ _ (.cons _ _ .nil))))), rfl⟩
end
section
local macro_rules | `(tactic| walk_at "call builtin:sorted") => `(tactic| (k_here; (with_reducible show wpAny _ _ (call (Value.builtin "sorted") [Value.ref _]) _ _ _); k_dflt (refine' sorted3_one ?k1 ?k2 ?k3 ?b1 ?b2 ?b3 ?_; (case k1 | k2 => k_asm); (case k3 => k_mem); (case b1 | b2 | b3 => assumption); k_whole); intro D' c' h' tl' tm' tu' F' N' l1 e1' e2' e3' e4'; (try k_lt l1); (try k_sweep)))
local macro_rules | `(tactic| walk_at "call builtin:tuple.index") => `(tactic| (k_here; (show wpAny _ _ (call (Value.builtin "tuple.index") [Value.ref _, Value.int _ _]) _ _ _); k_dflt (refine' index3_one ?k1 ?k2 ?k3 ?_; (case k1 => k_asm); (case k2 => k_mem); (case k3 => first | exact hi3_mem | exact lo3_mem); k_whole); intro i1' i2'))
local macro_rules | `(tactic| walk_at "getMethod ref") => `(tactic| (k_here; (with_reducible show wpAny _ _ (getMethod (Value.ref _) (PySem.Str.ofString "index") _) _ _ _); k_dflt (refine' tupIndex_K ?N ?m ?_; (case N => k_asm); (case m => k_mem))))
local macro_rules | `(tactic| walk_at "Exists") => `(tactic| (k_here; (refine six_made (by k_asm) (by k_asm) ?_); intro h' o' F' N' l1 hd'; (try k_lt l1); (try dsimp only); (try k_sweep)))
local macro_rules | `(tactic| walk_at "subscriptTail") => `(tactic| (k_here; (with_reducible show wpAny _ _ (subscriptTail _ _ (Value.ref _) (Value.int _ _)) _ _ _); k_dflt (refine' six_item ?k1 ?k2 ?k3 ?k4 ?_; (case k1 => k_asm); (case k2 => k_mem); (case k3 => assumption); (case k4 => exact corner_six (by omega)); k_whole); intro u' s1' s2'; (try dsimp only)))
theorem ranks_c {w : World} {mean : ExcName → Option Value} {mg mb : Str → Option Value} {c : Addr} {x y z : Int} {tx ty tz : Tok} {n : Nat} {news : List (Addr × Obj)}
    (hm : (c, tup [.int x tx, .int y ty, .int z tz] n) ∈ news) (bx : 0 ≤ x ∧ x ≤ 8) (bY : 0 ≤ y ∧ y ≤ 8) (bz : 0 ≤ z ∧ z ≤ 8) :
    CtrO w mean mg mb 101 [.ref c] 12 news (intsO (ranksF x y z)) := by
  unfold CtrO
  k_fill
  intro dp un gd cn cs a ccd cl outer A₀ base h₀ L m s Q E B F X N T hk hd' hu hret
  refine wpAny_call ?_
  k_dflt ktr_enter
  k_steps
  all_goals first
    | (refine hret _ _ _ _ (by k_asm) (cb_drop (by assumption) (by kcf_all)) (al1 (by assumption)) (ints6 ?_); simp only [ranksF, *, if_true]; done)
    | (refine hret _ _ _ _ (by k_asm) (cb_drop (by assumption) (by kcf_all)) (al2 (by assumption)) (ints6 ?_); simp only [ranksF]; (rw [if_neg (by assumption)]); (first | rw [if_pos (by assumption)] | rw [if_neg (by assumption)]); (first | rw [if_pos (by assumption)] | rw [if_neg (by assumption)]); done)
end
section
section
variable {prog : Program} {w : World} {A : Around} {E : Value → Shared → Prop} {s : Shared} {h₀ : Heap} {L : Addr} {news : List (Addr × Obj)} {Q : Value → Shared → Prop} {value slice : PySem.Expr} {l n : Nat} {vs : List Value} {k : Int} {u : Tok}
/-- an item of a list of ints -/
theorem item_ints {ns : List Int} (N : News h₀ L s.heap news) (hm : (l, PySem.W.listOf vs.toArray n) ∈ news) (hI : IntsAre vs ns) (h0 : 0 ≤ k) (h1 : k < (ns.length : Int)) (hfit : k < 2 ^ 63)
    (h : ∀ t, Q (.int (ns.getD k.toNat 0) t) s)
    (hs : subscripted slice false (.ref l) (.int k u) = operate [.ref l, .int k u] (getItem (.ref l) (.int k u)) := by with_unfolding_all rfl) :
    wpAny (model prog w) A (subscriptTail value slice (.ref l) (.int k u)) Q E s := by
  have hl : s.heap.IsList l vs.toArray := ⟨_, (N _ hm).1, rfl, n, rfl⟩
  have hk : k.toNat < ns.length := by omega
  obtain ⟨t, e⟩ := hI.get k.toNat _ (List.getElem?_eq_getElem hk)
  have e2 : ns.getD k.toNat 0 = ns[k.toNat] := by simp [List.getD_eq_getElem?_getD, hk]
  exact tail_any hl.typeIs slot_list_getitem.lookup (wpAny_getItem_list hl h0 hfit (by simpa using e) (e2 ▸ h t)) hs
noncomputable abbrev FlV (v : Value) (b : UInt64) : Prop := ∃ t, v = .float b t
/-- an item of a tuple of floats -/
theorem item_fl {fs : List UInt64} (N : News h₀ L s.heap news) (hm : (l, tup vs n) ∈ news) (hF : All2 FlV vs fs) (h0 : 0 ≤ k) (h1 : k < (fs.length : Int)) (hfit : k < 2 ^ 63)
    (h : ∀ t, Q (.float (fs.getD k.toNat 0) t) s)
    (hs : subscripted slice false (.ref l) (.int k u) = operate [.ref l, .int k u] (getItem (.ref l) (.int k u)) := by with_unfolding_all rfl) :
    wpAny (model prog w) A (subscriptTail value slice (.ref l) (.int k u)) Q E s := by
  have hk : k.toNat < fs.length := by omega
  obtain ⟨v, e, t, rfl⟩ := hF.get k.toNat _ (List.getElem?_eq_getElem hk)
  have e2 : fs.getD k.toNat 0 = fs[k.toNat] := by simp [List.getD_eq_getElem?_getD, hk]
  refine item_tupleT (l := vs) (j := k.toNat) ⟨_, (N _ hm).1, rfl, n, rfl⟩ (by omega) hfit ?_ e (e2 ▸ h t) hs
  have := hF.length
  have hn : ¬ k < 0 := by omega
  have hv : k < (vs.length : Int) := by omega
  simp [seqIndex?, hn, h0, hv]
/-- an item of a list of references -/
theorem item_refs {β : Type} {R : Value → β → Prop} {bs : List β} (N : News h₀ L s.heap news) (hm : (l, PySem.W.listOf vs.toArray n) ∈ news) (hI : All2 R vs bs) (h0 : 0 ≤ k) (h1 : k < (bs.length : Int)) (hfit : k < 2 ^ 63)
    (h : ∀ v b, bs[k.toNat]? = some b → R v b → Q v s)
    (hs : subscripted slice false (.ref l) (.int k u) = operate [.ref l, .int k u] (getItem (.ref l) (.int k u)) := by with_unfolding_all rfl) :
    wpAny (model prog w) A (subscriptTail value slice (.ref l) (.int k u)) Q E s := by
  have hl : s.heap.IsList l vs.toArray := ⟨_, (N _ hm).1, rfl, n, rfl⟩
  have hk : k.toNat < bs.length := by omega
  obtain ⟨v, e, r⟩ := hI.get k.toNat _ (List.getElem?_eq_getElem hk)
  exact tail_any hl.typeIs slot_list_getitem.lookup (wpAny_getItem_list hl h0 hfit (by simpa using e) (h v _ (List.getElem?_eq_getElem hk) r)) hs
end
noncomputable def sgnF (d : Int) : Int := if d = 0 then 0 else if 0 < d then 1 else -1
noncomputable def wtF (rk : List Int) (ks : List (Int × Int)) : Int := ks.foldl (fun a k => 6000 * a + k.2 * rk.getD k.1.toNat 0) 0
theorem ranks_len (x y z : Int) : (ranksF x y z).length = 6 := by unfold ranksF; dsimp only; split <;> rfl
end
section
theorem sign_c {w : World} {mean : ExcName → Option Value} {mg mb : Str → Option Value} {d : Int} {td : Tok} {news : List (Addr × Obj)} :
    CtrV w mean mg mb 115 [.int d td] 1 news (fun r => ∃ t, r = .int (sgnF d) t) := by
  unfold CtrV
  k_fill
  intro dp un gd cn cs a ccd cl outer A₀ base h₀ L m s Q E B F X N T hk hd' hu hret
  refine wpAny_call ?_
  k_dflt ktr_enter
  k_steps
  all_goals (refine hret _ _ _ (by k_asm) (by k_asm) ⟨_, congrArg (Value.int · _) ?_⟩; unfold sgnF; (repeat' split) <;> omega)
end
section
/-- the frame between the turns: the known names, the forgotten ones, the rest as it was -/
noncomputable abbrev frB (m₀ u : Str → Option Value) (stored : List Str) (ps : List (Str × Value)) : Str → Option Value := kstB (fun z => if stored.contains z then u z else m₀ z) ps
structure FrOk (m₀ : Str → Option Value) (stored : List Str) (ps : List (Str × Value)) (m : Str → Option Value) : Prop where
  known : ∀ p ∈ ps, m p.1 = some p.2
  same : ∀ z, (∀ p ∈ ps, z ≠ p.1) → stored.contains z = false → m z = m₀ z
theorem FrOk.eq {m₀ m : Str → Option Value} {stored : List Str} {ps : List (Str × Value)} (h : FrOk m₀ stored ps m) : frB m₀ m stored ps = m := by
  funext z
  refine kstB_eq h.known fun hz => ?_
  cases hc : stored.contains z with
  | true => rfl
  | false => exact (h.same z hz hc).symm
noncomputable def TurnEnd {σ : Type} (h₀ : Heap) (L : Addr) (I : Addr) (oI : Obj) (m₀ : Str → Option Value) (stored : List Str) (ps : σ → List (Str × Value)) (Inv : σ → List (Addr × Obj) → Prop) (s₁ s₂ : Shared) : Prop :=
  ∃ h' tk m' nw' c, s₂ = { s₁ with heap := h', toks := tk } ∧ Fr h₀ L h' m' ∧ News h₀ L h' ((I, oI) :: nw') ∧ (∀ p ∈ nw', p.1 ≠ I) ∧ FrOk m₀ stored (ps c) m' ∧ Inv c nw'
noncomputable def TurnPost {σ : Type} (h₀ : Heap) (L : Addr) (I : Addr) (oI : Obj) (m₀ : Str → Option Value) (stored : List Str) (ps : σ → List (Str × Value)) (Inv : σ → List (Addr × Obj) → Prop) (s₁ : Shared) (Q : Flow → Shared → Prop) (f : Flow) (s₂ : Shared) : Prop :=
  match f with
  | .ret v => Q (.ret v) s₂
  | .brk => Q .next s₂
  | _ => TurnEnd h₀ L I oI m₀ stored ps Inv s₁ s₂
section
variable {prog : Program} {w : World} {A : Around} {E : Value → Shared → Prop} {s : Shared} {env : Env} {h₀ : Heap} {target : PySem.Expr} {body : List Stmt} {Q : Flow → Shared → Prop}
theorem turns_core {σ : Type} {I : Addr} {fp : List Addr} {n : Nat} {P : Nat → Value → Prop} {St : Nat → Heap → Prop} {m₀ : Str → Option Value} {news : List (Addr × Obj)} (keep : List (Addr × Obj))
    (stored : List Str) (ps : σ → List (Str × Value)) (Inv : Nat → σ → List (Addr × Obj) → Prop) (c₀ : σ)
    (W : Walks prog w A I fp [I] n P St) (hIo : ∀ i h, St i h → ∃ o, h.get? I = some o)
    (hgo : ∀ i v (s : Shared) (Q : Unit → Shared → Prop) (E : Value → Shared → Prop), St i s.heap → Q () s → wpAny (model prog w) A (letOwnedTupleGo target (.ref I) v) Q E s)
    (hfp : ∀ b ∈ fp, b = I ∨ ∃ o, (b, o) ∈ keep) (hkeep : ∀ i c nw, Inv i c nw → ∀ p ∈ keep, p ∈ nw)
    (hI₀ : h₀.get? I = none) (hLf : env.locals ∉ fp) (hst : St 0 s.heap) (F : Fr h₀ env.locals s.heap m₀) (N : News h₀ env.locals s.heap news) (hnI : ∀ p ∈ news, p.1 ≠ I) (hk₀ : ∀ p ∈ ps c₀, m₀ p.1 = some p.2) (h0 : Inv 0 c₀ news)
    (turn : ∀ i v c u nw h tk oI, i < n → P i v → Inv i c nw → Fr h₀ env.locals h (frB m₀ u stored (ps c)) → News h₀ env.locals h ((I, oI) :: nw) → (∀ p ∈ nw, p.1 ≠ I) →
      wpAny (model prog w) A (assign target env v) (fun _ s₃ => wpAny (model prog w) A (execs body env) (TurnPost h₀ env.locals I oI m₀ stored ps (Inv (i + 1)) { s with heap := h, toks := tk } Q) E s₃) E { s with heap := h, toks := tk })
    (done : ∀ c u nw h tk, Inv n c nw → Fr h₀ env.locals h (frB m₀ u stored (ps c)) → News h₀ env.locals h nw → Q .next { s with heap := h, toks := tk }) :
    TurnsAt prog w A h₀ env target body Q E (.ref I) s := by
  have hIf : I ∈ fp := W.sub I (List.mem_singleton.mpr rfl)
  refine ⟨I, fp, [I], n, _, _, St, m₀, news, fun i m nw => ∃ c, FrOk m₀ stored (ps c) m ∧ Inv i c nw, rfl, KTurns.ofWalks W hgo, hLf, fun b hb => by rw [List.mem_singleton.mp hb]; exact hI₀, fun p hp hq => hnI p hp (List.mem_singleton.mp hq), hst, F, N, ⟨c₀, ⟨hk₀, fun _ _ _ => rfl⟩, h0⟩, ?_, ?_⟩
  · rintro i v m₁ nw h₁ tk₁ own hi hP ⟨c, hF, hJ⟩ hnw hown hget hmem hst₁ F₁ N₁
    obtain ⟨oI, eI⟩ := hIo _ _ hst₁
    have mI : (I, oI) ∈ own := hmem I hIf hI₀ oI eI
    have N₂ : News h₀ env.locals h₁ ((I, oI) :: nw) := fun p hp => by
      rcases List.mem_cons.mp hp with rfl | hp
      · exact N₁ _ (List.mem_append_left _ mI)
      · exact N₁ _ (List.mem_append_right _ hp)
    have F₂ : Fr h₀ env.locals h₁ (frB m₀ m₁ stored (ps c)) := by rw [hF.eq]; exact F₁
    refine wpAny_mono (turn i v c m₁ nw h₁ tk₁ oI hi hP hJ F₂ N₂ fun p hp => fun e => hnw p hp (List.mem_singleton.mpr e)) (fun _ s₃ h₃ => wpAny_mono h₃ (fun f s₄ hp => ?_) fun _ _ e => e) fun _ _ e => e
    have fin : TurnEnd h₀ env.locals I oI m₀ stored ps (Inv (i + 1)) { s with heap := h₁, toks := tk₁ } s₄ → LoopStepU h₀ env.locals [I] own (fun m nw => ∃ c, FrOk m₀ stored (ps c) m ∧ Inv (i + 1) c nw) { s with heap := h₁, toks := tk₁ } .next s₄ := by
      rintro ⟨h', tk', m', nw', c', rfl, F', N', hI', hF', hJ'⟩
      refine ⟨rfl, h', tk', m', nw', rfl, F', fun p hp => ?_, fun p hp hq => hI' p hp (List.mem_singleton.mp hq), ⟨c', hF', hJ'⟩⟩
      rcases List.mem_append.mp hp with hp | hp
      · have e := hget p hp
        rcases hfp _ (hown p hp) with hb | ⟨o, ho⟩
        · rw [hb, eI] at e
          have : p = (I, oI) := by rw [← hb]; exact Prod.ext rfl (Option.some.inj e).symm
          rw [this]; exact N' _ List.mem_cons_self
        · have e2 := (N₂ _ (List.mem_cons_of_mem _ (hkeep _ _ _ hJ _ ho))).1
          rw [e] at e2
          have : p = (p.1, o) := Prod.ext rfl (Option.some.inj e2)
          rw [this]; exact N' _ (List.mem_cons_of_mem _ (hkeep _ _ _ hJ' _ ho))
      · exact N' _ (List.mem_cons_of_mem _ hp)
    cases f with
    | ret v => exact hp
    | brk => exact hp
    | next => exact fin hp
    | cont => exact fin hp
  · rintro h' tk m' nw' F' N' _ ⟨c, hF, hJ⟩
    exact done c m' nw' h' tk hJ (by rw [hF.eq]; exact F') N'
theorem turns_list {σ : Type} {ax : Addr} {its : List Value} {k : Nat} {m₀ : Str → Option Value} {news : List (Addr × Obj)} (stored : List Str) (ps : σ → List (Str × Value)) (Inv : Nat → σ → List (Addr × Obj) → Prop) (c₀ : σ)
    (hh : A.handled = none) (F : Fr h₀ env.locals s.heap m₀) (N : News h₀ env.locals s.heap news) (hm : (ax, PySem.W.listOf its.toArray k) ∈ news)
    (hkeep : ∀ i c nw, Inv i c nw → (ax, PySem.W.listOf its.toArray k) ∈ nw) (hk₀ : ∀ p ∈ ps c₀, m₀ p.1 = some p.2) (h0 : Inv 0 c₀ news)
    (turn : ∀ i v c u nw h tk I oI, its[i]? = some v → Inv i c nw → Fr h₀ env.locals h (frB m₀ u stored (ps c)) → News h₀ env.locals h ((I, oI) :: nw) → (∀ p ∈ nw, p.1 ≠ I) →
      wpAny (model prog w) A (assign target env v) (fun _ s₃ => wpAny (model prog w) A (execs body env) (TurnPost h₀ env.locals I oI m₀ stored ps (Inv (i + 1)) { s with heap := h, toks := tk } Q) E s₃) E { s with heap := h, toks := tk })
    (done : ∀ c u nw h tk, Inv its.length c nw → Fr h₀ env.locals h (frB m₀ u stored (ps c)) → News h₀ env.locals h nw → Q .next { s with heap := h, toks := tk }) :
    wpAny (model prog w) A (pyIter (.ref ax)) (fun it s₂ => TurnsAt prog w A h₀ env target body Q E it s₂) E s := by
  have hax := N _ hm
  have hl : s.heap.IsList ax its.toArray := ⟨_, hax.1, rfl, k, rfl⟩
  have hlt : ax < s.heap.objs.size := Heap.lt_size hax.1
  have hne : ax ≠ s.heap.objs.size := Nat.ne_of_lt hlt
  refine wpAny_pyIter_list hl ?_
  refine turns_core (P := fun i v => its[i]? = some v) (n := its.length) [(ax, PySem.W.listOf its.toArray k)] stored ps Inv c₀ (St := fun i h => h.IsListIter s.heap.objs.size ax i ∧ h.IsList ax its.toArray) (by simpa using Walks.list (prog := prog) (w := w) hh s.heap.objs.size ax hne its.toArray) (fun i h st => by obtain ⟨o, e, _⟩ := st.1; exact ⟨o, e⟩) (fun i v s Q E st q => letGo_listiter st.1 q) (fun b hb => ?_) (fun i c nw hi p hp => ?_) (next_is_new F) ?_
    ⟨⟨_, Heap.get?_push_size _ rfl, rfl, rfl⟩, hl.at fun o e => Heap.get?_push_of_some _ e⟩ (F.push _) (fun p hp => ⟨Heap.get?_push_of_some _ (N p hp).1, (N p hp).2⟩) (fun p hp => Nat.ne_of_lt (Heap.lt_size (N p hp).1)) hk₀ h0 (fun i v c u nw h tk oI _ hv hJ F' N' hn => turn i v c u nw h tk _ oI hv hJ F' N' hn) done
  · have hb' : b = s.heap.objs.size ∨ b = ax := by simpa using hb
    rcases hb' with e | e
    · exact .inl e
    · exact .inr ⟨_, by rw [e]; exact List.mem_cons_self⟩
  · rw [List.mem_singleton.mp hp]; exact hkeep i c nw hi
  · intro hI
    rcases List.mem_cons.mp hI with e | hI
    · exact absurd F.ns.lt (e ▸ Nat.lt_irrefl _)
    · exact hax.2.1 (List.mem_singleton.mp hI).symm
theorem turns_range {σ : Type} {r : Addr} {a₀ b₀ : Int} {t₀ u₀ v₀ : Tok} {n : Nat} {m₀ : Str → Option Value} {news : List (Addr × Obj)} {x : Str} {px : Pos} (stored : List Str) (ps : σ → List (Str × Value)) (Inv : Nat → σ → List (Addr × Obj) → Prop) (c₀ : σ)
    (hh : A.handled = none) (hr : IsRange s.heap r a₀ b₀ 1 t₀ u₀ v₀) (hsmall : Builtin.Range.small a₀ b₀ 1 = true) (hsz : Builtin.Range.rangeSize a₀ b₀ 1 = (n : Int)) (F : Fr h₀ env.locals s.heap m₀) (N : News h₀ env.locals s.heap news)
    (hk₀ : ∀ p ∈ ps c₀, m₀ p.1 = some p.2) (h0 : Inv 0 c₀ news)
    (turn : ∀ i t c u nw h tk I oI, i < n → Inv i c nw → Fr h₀ env.locals h (frB m₀ u stored (ps c)) → News h₀ env.locals h ((I, oI) :: nw) → (∀ p ∈ nw, p.1 ≠ I) →
      wpAny (model prog w) A (assign (.Name x px) env (.int (a₀ + (i : Int)) t)) (fun _ s₃ => wpAny (model prog w) A (execs body env) (TurnPost h₀ env.locals I oI m₀ stored ps (Inv (i + 1)) { s with heap := h, toks := tk } Q) E s₃) E { s with heap := h, toks := tk })
    (done : ∀ c u nw h tk, Inv n c nw → Fr h₀ env.locals h (frB m₀ u stored (ps c)) → News h₀ env.locals h nw → Q .next { s with heap := h, toks := tk }) :
    wpAny (model prog w) A (pyIter (.ref r)) (fun it s₂ => TurnsAt prog w A h₀ env (.Name x px) body Q E it s₂) E s := by
  refine wpAny_pyIter_range hr hsmall ?_
  refine turns_core (P := fun i v => ∃ t, v = .int (a₀ + (i : Int)) t) (n := n) [] stored ps Inv c₀ (LCg.range_walks hh a₀ n) (fun i h st => ⟨_, st⟩) (fun i v s Q E st q => wpAny_pure q) (fun b hb => .inl (List.mem_singleton.mp hb)) (fun i c nw hi p hp => nomatch hp) (next_is_new F) ?_
    (by show IsRangeIter _ _ _ _ _; rw [hsz]; simpa using Heap.get?_push_size _ rfl) (F.push _) (fun p hp => ⟨Heap.get?_push_of_some _ (N p hp).1, (N p hp).2⟩) (fun p hp => Nat.ne_of_lt (Heap.lt_size (N p hp).1)) hk₀ h0 (fun i v c u nw h tk oI hi hv hJ F' N' hn => ?_) done
  · intro hI
    exact absurd F.ns.lt ((List.mem_singleton.mp hI) ▸ Nat.lt_irrefl _)
  · obtain ⟨t, rfl⟩ := hv
    exact turn i t c u nw h tk _ oI hi hJ F' N' hn
theorem turns_tup {σ : Type} {ax : Addr} {its : List Value} {k : Nat} {m₀ : Str → Option Value} {news : List (Addr × Obj)} (stored : List Str) (ps : σ → List (Str × Value)) (Inv : Nat → σ → List (Addr × Obj) → Prop) (c₀ : σ)
    (hh : A.handled = none) (F : Fr h₀ env.locals s.heap m₀) (N : News h₀ env.locals s.heap news) (hm : (ax, tup its k) ∈ news)
    (hkeep : ∀ i c nw, Inv i c nw → (ax, tup its k) ∈ nw) (hk₀ : ∀ p ∈ ps c₀, m₀ p.1 = some p.2) (h0 : Inv 0 c₀ news)
    (turn : ∀ i v c u nw h tk I oI, its[i]? = some v → Inv i c nw → Fr h₀ env.locals h (frB m₀ u stored (ps c)) → News h₀ env.locals h ((I, oI) :: nw) → (∀ p ∈ nw, p.1 ≠ I) →
      wpAny (model prog w) A (assign target env v) (fun _ s₃ => wpAny (model prog w) A (execs body env) (TurnPost h₀ env.locals I oI m₀ stored ps (Inv (i + 1)) { s with heap := h, toks := tk } Q) E s₃) E { s with heap := h, toks := tk })
    (done : ∀ c u nw h tk, Inv its.length c nw → Fr h₀ env.locals h (frB m₀ u stored (ps c)) → News h₀ env.locals h nw → Q .next { s with heap := h, toks := tk }) :
    wpAny (model prog w) A (pyIter (.ref ax)) (fun it s₂ => TurnsAt prog w A h₀ env target body Q E it s₂) E s := by
  have hax := N _ hm
  have hl : s.heap.IsTuple ax its.toArray := ⟨_, hax.1, rfl, k, rfl⟩
  have hlt : ax < s.heap.objs.size := Heap.lt_size hax.1
  have hne : ax ≠ s.heap.objs.size := Nat.ne_of_lt hlt
  refine wpAny_pyIter_tuple hl ?_
  refine turns_core (P := fun i v => its[i]? = some v) (n := its.length) [(ax, tup its k)] stored ps Inv c₀ (St := fun i h => h.IsTupleIter s.heap.objs.size ax i ∧ h.IsTuple ax its.toArray) (by simpa using Walks.tuple (prog := prog) (w := w) hh s.heap.objs.size ax hne its.toArray) (fun i h st => by obtain ⟨o, e, _⟩ := st.1; exact ⟨o, e⟩) (fun i v s Q E st q => letGo_tupleiter st.1 q) (fun b hb => ?_) (fun i c nw hi p hp => ?_) (next_is_new F) ?_
    ⟨⟨_, Heap.get?_push_size _ rfl, rfl, rfl⟩, hl.at fun o e => Heap.get?_push_of_some _ e⟩ (F.push _) (fun p hp => ⟨Heap.get?_push_of_some _ (N p hp).1, (N p hp).2⟩) (fun p hp => Nat.ne_of_lt (Heap.lt_size (N p hp).1)) hk₀ h0 (fun i v c u nw h tk oI _ hv hJ F' N' hn => turn i v c u nw h tk _ oI hv hJ F' N' hn) done
  · have hb' : b = s.heap.objs.size ∨ b = ax := by simpa using hb
    rcases hb' with e | e
    · exact .inl e
    · exact .inr ⟨_, by rw [e]; exact List.mem_cons_self⟩
  · rw [List.mem_singleton.mp hp]; exact hkeep i c nw hi
  · intro hI
    rcases List.mem_cons.mp hI with e | hI
    · exact absurd F.ns.lt (e ▸ Nat.lt_irrefl _)
    · exact hax.2.1 (List.mem_singleton.mp hI).symm
/-- the same, the ledger as it was -/
theorem turns_listS {σ : Type} {ax : Addr} {its : List Value} {k : Nat} {m₀ : Str → Option Value} {news : List (Addr × Obj)} (stored : List Str) (ps : σ → List (Str × Value)) (Inv : Nat → σ → Prop) (c₀ : σ)
    (hh : A.handled = none) (F : Fr h₀ env.locals s.heap m₀) (N : News h₀ env.locals s.heap news) (hm : (ax, PySem.W.listOf its.toArray k) ∈ news)
    (hk₀ : ∀ p ∈ ps c₀, m₀ p.1 = some p.2) (h0 : Inv 0 c₀)
    (turn : ∀ i v c u h tk I oI, its[i]? = some v → Inv i c → Fr h₀ env.locals h (frB m₀ u stored (ps c)) → News h₀ env.locals h ((I, oI) :: news) → (∀ p ∈ news, p.1 ≠ I) →
      wpAny (model prog w) A (assign target env v) (fun _ s₃ => wpAny (model prog w) A (execs body env) (TurnPost h₀ env.locals I oI m₀ stored ps (fun c nw => nw = news ∧ Inv (i + 1) c) { s with heap := h, toks := tk } Q) E s₃) E { s with heap := h, toks := tk })
    (done : ∀ c u h tk, Inv its.length c → Fr h₀ env.locals h (frB m₀ u stored (ps c)) → News h₀ env.locals h news → Q .next { s with heap := h, toks := tk }) :
    wpAny (model prog w) A (pyIter (.ref ax)) (fun it s₂ => TurnsAt prog w A h₀ env target body Q E it s₂) E s := by
  refine turns_list stored ps (fun i c nw => nw = news ∧ Inv i c) c₀ hh F N hm (fun i c nw h => h.1 ▸ hm) hk₀ ⟨rfl, h0⟩ ?_ ?_
  · rintro i v c u nw h tk I oI hv ⟨rfl, hi⟩ F' N' hn
    exact turn i v c u h tk I oI hv hi F' N' hn
  · rintro c u nw h tk ⟨rfl, hi⟩ F' N'
    exact done c u h tk hi F' N'
theorem turns_rangeS {σ : Type} {r : Addr} {a₀ b₀ : Int} {t₀ u₀ v₀ : Tok} {n : Nat} {m₀ : Str → Option Value} {news : List (Addr × Obj)} {x : Str} {px : Pos} (stored : List Str) (ps : σ → List (Str × Value)) (Inv : Nat → σ → Prop) (c₀ : σ)
    (hh : A.handled = none) (hr : IsRange s.heap r a₀ b₀ 1 t₀ u₀ v₀) (hsmall : Builtin.Range.small a₀ b₀ 1 = true) (hsz : Builtin.Range.rangeSize a₀ b₀ 1 = (n : Int)) (F : Fr h₀ env.locals s.heap m₀) (N : News h₀ env.locals s.heap news)
    (hk₀ : ∀ p ∈ ps c₀, m₀ p.1 = some p.2) (h0 : Inv 0 c₀)
    (turn : ∀ i t c u h tk I oI, i < n → Inv i c → Fr h₀ env.locals h (frB m₀ u stored (ps c)) → News h₀ env.locals h ((I, oI) :: news) → (∀ p ∈ news, p.1 ≠ I) →
      wpAny (model prog w) A (assign (.Name x px) env (.int (a₀ + (i : Int)) t)) (fun _ s₃ => wpAny (model prog w) A (execs body env) (TurnPost h₀ env.locals I oI m₀ stored ps (fun c nw => nw = news ∧ Inv (i + 1) c) { s with heap := h, toks := tk } Q) E s₃) E { s with heap := h, toks := tk })
    (done : ∀ c u h tk, Inv n c → Fr h₀ env.locals h (frB m₀ u stored (ps c)) → News h₀ env.locals h news → Q .next { s with heap := h, toks := tk }) :
    wpAny (model prog w) A (pyIter (.ref r)) (fun it s₂ => TurnsAt prog w A h₀ env (.Name x px) body Q E it s₂) E s := by
  refine turns_range stored ps (fun i c nw => nw = news ∧ Inv i c) c₀ hh hr hsmall hsz F N hk₀ ⟨rfl, h0⟩ ?_ ?_
  · rintro i t c u nw h tk I oI hv ⟨rfl, hi⟩ F' N' hn
    exact turn i t c u h tk I oI hv hi F' N' hn
  · rintro c u nw h tk ⟨rfl, hi⟩ F' N'
    exact done c u h tk hi F' N'
theorem turn_next {σ : Type} {L I : Addr} {oI : Obj} {m₀ m' : Str → Option Value} {stored : List Str} {ps : σ → List (Str × Value)} {Inv : σ → List (Addr × Obj) → Prop} {s₁ : Shared} {h' : Heap} {tk : Nat} {all : List (Addr × Obj)} (c : σ) (nw' : List (Addr × Obj))
    (F : Fr h₀ L h' m') (N : News h₀ L h' all) (sub : ∀ p ∈ (I, oI) :: nw', p ∈ all) (hne : ∀ p ∈ nw', p.1 ≠ I) (hk : ∀ p ∈ ps c, m' p.1 = some p.2) (hs : ∀ z, (∀ p ∈ ps c, z ≠ p.1) → stored.contains z = false → m' z = m₀ z) (hi : Inv c nw') :
    TurnPost h₀ L I oI m₀ stored ps Inv s₁ Q .next { s₁ with heap := h', toks := tk } := ⟨h', tk, m', nw', c, rfl, F, fun p hp => N p (sub p hp), hne, ⟨hk, hs⟩, hi⟩
end
/-- the keys: references to pairs of a column and a direction -/
noncomputable def KeyV (news : List (Addr × Obj)) (v : Value) (k : Int × Int) : Prop := ∃ a tc td n, v = .ref a ∧ (a, tup [.int k.1 tc, .int k.2 td] n) ∈ news ∧ 0 ≤ k.1 ∧ k.1 ≤ 5 ∧ -1 ≤ k.2 ∧ k.2 ≤ 1 ∧ (k.2 = 1 ∨ k.2 = -1)
theorem wtF_snoc {rk : List Int} {ks : List (Int × Int)} {i : Nat} {k : Int × Int} (h : ks[i]? = some k) : wtF rk (ks.take (i + 1)) = 6000 * wtF rk (ks.take i) + k.2 * rk.getD k.1.toNat 0 := by
  rw [List.take_add_one, h]; simp [wtF]
end
section
local macro_rules | `(tactic| walk_at "call ref") => `(tactic| (k_here; (with_reducible show wpAny _ _ (call (Value.ref 101) _) _ _ _); k_dflt (refine' useO (ranks_c ?p0 ?p1 ?p2 ?p3) ?_; (case p0 | p1 | p2 | p3 => walk_at "own:p")); walk_at "own:i"))
local macro_rules | `(tactic| walk_at "subscriptTail") => `(tactic| (k_here; (with_reducible show wpAny _ _ (subscriptTail _ _ (Value.ref _) (Value.int _ _)) _ _ _); k_dflt (refine' item_ints ?k1 ?k2 ?k3 ?k4 ?k5 ?k6 ?_; (case k1 => k_asm); (case k2 => k_mem); (case k3 => assumption); (case k4 => omega); (case k5 => (first | omega | (rw [ranks_len]; omega))); (case k6 => omega); k_whole); intro u'; (try dsimp only)))
local macro_rules | `(tactic| walk_at "exec For Tuple Name cons nil") => `(tactic| (k_here; (rename Fr _ _ _ _ => lF'); (with_unfolding_all refine' For_turns lF' ?_; k_whole)))
theorem weight_c {w : World} {mean : ExcName → Option Value} {mg mb : Str → Option Value} {c kl : Addr} {x y z : Int} {tx ty tz : Tok} {n nk : Nat} {news : List (Addr × Obj)} {kvs : List Value} {ks : List (Int × Int)}
    (hm : (c, tup [.int x tx, .int y ty, .int z tz] n) ∈ news) (bx : 0 ≤ x ∧ x ≤ 8) (bY : 0 ≤ y ∧ y ≤ 8) (bz : 0 ≤ z ∧ z ≤ 8)
    (hkl : (kl, PySem.W.listOf kvs.toArray nk) ∈ news) (hks : All2 (KeyV news) kvs ks) :
    CtrV w mean mg mb 108 [.ref c, .ref kl] 14 news (fun r => ∃ t, r = .int (wtF (ranksF x y z) ks) t) := by
  unfold CtrV
  k_fill
  intro dp un gd cn cs a ccd cl outer A₀ base h₀ L m s Q E B F X N T hk hd' hu hret
  refine wpAny_call ?_
  k_dflt ktr_enter
  k_steps
  refine turns_listS (σ := Int × Tok) [Str.ofString "column", Str.ofString "direction"] (fun c => [(Str.ofString "weight", .int c.1 c.2)]) (fun i c => c.1 = wtF (ranksF x y z) (ks.take i)) (0, _) rfl (by k_asm) (by k_asm) (List.mem_cons_of_mem _ hkl) (by kst_all) rfl ?_ ?_
  · intro i v c' u' h9 tk9 I9 oI9 hv hi F9 N9 hn
    obtain ⟨k, hk9, a9, tc9, td9, n9, rfl, hm9, b0, b5, b1, b2, b3⟩ := hks.get' i v hv
    k_steps
    refine turn_next (_, _) _ (by k_asm) (by k_asm) ?_ hn (by kst_all) ?_ ⟨rfl, ?_⟩
    · kcf_all
    · ((intro z9 h91 h92); (have h93 := h92); (try simp only [List.forall_mem_cons, List.not_mem_nil, false_implies, implies_true, and_true, ne_eq] at h91); (try simp only [List.contains_cons, List.contains_nil, Bool.or_false, Bool.or_eq_false_iff, beq_eq_false_iff_ne, ne_eq] at h93); (simp only [frB, kstB, h91, h92, h93, if_false, Bool.false_eq_true]))
    · show _ = _
      rw [wtF_snoc hk9, ← hi]
  · intro c' u' h9 tk9 hi F9 N9
    k_steps
    rw [hks.length, List.take_length] at hi
    exact hret _ _ _ (by k_asm) (cb_drop (by assumption) (by kcf_all)) ⟨_, by rw [hi]⟩
end
section
/-- a number of new objects -/
noncomputable abbrev CtrM (w : World) (mean : ExcName → Option Value) (mg mb : Str → Option Value) (f : Addr) (vs : List Value) (dep : Nat) (news : List (Addr × Obj)) (Out : List (Addr × Obj) → Value → Prop) : Prop :=
  ∀ (dp un : Nat) (gd : Option (List Code)) (cn : Str) (cs : Scope) (a : Addr) (ccd : Value) (cl : List (Str × Addr)) (outer : List Env) (A₀ : Around) (base h₀ : Heap) (L : Addr) (m : Str → Option Value) (s : Shared)
    (Q E : Value → Shared → Prop),
    Below A₀ base outer h₀ → Fr h₀ L s.heap m → (hd.heap_39 w.params).In h₀ → News h₀ L s.heap news → Top hd.view_39 (looseW hd.view_39 [Str.ofString "ONE_THIRD", Str.ofString "ONE_SIXTH", Str.ofString "TWO_THIRD"]) mean mg mb h₀ → cs.kind = .function → dp + dep < recursionLimit → un + 8 * dep < cLine →
    (∀ r tl h' tk', Fr h₀ L h' m → News h₀ L h' (tl ++ news) → Out tl r → Q r { s with heap := h', toks := tk' }) →
    wpAny (model PySem.Challenge.rw_mj0123_01.row.prog w) (ktrTop dp un gd cn cs L a ccd cl outer) (call (.ref f) vs) Q E s
noncomputable abbrev Col := Int × Int × Int
noncomputable def colF (n : Int) : Col := (n.fmod 9, (n.fdiv 9 + 5).fmod 9, (n.fdiv 81 + 2).fmod 9)
noncomputable def palF (ns : List Int) : List Col := [(8, 2, 4), (4, 1, 2), (1, 5, 3), (3, 1, 5), (4, 4, 4), (0, 0, 0)] ++ ns.map colF
noncomputable def ColV (news : List (Addr × Obj)) (v : Value) (c : Col) : Prop := ∃ a tx ty tz n, v = .ref a ∧ (a, tup [.int c.1 tx, .int c.2.1 ty, .int c.2.2 tz] n) ∈ news
noncomputable def keyF (p : Int) : Int × Int := (p.fdiv 2, 1 - 2 * p.fmod 2)
noncomputable def picksF (ns : List Int) : List Int := [(1188 + ns.sum).fmod 12, ((1188 + ns.sum).fdiv 12).fmod 12, ((1188 + ns.sum).fdiv 144).fmod 12]
noncomputable def keysF (ns : List Int) : List (Int × Int) := (picksF ns).map keyF
/-- what a comprehension over a list of the ledger's asks -/
noncomputable def LstSrc (prog : Program) (w : World) (A : Around) (h₀ : Heap) (L : Addr) (m : Str → Option Value) (env : Env) (elt : PySem.Expr) (x : Str) (scope : Scope) (cl : List (Str × Addr)) (Fin : Shared → List Value → List (Addr × Obj) → Prop) (xv : Value) (s₁ : Shared) : Prop :=
  ∃ (ax : Addr) (its : List Value) (k : Nat) (news : List (Addr × Obj)), xv = .ref ax ∧ A.handled = none ∧ Fr h₀ L s₁.heap m ∧ News h₀ L s₁.heap news ∧ (ax, PySem.W.listOf its.toArray k) ∈ news ∧ its.length ≤ sizeLine ∧
      ∀ g, LCg.CompRest prog w A h₀ L m env elt x scope cl { s₁ with heap := g } (LCg.SrcAt h₀ ax its.toArray) (fun i v => its[i]? = some v) (Fin { s₁ with heap := g }) its.length 0 [] news
section
variable {prog : Program} {w : World} {A : Around} {E : Value → Shared → Prop} {s : Shared} {h₀ : Heap} {L : Addr} {m : Str → Option Value} {env : Env}
theorem lst_src {elt : PySem.Expr} {x : Str} {scope : Scope} {cl : List (Str × Addr)} {Fin : Shared → List Value → List (Addr × Obj) → Prop} {xv : Value} {s₁ : Shared} (h : LstSrc prog w A h₀ L m env elt x scope cl Fin xv s₁) : LCg.CompSrc prog w A h₀ L m env elt x scope cl Fin xv s₁ := by
  obtain ⟨ax, its, k, news, rfl, hh, F, N, hm, hsz, R⟩ := h
  refine LCg.CompSrc.ledger (its := its.toArray) (k := k) hh F N hm (by simpa using hsz) fun g => ?_
  simpa using R g
theorem ListComp_lst {elt iter : PySem.Expr} {x : Str} {px : Pos} {scope : Scope} {cl : List (Str × Addr)} {pos : Pos} {Q : Value → Shared → Prop} (F₀ : Fr h₀ L s.heap m)
    (hclos : closureFor scope env = pure cl) (hcell : ∀ y ∈ scope.names, y.2 ≠ .cell) (hkind : scope.kind = .function)
    (hnames : ∀ y ∈ scope.names, y.2 = .local → scope.names.lookup y.1 = some .local) (hx : scope.names.lookup x = some .local)
    (h : wpAny (model prog w) A (eval iter env) (LstSrc prog w A h₀ L m env elt x scope cl (fun s₂ => LCg.FinE h₀ L m s₂ Q)) E s)
    (hs : ∀ x, foldedSetIterable iter env x = pure x := by intro _; rfl) :
    wpAny (model prog w) A (eval (.ListComp elt [⟨.Name x px, iter, [], 0⟩] scope pos) env) Q E s :=
  LCg.ListComp_U F₀ hclos hcell hkind hnames hx (wpAny_mono h (fun _ _ => lst_src) fun _ _ e => e) hs
theorem Assign_ListComp_lst {elt iter : PySem.Expr} {x y : Str} {px py : Pos} {scope : Scope} {cl : List (Str × Addr)} {pos spos : Pos} {Q : Flow → Shared → Prop} (F₀ : Fr h₀ L s.heap m) (hLe : env.locals = L)
    (hsw : swapsWith (.ListComp elt [⟨.Name x px, iter, [], 0⟩] scope pos) (some (.Name y py)) spos.line env = pure true)
    (hclos : closureFor scope env = pure cl) (hcell : ∀ z ∈ scope.names, z.2 ≠ .cell) (hkind : scope.kind = .function)
    (hnames : ∀ z ∈ scope.names, z.2 = .local → scope.names.lookup z.1 = some .local) (hx : scope.names.lookup x = some .local)
    (hy : env.kindOf y = some .local) (hp : (env.scope.kind == .class || (env.scope.kind == .module && env.locals != env.globals)) = false)
    (h : wpAny (model prog w) A (eval iter env) (LstSrc prog w A h₀ L m env elt x scope cl (fun s₂ => LCg.FinA h₀ L m s₂ y Q)) E s)
    (hs : ∀ x, foldedSetIterable iter env x = pure x := by intro _; rfl) :
    wpAny (model prog w) A (exec (.Assign [.Name y py] (.ListComp elt [⟨.Name x px, iter, [], 0⟩] scope pos) spos) env) Q E s :=
  LCg.Assign_ListComp_U F₀ hLe hsw hclos hcell hkind hnames hx hy hp (wpAny_mono h (fun _ _ => lst_src) fun _ _ e => e) hs
end
structure PalI (news : List (Addr × Obj)) (P : Addr) (ns : List Int) (c : List Value × Nat × List (Addr × Obj)) : Prop where
  off : ∀ p ∈ c.2.2 ++ news, p.1 ≠ P
  high : ∀ p ∈ c.2.2, ∀ q ∈ news, q.1 < p.1
  cols : All2 (ColV c.2.2) c.1 (palF ns)
theorem All2.append {β : Type} {R : Value → β → Prop} {vs ws : List Value} {bs ds : List β} (h : All2 R vs bs) (k : All2 R ws ds) : All2 R (vs ++ ws) (bs ++ ds) := by
  induction h with
  | nil => exact k
  | cons r _ ih => exact .cons r ih
theorem All2.mapR {α β : Type} {R : Value → α → Prop} {R' : Value → β → Prop} {f : α → β} {vs : List Value} {as : List α} (h : All2 R vs as) (hs : ∀ v a, R v a → R' v (f a)) : All2 R' vs (as.map f) := by
  induction h with
  | nil => exact .nil
  | cons r _ ih => exact .cons (hs _ _ r) ih
theorem ColV.mono {nw nw' : List (Addr × Obj)} {v : Value} {c : Col} (h : ColV nw v c) (hs : ∀ p ∈ nw, p ∈ nw') : ColV nw' v c := by
  obtain ⟨a, tx, ty, tz, n, e, hm⟩ := h
  exact ⟨a, tx, ty, tz, n, e, hs _ hm⟩
theorem KeyV.mono {nw nw' : List (Addr × Obj)} {v : Value} {c : Int × Int} (h : KeyV nw v c) (hs : ∀ p ∈ nw, p ∈ nw') : KeyV nw' v c := by
  obtain ⟨a, tx, ty, n, e, hm, r⟩ := h
  exact ⟨a, tx, ty, n, e, hs _ hm, r⟩
/-- the six fixed colours -/
theorem palI_start {news : List (Addr × Obj)} {P a1 a2 a3 a4 a5 a6 : Addr} {t1 t2 t3 t4 t5 t6 t7 t8 t9 u1 u2 u3 u4 u5 u6 u7 u8 u9 : Tok} {k : Nat}
    (l1 : ∀ p ∈ news, p.1 < a1) (l2 : a1 < a2 ∧ AllLt a2 news) (l3 : a2 < a3 ∧ a1 < a3 ∧ AllLt a3 news) (l4 : a3 < a4 ∧ a2 < a4 ∧ a1 < a4 ∧ AllLt a4 news) (l5 : a4 < a5 ∧ a3 < a5 ∧ a2 < a5 ∧ a1 < a5 ∧ AllLt a5 news)
    (l6 : a5 < a6 ∧ a4 < a6 ∧ a3 < a6 ∧ a2 < a6 ∧ a1 < a6 ∧ AllLt a6 news) (l7 : a6 < P ∧ a5 < P ∧ a4 < P ∧ a3 < P ∧ a2 < P ∧ a1 < P ∧ AllLt P news) :
    PalI news P [] ([.ref a1, .ref a2, .ref a3, .ref a4, .ref a5, .ref a6], k, [(a6, tup [.int 0 u7, .int 0 u8, .int 0 u9] 0), (a5, tup [.int 4 u4, .int 4 u5, .int 4 u6] 0), (a4, tup [.int 3 u1, .int 1 u2, .int 5 u3] 0), (a3, tup [.int 1 t7, .int 5 t8, .int 3 t9] 0), (a2, tup [.int 4 t4, .int 1 t5, .int 2 t6] 0), (a1, tup [.int 8 t1, .int 2 t2, .int 4 t3] 0)]) where
  off := by
    intro p hp e
    simp only [List.mem_append, List.mem_cons, List.not_mem_nil, or_false] at hp
    rcases hp with (rfl | rfl | rfl | rfl | rfl | rfl) | hp
    · exact absurd l7.1 (e ▸ Nat.lt_irrefl _)
    · exact absurd l7.2.1 (e ▸ Nat.lt_irrefl _)
    · exact absurd l7.2.2.1 (e ▸ Nat.lt_irrefl _)
    · exact absurd l7.2.2.2.1 (e ▸ Nat.lt_irrefl _)
    · exact absurd l7.2.2.2.2.1 (e ▸ Nat.lt_irrefl _)
    · exact absurd l7.2.2.2.2.2.1 (e ▸ Nat.lt_irrefl _)
    · exact absurd (allLt_mem l7.2.2.2.2.2.2 p hp) (e ▸ Nat.lt_irrefl _)
  high := by
    intro p hp q hq
    simp only [List.mem_cons, List.not_mem_nil, or_false] at hp
    rcases hp with rfl | rfl | rfl | rfl | rfl | rfl
    · exact allLt_mem l6.2.2.2.2.2 q hq
    · exact allLt_mem l5.2.2.2.2 q hq
    · exact allLt_mem l4.2.2.2 q hq
    · exact allLt_mem l3.2.2 q hq
    · exact allLt_mem l2.2 q hq
    · exact l1 q hq
  cols := .cons ⟨a1, t1, t2, t3, 0, rfl, by simp⟩ (.cons ⟨a2, t4, t5, t6, 0, rfl, by simp⟩ (.cons ⟨a3, t7, t8, t9, 0, rfl, by simp⟩ (.cons ⟨a4, u1, u2, u3, 0, rfl, by simp⟩ (.cons ⟨a5, u4, u5, u6, 0, rfl, by simp⟩ (.cons ⟨a6, u7, u8, u9, 0, rfl, by simp⟩ .nil)))))
section
variable {prog : Program} {w : World} {A : Around} {E : Value → Shared → Prop} {s : Shared} {env : Env} {h₀ : Heap} {target : PySem.Expr} {body : List Stmt} {Q : Flow → Shared → Prop}
theorem pal_loop {news : List (Addr × Obj)} {nl P a1 a2 a3 a4 a5 a6 : Addr} {t1 t2 t3 t4 t5 t6 t7 t8 t9 u1 u2 u3 u4 u5 u6 u7 u8 u9 : Tok} {k nn : Nat} {m₀ : Str → Option Value} {vs : List Value} {ns : List Int}
    (hh : A.handled = none) (F : Fr h₀ env.locals s.heap m₀)
    (N : News h₀ env.locals s.heap ((P, PySem.W.listOf #[.ref a1, .ref a2, .ref a3, .ref a4, .ref a5, .ref a6] k) :: (a6, tup [.int 0 u7, .int 0 u8, .int 0 u9] 0) :: (a5, tup [.int 4 u4, .int 4 u5, .int 4 u6] 0) :: (a4, tup [.int 3 u1, .int 1 u2, .int 5 u3] 0) :: (a3, tup [.int 1 t7, .int 5 t8, .int 3 t9] 0) :: (a2, tup [.int 4 t4, .int 1 t5, .int 2 t6] 0) :: (a1, tup [.int 8 t1, .int 2 t2, .int 4 t3] 0) :: news))
    (hnl : (nl, PySem.W.listOf vs.toArray nn) ∈ news) (hI : IntsAre vs ns)
    (l1 : ∀ p ∈ news, p.1 < a1) (l2 : a1 < a2 ∧ AllLt a2 news) (l3 : a2 < a3 ∧ a1 < a3 ∧ AllLt a3 news) (l4 : a3 < a4 ∧ a2 < a4 ∧ a1 < a4 ∧ AllLt a4 news) (l5 : a4 < a5 ∧ a3 < a5 ∧ a2 < a5 ∧ a1 < a5 ∧ AllLt a5 news)
    (l6 : a5 < a6 ∧ a4 < a6 ∧ a3 < a6 ∧ a2 < a6 ∧ a1 < a6 ∧ AllLt a6 news) (l7 : a6 < P ∧ a5 < P ∧ a4 < P ∧ a3 < P ∧ a2 < P ∧ a1 < P ∧ AllLt P news)
    (turn : ∀ i n t (pvs : List Value) kk tl u h tk I oI, ns[i]? = some n → pvs.length = 6 + i → PalI news P (ns.take i) (pvs, kk, tl) → (∀ p ∈ tl ++ news, p.1 ≠ P) → Fr h₀ env.locals h (frB m₀ u [Str.ofString "number"] []) → News h₀ env.locals h ((I, oI) :: (P, PySem.W.listOf pvs.toArray kk) :: (tl ++ news)) → (P ≠ I) → (∀ p ∈ tl ++ news, p.1 ≠ I) →
      wpAny (model prog w) A (assign target env (.int n t)) (fun _ s₃ => wpAny (model prog w) A (execs body env) (TurnPost (σ := List Value × Nat × List (Addr × Obj)) h₀ env.locals I oI m₀ [Str.ofString "number"] (fun _ => []) (fun c nw => nw = (P, PySem.W.listOf c.1.toArray c.2.1) :: (c.2.2 ++ news) ∧ PalI news P (ns.take (i + 1)) c) { s with heap := h, toks := tk } Q) E s₃) E { s with heap := h, toks := tk })
    (done : ∀ (pvs : List Value) kk tl u h tk, PalI news P ns (pvs, kk, tl) → Fr h₀ env.locals h (frB m₀ u [Str.ofString "number"] []) → News h₀ env.locals h ((P, PySem.W.listOf pvs.toArray kk) :: (tl ++ news)) → Q .next { s with heap := h, toks := tk }) :
    wpAny (model prog w) A (pyIter (.ref nl)) (fun it s₂ => TurnsAt prog w A h₀ env target body Q E it s₂) E s := by
  have st := palI_start (news := news) (k := k) (t1 := t1) (t2 := t2) (t3 := t3) (t4 := t4) (t5 := t5) (t6 := t6) (t7 := t7) (t8 := t8) (t9 := t9) (u1 := u1) (u2 := u2) (u3 := u3) (u4 := u4) (u5 := u5) (u6 := u6) (u7 := u7) (u8 := u8) (u9 := u9) l1 l2 l3 l4 l5 l6 l7
  refine turns_list (σ := List Value × Nat × List (Addr × Obj)) [Str.ofString "number"] (fun _ => []) (fun i c nw => nw = (P, PySem.W.listOf c.1.toArray c.2.1) :: (c.2.2 ++ news) ∧ PalI news P (ns.take i) c) _ hh F N (List.mem_cons_of_mem _ (List.mem_cons_of_mem _ (List.mem_cons_of_mem _ (List.mem_cons_of_mem _ (List.mem_cons_of_mem _ (List.mem_cons_of_mem _ (List.mem_cons_of_mem _ hnl))))))) ?_ (fun _ h => nomatch h) ⟨rfl, st⟩ ?_ ?_
  · rintro i c nw ⟨rfl, _⟩
    exact List.mem_cons_of_mem _ (List.mem_append_right _ hnl)
  · rintro i v ⟨pvs, kk, tl⟩ u nw h tk I oI hv ⟨rfl, hi⟩ F' N' hn
    have hlt : i < vs.length := by
      rcases Nat.lt_or_ge i vs.length with h | h
      · exact h
      · rw [List.getElem?_eq_none h] at hv; cases hv
    have hl2 := hI.length
    obtain ⟨t, e⟩ := hI.get i _ (List.getElem?_eq_getElem (by omega))
    rw [hv] at e
    cases e
    refine turn i _ t pvs kk tl u h tk I oI (List.getElem?_eq_getElem (by omega)) ?_ hi hi.off F' N' (hn _ List.mem_cons_self) (fun p hp => hn p (List.mem_cons_of_mem _ hp))
    have := hi.cols.length
    simp only [palF, List.length_append, List.length_cons, List.length_nil, List.length_map, List.length_take] at this
    omega
  · rintro ⟨pvs, kk, tl⟩ u nw h tk ⟨rfl, hi⟩ F' N'
    rw [hI.length, List.take_length] at hi
    exact done pvs kk tl u h tk hi F' N'
end
theorem palF_snoc {ns : List Int} {i : Nat} {n : Int} (h : ns[i]? = some n) : palF (ns.take (i + 1)) = palF (ns.take i) ++ [colF n] := by
  rw [List.take_add_one, h]; simp [palF]
/-- one colour more -/
theorem palI_step {news : List (Addr × Obj)} {P D : Addr} {ns : List Int} {i : Nat} {n : Int} {pvs : List Value} {kk k2 : Nat} {tl : List (Addr × Obj)} {t1 t2 t3 : Tok} (h : PalI news P (ns.take i) (pvs, kk, tl)) (hn : ns[i]? = some n) (hD : ∀ p ∈ tl ++ news, p.1 < D) (hP : P < D) :
    PalI news P (ns.take (i + 1)) (pvs ++ [.ref D], k2, (D, tup [.int (n.fmod 9) t1, .int ((n.fdiv 9 + 5).fmod 9) t2, .int ((n.fdiv 81 + 2).fmod 9) t3] 0) :: tl) where
  off := by
    intro p hp
    rcases List.mem_cons.mp hp with rfl | hp
    · exact Ne.symm (Nat.ne_of_lt hP)
    · exact h.off p hp
  high := by
    intro p hp q hq
    rcases List.mem_cons.mp hp with rfl | hp
    · exact hD q (List.mem_append_right _ hq)
    · exact h.high p hp q hq
  cols := by
    rw [palF_snoc hn]
    exact (h.cols.mono fun v b r => r.mono fun p hp => List.mem_cons_of_mem _ hp).snoc ⟨D, t1, t2, t3, 0, rfl, List.mem_cons_self⟩
section
variable {prog : Program} {w : World} {A : Around} {E : Value → Shared → Prop} {s : Shared} {h₀ : Heap} {L : Addr} {m : Str → Option Value} {env : Env}
theorem pal_end {Q : Flow → Shared → Prop} {news : List (Addr × Obj)} {P D I : Addr} {oI : Obj} {ns : List Int} {i : Nat} {n : Int} {pvs : List Value} {kk k2 : Nat} {tl : List (Addr × Obj)} {t1 t2 t3 : Tok} {m₀ m' : Str → Option Value} {h' : Heap} {tk : Nat} {s₁ : Shared}
    (F : Fr h₀ L h' m') (N : News h₀ L h' ((D, tup [.int (n.fmod 9) t1, .int ((n.fdiv 9 + 5).fmod 9) t2, .int ((n.fdiv 81 + 2).fmod 9) t3] 0) :: (I, oI) :: (P, PySem.W.listOf (pvs ++ [Value.ref D]).toArray k2) :: (tl ++ news)))
    (h : PalI news P (ns.take i) (pvs, kk, tl)) (hn : ns[i]? = some n) (l : I < D ∧ P < D ∧ AllLt D (tl ++ news)) (hPI : P ≠ I) (hI : ∀ p ∈ tl ++ news, p.1 ≠ I)
    (hs : ∀ z, (∀ p ∈ ([] : List (Str × Value)), z ≠ p.1) → [Str.ofString "number"].contains z = false → m' z = m₀ z) :
    TurnPost (σ := List Value × Nat × List (Addr × Obj)) h₀ L I oI m₀ [Str.ofString "number"] (fun _ => []) (fun c nw => nw = (P, PySem.W.listOf c.1.toArray c.2.1) :: (c.2.2 ++ news) ∧ PalI news P (ns.take (i + 1)) c) s₁ Q .next { s₁ with heap := h', toks := tk } := by
  refine turn_next (_, _, _) _ F N ?sub ?hne (fun _ h => nomatch h) hs ⟨rfl, palI_step (k2 := k2) (t1 := t1) (t2 := t2) (t3 := t3) h hn (allLt_mem l.2.2) l.2.1⟩
  case sub =>
    intro p hp
    simp only [List.mem_cons, List.cons_append] at hp ⊢
    rcases hp with h | h | h | h <;> simp [h]
  case hne =>
    intro p hp
    simp only [List.mem_cons, List.cons_append] at hp
    rcases hp with rfl | rfl | h
    · exact hPI
    · exact Ne.symm (Nat.ne_of_lt l.1)
    · exact hI p h
/-- the turns of a comprehension whose element is a new object -/
theorem rest_new {β : Type} {elt : PySem.Expr} {x : Str} {scope : Scope} {cl : List (Str × Addr)} {S : List (Addr × Obj) → Prop} {P : Nat → Value → Prop} {Fin : List Value → List (Addr × Obj) → Prop} {news : List (Addr × Obj)} {n : Nat} {bs : List β}
    (R : List (Addr × Obj) → Value → β → Prop) (hmono : ∀ nw nw' v b, R nw v b → (∀ p ∈ nw, p ∈ nw') → R nw' v b) (hn : bs.length = n)
    (turn : ∀ i v b ys tl I oI C oC D m₂ h tk (E' : Value → Shared → Prop), bs[i]? = some b → P i v → (∀ p ∈ tl, ∀ q ∈ news, q.1 < p.1) → LCg.NsObj oC m₂ → m₂ x = some v → Fr h₀ L h m → News h₀ L h ((I, oI) :: (C, oC) :: (D, LCg.lst ys) :: (tl ++ news)) → LCg.Off3 I C D (tl ++ news) → ((@Ne Nat I C) ∧ (@Ne Nat I D) ∧ (@Ne Nat C D)) →
      wpAny (model prog w) A (eval elt (compEnvC scope cl C env)) (LCg.CompEnd h₀ L m { s with heap := h, toks := tk } I oI C oC D (LCg.lst ys) S (fun y nw' => ∃ a o, nw' = (a, o) :: (tl ++ news) ∧ (∀ q ∈ tl ++ news, q.1 < a) ∧ R [(a, o)] y b)) E' { s with heap := h, toks := tk })
    (fin : ∀ ys tl, (∀ p ∈ tl, ∀ q ∈ news, q.1 < p.1) → All2 (R tl) ys bs → Fin ys (tl ++ news)) : LCg.CompRest prog w A h₀ L m env elt x scope cl s S P Fin n 0 [] news := by
  refine rest_inv (fun i ys nw => ∃ tl, nw = tl ++ news ∧ (∀ p ∈ tl, ∀ q ∈ news, q.1 < p.1) ∧ All2 (R tl) ys (bs.take i)) ⟨[], rfl, (fun _ h => nomatch h), by rw [List.take_zero]; exact All2.nil⟩ ?_ ?_
  · rintro i v ys nw I oI C oC D m₂ h tk E' hi hv ⟨tl, rfl, hq, hy⟩ hC hx F N off ne
    have hb : bs[i]? = some (bs[i]'(by omega)) := List.getElem?_eq_getElem _
    refine wpAny_mono (turn i v _ ys tl I oI C oC D m₂ h tk E' hb hv hq hC hx F N off ne) (fun y s₂ hz => ?_) fun _ _ e => e
    obtain ⟨h', tk', nw', e, F', N', off', hS, a, o, rfl, hlt, hr⟩ := hz
    refine ⟨h', tk', _, e, F', N', off', hS, (a, o) :: tl, rfl, ?_, ?_⟩
    · intro p hp q hq'
      rcases List.mem_cons.mp hp with rfl | hp
      · exact hlt q (List.mem_append_right _ hq')
      · exact hq p hp q hq'
    · rw [List.take_add_one, hb]
      exact (hy.mono fun v b r => hmono _ _ _ _ r fun p hp => List.mem_cons_of_mem _ hp).snoc (hmono _ _ _ _ hr fun p hp => by rw [List.mem_singleton.mp hp]; exact List.mem_cons_self)
  · rintro ys nw ⟨tl, rfl, hq, hy⟩
    rw [← hn, List.take_length] at hy
    exact fin ys tl hq hy
/-- a turn's end: the new object -/
theorem new_end {S : List (Addr × Obj) → Prop} {news : List (Addr × Obj)} {I C D a : Addr} {oI oC oD o : Obj} {y : Value} {h' : Heap} {tk : Nat} {s₁ : Shared}
    (F : Fr h₀ L h' m) (N : News h₀ L h' ((a, o) :: (I, oI) :: (C, oC) :: (D, oD) :: news)) (off : LCg.Off3 I C D news) (l : I < a ∧ C < a ∧ D < a ∧ AllLt a news) (hS : S ((a, o) :: news)) {rest : Value → List (Addr × Obj) → Prop} (r : rest y ((a, o) :: news)) :
    LCg.CompEnd h₀ L m s₁ I oI C oC D oD S rest y { s₁ with heap := h', toks := tk } := by
  refine LCg.CompEnd.intro F N ((a, o) :: news) ?_ ⟨⟨Ne.symm (Nat.ne_of_lt l.1), Ne.symm (Nat.ne_of_lt l.2.1), Ne.symm (Nat.ne_of_lt l.2.2.1)⟩, off⟩ hS r
  intro p hp
  simp only [List.mem_cons] at hp ⊢
  rcases hp with h | h | h | h | h <;> simp [h]
end
theorem three_int {x y z b : Int} {tx ty tz : Tok} {v : Value} {i : Nat} (hb : [x, y, z][i]? = some b) (hv : [Value.int x tx, .int y ty, .int z tz][i]? = some v) : ∃ t, v = .int b t := by
  match i with
  | 0 => simp at hb hv; subst hb hv; exact ⟨_, rfl⟩
  | 1 => simp at hb hv; subst hb hv; exact ⟨_, rfl⟩
  | 2 => simp at hb hv; subst hb hv; exact ⟨_, rfl⟩
  | n + 3 => simp at hb
theorem pick_bnd {ns : List Int} {i : Nat} {p : Int} (h : (picksF ns)[i]? = some p) : 0 ≤ p ∧ p ≤ 11 := by
  have hm := List.mem_of_getElem? h
  simp only [picksF, List.mem_cons, List.not_mem_nil, or_false] at hm
  have := fun (a : Int) => Int.fmod_eq_emod_of_nonneg a (b := 12) (by decide)
  rcases hm with rfl | rfl | rfl <;> rw [this] <;> omega
theorem keyV_of {p : Int} {a : Addr} {t1 t2 : Tok} {nw : List (Addr × Obj)} (b : 0 ≤ p ∧ p ≤ 11) (hm : (a, tup [.int (p.fdiv 2) t1, .int (1 - 2 * p.fmod 2) t2] 0) ∈ nw) : KeyV nw (.ref a) (keyF p) := by
  have e1 : p.fdiv 2 = p / 2 := Int.fdiv_eq_ediv_of_nonneg p (by decide)
  have e2 : p.fmod 2 = p % 2 := Int.fmod_eq_emod_of_nonneg p (by decide)
  refine ⟨a, t1, t2, 0, rfl, hm, ?_, ?_, ?_, ?_, ?_⟩ <;> simp only [keyF] <;> omega
end
section
theorem useM {w : World} {mean : ExcName → Option Value} {mg mb : Str → Option Value} {f : Addr} {vs : List Value} {dep : Nat} {news : List (Addr × Obj)} {Out : List (Addr × Obj) → Value → Prop} (c : CtrM w mean mg mb f vs dep news Out)
    {dp un : Nat} {gd : Option (List Code)} {cn : Str} {cs : Scope} {a : Addr} {ccd : Value} {cl : List (Str × Addr)} {outer : List Env} {A₀ : Around} {base h₀ : Heap} {L : Addr} {m : Str → Option Value} {s : Shared}
    {Q E : Value → Shared → Prop}
    (k9 : ∀ r tl h' tk', Fr h₀ L h' m → News h₀ L h' (tl ++ news) → Out tl r → Q r { s with heap := h', toks := tk' })
    (k1 : Below A₀ base outer h₀ := by k_asm)
    (k2 : Fr h₀ L s.heap m := by k_asm)
    (k3 : (hd.heap_39 w.params).In h₀ := by k_asm)
    (k4 : News h₀ L s.heap news := by k_asm)
    (k5 : Top hd.view_39 (looseW hd.view_39 [Str.ofString "ONE_THIRD", Str.ofString "ONE_SIXTH", Str.ofString "TWO_THIRD"]) mean mg mb h₀ := by k_asm)
    (k6 : cs.kind = .function := by first | exact rfl | assumption)
    (k7 : dp + dep < recursionLimit := by ktr_room)
    (k8 : un + 8 * dep < cLine := by ktr_units)
    :
    wpAny (model PySem.Challenge.rw_mj0123_01.row.prog w) (ktrTop dp un gd cn cs L a ccd cl outer) (call (.ref f) vs) Q E s :=
  c dp un gd cn cs a ccd cl outer A₀ base h₀ L m s Q E k1 k2 k3 k4 k5 k6 k7 k8 k9
end
section
local macro_rules | `(tactic| walk_at "exec For Name Name cons nil") => `(tactic| (k_here; (rename Fr _ _ _ _ => lF'); (with_unfolding_all refine' For_turns lF' ?_; k_whole)))
theorem pal_c {w : World} {mean : ExcName → Option Value} {mg mb : Str → Option Value} {nl : Addr} {nn : Nat} {news : List (Addr × Obj)} {vs : List Value} {ns : List Int}
    (hnl : (nl, PySem.W.listOf vs.toArray nn) ∈ news) (hI : IntsAre vs ns) (hlen : ns.length ≤ 6) :
    CtrM w mean mg mb 84 [.ref nl] 12 news (fun tl r => ∃ P pvs k, r = .ref P ∧ (P, PySem.W.listOf pvs.toArray k) ∈ tl ∧ All2 (ColV tl) pvs (palF ns)) := by
  unfold CtrM
  k_fill
  intro dp un gd cn cs a ccd cl outer A₀ base h₀ L m s Q E B F X N T hk hd' hu hret
  refine wpAny_call ?_
  k_dflt ktr_enter
  k_steps
  refine pal_loop rfl (by k_asm) (by assumption) hnl hI ?l1 ?l2 ?l3 ?l4 ?l5 ?l6 ?l7 ?tu ?dn
  case l1 => assumption
  case l2 => assumption
  case l3 => assumption
  case l4 => assumption
  case l5 => assumption
  case l6 => assumption
  case l7 => assumption
  case tu =>
    intro i n9 t9 pvs kk tl u' h9 tk9 I9 oI9 hn9 hl9 hP9 off9 F9 N9 hPI hn
    k_steps
    (rename _ ∧ _ ∧ AllLt _ (tl ++ news) => l9)
    refine append_K (by k_asm) (by k_asm) (.tail (Ne.symm (Nat.ne_of_lt l9.2.1)) (.tail (Ne.symm hPI) (.head off9))) ?_ ?z
    case z =>
      have : i < ns.length := by
        rcases Nat.lt_or_ge i ns.length with h | h
        · exact h
        · rw [List.getElem?_eq_none h] at hn9; cases hn9
      rw [sizeLine_eq, List.size_toArray]; omega
    intro h8 F8 N8
    simp only [List.push_toArray] at N8
    k_steps
    exact pal_end (by k_asm) (by k_asm) hP9 hn9 l9 hPI hn (by ((intro z9 h91 h92); (have h93 := h92); (try simp only [List.forall_mem_cons, List.not_mem_nil, false_implies, implies_true, and_true, ne_eq] at h91); (try simp only [List.contains_cons, List.contains_nil, Bool.or_false, Bool.or_eq_false_iff, beq_eq_false_iff_ne, ne_eq] at h93); (simp only [frB, kstB, h91, h92, h93, if_false, Bool.false_eq_true])))
  case dn =>
    intro pvs kk tl u' h9 tk9 hP9 F9 N9
    k_steps
    exact hret _ (_ :: tl) _ _ (by k_asm) (by k_asm) ⟨_, pvs, kk, rfl, List.mem_cons_self, hP9.cols.mono fun v b r => r.mono fun p hp => List.mem_cons_of_mem _ hp⟩
end
section
local macro_rules | `(tactic| walk_at "call builtin:sum") => `(tactic| (k_here; (with_reducible show wpAny _ _ (call (Value.builtin "sum") [Value.ref _]) _ _ _); (with_unfolding_all refine' sumK ?k0 ?k1 ?k2 ?k3 ?k4 ?_; (case k0 => with_unfolding_all rfl); (case k1 | k2 => k_asm); (case k3 => exact News.isList (by k_asm) (by k_mem)); (case k4 => assumption); k_whole); intro h' tk' t' F' N'))
local macro_rules | `(tactic| walk_at "eval ListComp") => `(tactic| (k_here; k_dflt (refine ListComp_lst (by k_asm) (by rfl) (by decide) (by rfl) (by decide) (by rfl) ?_)))
theorem keys_c {w : World} {mean : ExcName → Option Value} {mg mb : Str → Option Value} {nl : Addr} {nn : Nat} {news : List (Addr × Obj)} {vs : List Value} {ns : List Int}
    (hnl : (nl, PySem.W.listOf vs.toArray nn) ∈ news) (hI : IntsAre vs ns) (hlen : ns.length ≤ 6) :
    CtrM w mean mg mb 89 [.ref nl] 12 news (fun tl r => ∃ K kvs k, r = .ref K ∧ (K, PySem.W.listOf kvs.toArray k) ∈ tl ∧ All2 (KeyV tl) kvs (keysF ns)) := by
  unfold CtrM
  k_fill
  intro dp un gd cn cs a ccd cl outer A₀ base h₀ L m s Q E B F X N T hk hd' hu hret
  refine wpAny_call ?_
  k_dflt ktr_enter
  k_steps
  refine ⟨_, [_, _, _], _, _, rfl, rfl, by k_asm, by k_asm, List.mem_cons_self, by (show 3 ≤ sizeLine; rw [sizeLine_eq]; omega), fun g => ?_⟩
  refine rest_new (bs := picksF ns) (fun nw v p => KeyV nw v (keyF p)) (fun nw nw' v b h hs => h.mono hs) rfl ?_ ?_
  · intro i v p ys tl I oI C oC D m₂ h tk E' hb hv hq hC hx F9 N9 off ne
    obtain ⟨t, rfl⟩ := three_int hb hv
    have pb := pick_bnd hb
    k_steps
    exact new_end (by k_asm) (by k_asm) off (by assumption) (.inr ⟨_, List.mem_cons_of_mem _ (List.mem_append_right _ List.mem_cons_self), rfl, _, rfl⟩) ⟨_, _, rfl, al3 (by assumption), keyV_of pb List.mem_cons_self⟩
  · intro ys tl hq hy
    k_steps
    refine hret _ (_ :: tl) _ _ (by k_asm) (cb_drop (by assumption) ?_) ⟨_, ys, ys.length, rfl, List.mem_cons_self, All2.mapR hy fun v p h => h.mono fun q hq => List.mem_cons_of_mem _ hq⟩
    intro p hp
    simp only [List.mem_cons, List.cons_append, List.mem_append] at hp ⊢
    rcases hp with h | h | h <;> simp [h]
end
section
noncomputable def InB (c : Col) : Prop := (0 ≤ c.1 ∧ c.1 ≤ 8) ∧ (0 ≤ c.2.1 ∧ c.2.1 ≤ 8) ∧ (0 ≤ c.2.2 ∧ c.2.2 ≤ 8)
noncomputable def rowF (c : Col) : List UInt64 :=
  let p := hsvF (e8 c.1) (e8 c.2.1) (e8 c.2.2)
  let q := hlsF (e8 c.1) (e8 c.2.1) (e8 c.2.2)
  [p.1, p.2.1, p.2.2, q.1, q.2.1, q.2.2]
noncomputable def RowV (nw : List (Addr × Obj)) (v : Value) (c : Col) : Prop := ∃ a vs n, v = .ref a ∧ (a, tup vs n) ∈ nw ∧ All2 FlV vs (rowF c)
theorem RowV.mono {nw nw' : List (Addr × Obj)} {v : Value} {c : Col} (h : RowV nw v c) (hs : ∀ p ∈ nw, p ∈ nw') : RowV nw' v c := by
  obtain ⟨a, vs, n, e, hm, r⟩ := h
  exact ⟨a, vs, n, e, hs _ hm, r⟩
noncomputable def fgt (a b : UInt64) : Bool := Float64.cmp a b == some .gt
noncomputable def cmpF (l r : List UInt64) : List (Int × Int) → Int
  | [] => 0
  | k :: ks => bif flt (l.getD k.1.toNat 0) (r.getD k.1.toNat 0) then -k.2 else bif fgt (l.getD k.1.toNat 0) (r.getD k.1.toNat 0) then k.2 else cmpF l r ks
noncomputable abbrev rk (c : Col) : List Int := ranksF c.1 c.2.1 c.2.2
noncomputable abbrev IntV (v : Value) (n : Int) : Prop := ∃ t, v = .int n t
theorem drop_of {ks : List (Int × Int)} {i : Nat} {k : Int × Int} (h : ks[i]? = some k) : ks.drop i = k :: ks.drop (i + 1) := by
  obtain ⟨hi, e⟩ := List.getElem?_eq_some_iff.mp h
  rw [List.drop_eq_getElem_cons hi, e]
section
variable {fl fr : List UInt64} {ks : List (Int × Int)} {i : Nat} {k : Int × Int}
theorem cmp_lt (hi : cmpF fl fr ks = cmpF fl fr (ks.drop i)) (h : ks[i]? = some k) (a : (Float64.cmp (fl.getD k.1.toNat 0) (fr.getD k.1.toNat 0) == some .lt) = true) : -k.2 = cmpF fl fr ks := by
  rw [hi, drop_of h]; simp only [cmpF, flt, a, cond_true]
theorem cmp_gt (hi : cmpF fl fr ks = cmpF fl fr (ks.drop i)) (h : ks[i]? = some k) (a : (Float64.cmp (fl.getD k.1.toNat 0) (fr.getD k.1.toNat 0) == some .lt) = false) (b : (Float64.cmp (fl.getD k.1.toNat 0) (fr.getD k.1.toNat 0) == some .gt) = true) : k.2 = cmpF fl fr ks := by
  rw [hi, drop_of h]; simp only [cmpF, flt, fgt, a, b, cond_true, cond_false]
theorem cmp_eq (hi : cmpF fl fr ks = cmpF fl fr (ks.drop i)) (h : ks[i]? = some k) (a : (Float64.cmp (fl.getD k.1.toNat 0) (fr.getD k.1.toNat 0) == some .lt) = false) (b : (Float64.cmp (fl.getD k.1.toNat 0) (fr.getD k.1.toNat 0) == some .gt) = false) : cmpF fl fr ks = cmpF fl fr (ks.drop (i + 1)) := by
  rw [hi, drop_of h]; simp only [cmpF, flt, fgt, a, b, cond_false]
end
theorem turn_ret {σ : Type} {h₀ : Heap} {L I : Addr} {oI : Obj} {m₀ : Str → Option Value} {stored : List Str} {ps : σ → List (Str × Value)} {Inv : σ → List (Addr × Obj) → Prop} {s₁ s₂ : Shared} {Q : Flow → Shared → Prop} {v : Value} (h : Q (.ret v) s₂) : TurnPost h₀ L I oI m₀ stored ps Inv s₁ Q (.ret v) s₂ := h
theorem order_at {cols : List Col} {ks : List (Int × Int)} {p q : Nat} {c1 c2 c3 c4 : Col} (hlaw : ∀ c ∈ cols, ∀ d ∈ cols, cmpF (rowF c) (rowF d) ks = sgnF (wtF (rk c) ks - wtF (rk d) ks)) (h1 : cols[p]? = some c1) (h2 : cols[q]? = some c2) (h3 : cols[p]? = some c3) (h4 : cols[q]? = some c4) :
    cmpF (rowF c1) (rowF c2) ks = sgnF (wtF (rk c3) ks - wtF (rk c4) ks) := by
  rw [h1] at h3; rw [h2] at h4
  obtain rfl := Option.some.inj h3
  obtain rfl := Option.some.inj h4
  exact hlaw _ (List.mem_of_getElem? h1) _ (List.mem_of_getElem? h2)
section
variable {prog : Program} {w : World} {A : Around} {E : Value → Shared → Prop} {s : Shared} {h₀ : Heap} {L l : Addr}
theorem len_lst {news : List (Addr × Obj)} {vs : List Value} {n : Nat} {Q : Value → Shared → Prop} (N : News h₀ L s.heap news) (hm : (l, PySem.W.listOf vs.toArray n) ∈ news) (hfit : vs.length ≤ 12)
    (h : Q (.int (vs.length : Int) (s.toks + 1)) { s with toks := s.toks + 1 + 1 }) : wpAny (model prog w) A (call (.builtin "len") [.ref l]) Q E s := by
  have hl : s.heap.IsList l vs.toArray := ⟨_, (N _ hm).1, rfl, n, rfl⟩
  have e : vs.toArray.size = vs.length := List.size_toArray ..
  exact len_list hl (by rw [e]; omega) (by rw [e]; exact h)
end
end
section
local macro_rules | `(tactic| walk_at "no such step") => `(tactic| skip)
local macro_rules | `(tactic| walk_at "subscriptTail") => `(tactic| (k_here; (with_reducible show wpAny _ _ (subscriptTail _ _ (Value.ref _) (Value.int _ _)) _ _ _); k_dflt (refine' item_fl ?k1 ?k2 ?k3 ?k4 ?k5 ?k6 ?_; (case k1 => k_asm); (case k2 => k_mem); (case k3 => assumption); (case k4 | k5 | k6 => omega); k_whole); intro u'; (try dsimp only)))
local macro_rules | `(tactic| walk_at "exec For Tuple Attribute cons nil") => `(tactic| (k_here; (rename Fr _ _ _ _ => lF'); (with_unfolding_all refine' For_turns lF' ?_; k_whole)))
theorem compare_c {w : World} {mean : ExcName → Option Value} {mg mb : Str → Option Value} {x d kl la ra : Addr} {tks : Tok} {nk n1 n2 : Nat} {news : List (Addr × Obj)} {lvs rvs kvs : List Value} {fl fr : List UInt64} {ks : List (Int × Int)}
    (hx : (x, instObj 38 d) ∈ news) (hdd : (d, dictOf [{ hash := PyData.keyHash w.params (Str.ofString "comp_select_list"), key := .str (Str.ofString "comp_select_list") tks, val := .ref kl }] 1) ∈ news)
    (hkl : (kl, PySem.W.listOf kvs.toArray nk) ∈ news) (hks : All2 (KeyV news) kvs ks) (hl : (la, tup lvs n1) ∈ news) (hlf : All2 FlV lvs fl) (hr : (ra, tup rvs n2) ∈ news) (hrf : All2 FlV rvs fr) (hl6 : fl.length = 6) (hr6 : fr.length = 6) :
    CtrV w mean mg mb 35 [.ref x, .ref la, .ref ra] 12 news (fun v => ∃ t, v = .int (cmpF fl fr ks) t) := by
  unfold CtrV
  k_fill
  intro dp un gd cn cs a ccd cl outer A₀ base h₀ L m s Q E B F X N T hk hd' hu hret
  refine wpAny_call ?_
  k_dflt ktr_enter
  k_steps
  refine turns_listS (σ := Unit) [Str.ofString "index", Str.ofString "direction", Str.ofString "l", Str.ofString "r"] (fun _ => []) (fun i _ => cmpF fl fr ks = cmpF fl fr (ks.drop i)) () rfl (by k_asm) (by k_asm) hkl (fun _ h => nomatch h) rfl ?_ ?_
  · intro i v c' u' h9 tk9 I9 oI9 hv hi F9 N9 hn
    obtain ⟨k, hk9, a9, tc9, td9, n9, rfl, hm9, b0, b5, b1, b2, b3⟩ := hks.get' i v hv
    k_steps
    · refine turn_ret ?_
      k_steps
      exact hret _ _ _ (by k_asm) (cb_drop (by assumption) (by kcf_all)) ⟨_, congrArg (Value.int · _) (cmp_lt hi hk9 (by assumption))⟩
    · refine turn_ret ?_
      k_steps
      exact hret _ _ _ (by k_asm) (cb_drop (by assumption) (by kcf_all)) ⟨_, congrArg (Value.int · _) (cmp_gt hi hk9 (by assumption) (by assumption))⟩
    · exact turn_next () _ (by k_asm) (by k_asm) (fun _ h => h) hn (fun _ h => nomatch h) (by ((intro z9 h91 h92); (have h93 := h92); (try simp only [List.forall_mem_cons, List.not_mem_nil, false_implies, implies_true, and_true, ne_eq] at h91); (try simp only [List.contains_cons, List.contains_nil, Bool.or_false, Bool.or_eq_false_iff, beq_eq_false_iff_ne, ne_eq] at h93); (first | (simp only [frB, kstB, h91, h92, h93, if_false, Bool.false_eq_true]; done) | (simp [frB, kstB, h91, h92, h93]; done)))) ⟨rfl, cmp_eq hi hk9 (by assumption) (by assumption)⟩
  · intro c' u' h9 tk9 hi F9 N9
    k_steps
    rw [hks.length, List.drop_length] at hi
    exact hret _ _ _ (by k_asm) (by k_asm) ⟨_, congrArg (Value.int · _) hi.symm⟩
end
section
local macro_rules | `(tactic| walk_at "call ref") => `(tactic| (k_here; (with_reducible show wpAny _ _ (call (Value.ref 108) _) _ _ _); k_dflt (refine' useV (weight_c ?p0 ?p1 ?p2 ?p3 ?p4 ?p5) ?_; (case p0 | p1 | p2 | p3 | p4 => walk_at "own:p"); (case p5 => exact All2.mono (by assumption) fun v9 b9 r9 => KeyV.mono r9 (by kcf_all))); walk_at "own:v"))
local macro_rules | `(tactic| walk_at "exec Assign cons ListComp") => `(tactic| (k_here; k_dflt (refine Assign_ListComp_lst (F₀ := by k_asm) (by rfl) (by with_unfolding_all rfl) (by with_unfolding_all rfl) (by decide) (by rfl) (by decide) (by rfl) (by rfl) (by rfl) ?_)))
local macro_rules | `(tactic| walk_at "exec For Name Call cons nil") => `(tactic| (k_here; (rename Fr _ _ _ _ => lF'); (with_unfolding_all refine' For_turns lF' ?_; k_whole)))
local macro_rules | `(tactic| walk_at "call builtin:len") => `(tactic| (k_here; (with_reducible show wpAny _ _ (call (Value.builtin "len") [Value.ref _]) _ _ _); k_dflt (refine' len_lst ?k1 ?k2 ?k3 ?_; (case k1 => k_asm); (case k2 => k_mem); (case k3 => omega); k_whole); (try dsimp only)))
local macro_rules | `(tactic| walk_at "subscriptTail") => `(tactic| (k_here; (with_reducible show wpAny _ _ (subscriptTail _ _ (Value.ref _) (Value.int _ _)) _ _ _); k_dflt (refine' item_refs (R := RowV _) ?k1 ?k2 ?k3 ?k4 ?k5 ?k6 ?_; (case k1 => k_asm); (case k2 => k_mem); (case k3 => assumption); (case k4 | k5 | k6 => omega); k_whole); intro v' c' hc' hr'; (obtain ⟨a', vs', n', e', hm', hf'⟩ := hr'); subst e'; (try dsimp only)))
local macro_rules | `(tactic| walk_at "subscriptTail") => `(tactic| (k_here; (with_reducible show wpAny _ _ (subscriptTail _ _ (Value.ref _) (Value.int _ _)) _ _ _); k_dflt (refine' item_refs (R := fun v c => IntV v (wtF (rk c) _)) ?k1 ?k2 ?k3 ?k4 ?k5 ?k6 ?_; (case k1 => k_asm); (case k2 => k_mem); (case k3 => assumption); (case k4 | k5 | k6 => omega); k_whole); intro v' c' hc' hr'; (obtain ⟨t', e'⟩ := hr'); subst e'; (try dsimp only)))
local macro_rules | `(tactic| walk_at "call ref") => `(tactic| (k_here; (with_reducible show wpAny _ _ (call (Value.ref 38) [Value.ref _]) _ _ _); k_dflt (refine' call_cls ?k1 ?k2 ?k3 ?k4 ?k5 ?k6 ?_; (case k1 | k2 | k3 => k_asm); (case k4 | k5 | k6 => k_is); k_whole; intro x' d' h' F' N' l1 l2; (try k_lt l1); (try k_lt2 l2); (try k_sweep); (refine' code_def ?k1 ?k2 ?k3 ?k4 ?k5 ?kA ?kF ?kK ?k6 ?k7 ?k8 ?k9 ?kB ?_ ?c2 ?c3 ?c4 ?c5; (case kA | kF => exact rfl); (case kK => first | exact rfl | assumption); (case k1 | k2 | k3 | k4 | k5 => k_asm); (case k6 | k7 => k_is); (case k8 => ktr_room); (case k9 => exact BindsTo.of_eq rfl); (case c5 => decide); (case kB => exact locs rfl); (case c2 | c3 | c4 => exact rfl); k_whole; intro g' L' h' FG' F' N' B' X' T'; (try dsimp only); (try k_fold)))))
local macro_rules | `(tactic| walk_at "call ref") => `(tactic| (k_here; (with_reducible show wpAny _ _ (call (Value.ref 115) _) _ _ _); k_dflt (refine' useV sign_c ?_); walk_at "own:v"))
local macro_rules | `(tactic| walk_at "call ref") => `(tactic| (k_here; (with_reducible show wpAny _ _ (call (Value.ref 35) _) _ _ _); k_dflt (refine' useV (compare_c ?p0 ?p1 ?p2 ?p3 ?p4 ?p5 ?p6 ?p7 ?p8 ?p9) ?_; (case p0 | p1 | p2 => walk_at "own:p"); (case p3 => exact All2.mono (by assumption) fun v9 b9 r9 => KeyV.mono r9 (by kcf_all)); (case p4 | p5 | p6 | p7 => walk_at "own:p"); (case p8 | p9 => exact rfl)); walk_at "own:v"))
local macro_rules | `(tactic| walk_at "eval Call") => `(tactic| (k_here; (first | (k_dflt (refine PyProof.Rows.Call_ ?_)) | fail "ecall")))
theorem order_c {w : World} {mean : ExcName → Option Value} {mg mb : Str → Option Value} {P Rw kl : Addr} {kp kr nk : Nat} {news : List (Addr × Obj)} {pvs rvs kvs : List Value} {cols : List Col} {ks : List (Int × Int)}
    (hpal : (P, PySem.W.listOf pvs.toArray kp) ∈ news) (hcol : All2 (ColV news) pvs cols) (hrows : (Rw, PySem.W.listOf rvs.toArray kr) ∈ news) (hrow : All2 (RowV news) rvs cols)
    (hkl : (kl, PySem.W.listOf kvs.toArray nk) ∈ news) (hks : All2 (KeyV news) kvs ks) (hin : ∀ c ∈ cols, InB c) (hlen : cols.length ≤ 12)
    (hlaw : ∀ c ∈ cols, ∀ d ∈ cols, cmpF (rowF c) (rowF d) ks = sgnF (wtF (rk c) ks - wtF (rk d) ks)) :
    CtrV w mean mg mb 120 [.ref P, .ref Rw, .ref kl] 18 news (fun v => v = .bool true) := by
  unfold CtrV
  k_fill
  intro dp un gd cn cs a ccd cl outer A₀ base h₀ L m s Q E B F X N T hk hd' hu hret
  refine wpAny_call ?_
  k_dflt (refine' code_defC ?k1 ?k2 ?k3 ?k4 ?k5 ?kA ?kF ?kK ?k6 ?k7 ?k8 ?k9 ?kB ?kD ?_ ?c2 ?c3 ?c4; (case kA => exact rfl); (case kF => exact rfl); (case kK => assumption); (case k1 => k_asm); (case k2 => k_asm); (case k3 => k_asm); (case k4 => k_asm); (case k5 => k_asm); (case k6 => k_is); (case k7 => k_is); (case k8 => ktr_room); (case k9 => exact BindsTo.of_eq rfl); (case kB => exact rfl); (case kD => decide +kernel); (case c2 => exact rfl); (case c3 => exact rfl); (case c4 => exact rfl); k_whole; intro g' L' h' tk' cells' FG' F' N' Y' B' X' T' l1; (try k_lt l1); (have hY := CellsAre.one Y'); (obtain ⟨o', hE', d1'⟩ := hY); subst hE'; clear Y'; (try simp only [List.cons_append, List.nil_append] at N'); (try dsimp only); (try k_fold))
  replace F' : Fr g' L' h' (fun y => if y = Str.ofString "rows" then some (.ref Rw) else if y = Str.ofString "palette" then some (.ref P) else none) := by with_unfolding_all exact F'
  replace d1' : o'.data = .cell (some (.ref kl)) := d1'
  have hpl := hcol.length
  have hrl := hrow.length
  k_steps
  refine ⟨_, _, _, _, rfl, rfl, by k_asm, by k_asm, List.mem_cons_of_mem _ hpal, by rw [sizeLine_eq]; omega, fun g => ?_⟩
  refine rest_list (bs := cols) (fun v c => IntV v (wtF (rk c) ks)) hpl.symm ?_ ?_
  · intro i v c ys I oI C oC D m₂ h tk E' hb hv hC hx F9 N9 off ne
    obtain ⟨c2, hc2, a9, tx9, ty9, tz9, n9, rfl, hm9⟩ := hcol.get' i v hv
    obtain rfl : c2 = c := by rw [hb] at hc2; exact (Option.some.inj hc2).symm
    obtain ⟨bx, bY, bz⟩ := hin c2 (List.mem_of_getElem? hb)
    k_steps
    exact LCg.CompEnd.intro (by k_asm) (by k_asm) _ (fun _ hp => hp) off (.inr ⟨_, List.mem_cons_of_mem _ hpal, rfl, _, rfl⟩) ⟨rfl, _, rfl⟩
  · intro ys hy
    k_steps
    refine turns_rangeS (σ := Unit) (n := rvs.length) [Str.ofString "one", Str.ofString "other", Str.ofString "told"] (fun _ => []) (fun _ _ => True) () rfl (by assumption) (small_one (by omega) (by omega) (by omega) (by omega)) (rangeSize_nat _ _) (by k_asm) (by k_asm) (fun _ h => nomatch h) trivial ?_ ?_
    · intro i t9 c9 u9 h9 tk9 I9 oI9 hi _ F9 N9 hn
      k_steps
      refine turns_rangeS (σ := Unit) (n := rvs.length) [Str.ofString "other", Str.ofString "told"] (fun _ => []) (fun _ _ => True) () rfl (by assumption) (small_one (by omega) (by omega) (by omega) (by omega)) (rangeSize_nat _ _) (by k_asm) (by k_asm) (fun _ h => nomatch h) trivial ?_ ?_
      · intro j t8 c8 u8 h8 tk8 I8 oI8 hj _ F8 N8 hn8
        k_steps
        · exfalso
          (rename cmpF _ _ _ ≠ _ => hz)
          exact hz (order_at hlaw (by assumption) (by assumption) (by assumption) (by assumption))
        · refine turn_next () _ (by k_asm) (by k_asm) ?_ hn8 (fun _ h => nomatch h) ?_ ⟨rfl, trivial⟩
          · kcf_all
          · ((intro z9 h91 h92); (have h93 := h92); (try simp only [List.forall_mem_cons, List.not_mem_nil, false_implies, implies_true, and_true, ne_eq] at h91); (try simp only [List.contains_cons, List.contains_nil, Bool.or_false, Bool.or_eq_false_iff, beq_eq_false_iff_ne, ne_eq] at h93); (first | (simp only [frB, kstB, h91, h92, h93, if_false, Bool.false_eq_true]; done) | (simp [frB, kstB, h91, h92, h93]; done)))
      · intro c8 u8 h8 tk8 _ F8 N8
        k_steps
        exact turn_next () _ (by k_asm) (by k_asm) (fun _ h => h) hn (fun _ h => nomatch h) (by ((intro z9 h91 h92); (have h93 := h92); (try simp only [List.forall_mem_cons, List.not_mem_nil, false_implies, implies_true, and_true, ne_eq] at h91); (try simp only [List.contains_cons, List.contains_nil, Bool.or_false, Bool.or_eq_false_iff, beq_eq_false_iff_ne, ne_eq] at h93); (first | (simp only [frB, kstB, h91, h92, h93, if_false, Bool.false_eq_true]; done) | (simp [frB, kstB, h91, h92, h93]; done)))) ⟨rfl, trivial⟩
    · intro c9 u9 h9 tk9 _ F9 N9
      k_steps
      exact hret _ _ _ (by k_asm) (cb_drop (by assumption) (by kcf_all)) rfl
end
section
open PySem.Calls LCg
theorem neN {a b : Nat} (h : a < b ∨ b < a) : a ≠ b := by omega
theorem ltN' {a b : Nat} (h : a < b) : a < b := h
/-- what is left of a comprehension over pairs behind its source -/
noncomputable def ZipSrc (prog : Program) (w : World) (A : Around) (env : Env) (elt : PySem.Expr) (a b : Str) (pa pb tp : Pos) (kk : Nat) (iter : PySem.Expr) (scope : Scope) (cl : List (Str × Addr)) (pos : Pos) (E Q : Value → Shared → Prop) (xv : Value) (s₁ : Shared) : Prop :=
  wpAny (model prog w) A (pyIter xv) (fun it s₂ => wpAny (model prog w) A (newList []) (fun acc s₃ =>
      wpAny (model prog w) A (newFunctionEnv scope env.globals cl [] env.qual none .none (some env)) (fun cenv s₄ =>
        codeAny (model prog w) A (.compStart (.ListComp elt [⟨.Tuple [.Name a pa, .Name b pb] kk tp, iter, [], 0⟩] scope pos) 0 it acc { cenv with scope := relabel scope env }) (compPost (model prog w) A E none Q acc cenv.locals) s₄) E s₃) E s₂) E s₁
noncomputable def ZipEnd (h₀ : Heap) (L : Addr) (m : Str → Option Value) (s : Shared) (R : Value → Prop) (all : List (Addr × Obj)) (v : Value) (s₂ : Shared) : Prop :=
  R v ∧ ∃ h' tk', s₂ = { s with heap := h', toks := tk' } ∧ Fr h₀ L h' m ∧ News h₀ L h' all
section
variable {prog : Program} {w : World} {A : Around} {E : Value → Shared → Prop} {s : Shared} {h₀ : Heap} {L : Addr} {m : Str → Option Value} {env : Env}
theorem ZipEnd.intro {R : Value → Prop} {all : List (Addr × Obj)} {v : Value} {h' : Heap} {tk : Nat} (F : Fr h₀ L h' m) (N : News h₀ L h' all) (r : R v) : ZipEnd h₀ L m s R all v { s with heap := h', toks := tk } := ⟨r, h', tk, rfl, F, N⟩
theorem ListComp_zip {elt iter : PySem.Expr} {a b : Str} {pa pb tp : Pos} {kk : Nat} {scope : Scope} {cl : List (Str × Addr)} {pos : Pos} {Q : Value → Shared → Prop}
    (hclos : closureFor scope env = pure cl) (hkind : scope.kind = .function) (hnames : ∀ y ∈ scope.names, y.2 = .local → scope.names.lookup y.1 = some .local)
    (h : wpAny (model prog w) A (eval iter env) (ZipSrc prog w A env elt a b pa pb tp kk iter scope cl pos E Q) E s)
    (hs : ∀ x, foldedSetIterable iter env x = pure x := by intro _; rfl) :
    wpAny (model prog w) A (eval (.ListComp elt [⟨.Tuple [.Name a pa, .Name b pb] kk tp, iter, [], 0⟩] scope pos) env) Q E s := by
  rw [eval_ListComp]
  exact wpAny_comprehension_free (use := none) rfl hs hclos hkind hnames (wpAny_mono h (fun xv s₁ h₁ => h₁) fun _ _ e => e)
theorem zip_src {elt iter : PySem.Expr} {a b : Str} {pa pb tp : Pos} {kk : Nat} {scope : Scope} {cl : List (Str × Addr)} {pos : Pos} {Q : Value → Shared → Prop} {l1 l2 k1 k2 : Nat} {xs ys : List Value} {news : List (Addr × Obj)} (R : Nat → Value → Prop)
    (hh : A.handled = none) (F : Fr h₀ L s.heap m) (N : News h₀ L s.heap news) (hm1 : (l1, PySem.W.listOf xs.toArray k1) ∈ news) (hm2 : (l2, PySem.W.listOf ys.toArray k2) ∈ news) (hl : xs.length = ys.length) (hsz : xs.length ≤ sizeLine)
    (hcell : ∀ y ∈ scope.names, y.2 ≠ .cell) (hkind : scope.kind = .function) (hxa : scope.names.lookup a = some .local) (hxb : scope.names.lookup b = some .local) (hab : ¬ a = b)
    (turn : ∀ i x y zs z oz T1 o1 T2 o2 j1 p1 j2 p2 C oC D m₂ h tk (E' : Value → Shared → Prop), xs[i]? = some x → ys[i]? = some y → NsObj oC m₂ → m₂ a = some x → m₂ b = some y → Fr h₀ L h m → News h₀ L h ((z, oz) :: (T1, o1) :: (T2, o2) :: (j1, p1) :: (j2, p2) :: (C, oC) :: (D, lst zs) :: news) →
      wpAny (model prog w) A (eval elt (compEnvC scope cl C env)) (ZipEnd h₀ L m { s with heap := h, toks := tk } (R i) ((z, oz) :: (T1, o1) :: (T2, o2) :: (j1, p1) :: (j2, p2) :: (C, oC) :: (D, lst zs) :: news)) E' { s with heap := h, toks := tk })
    (fin : ∀ zs D h tk, zs.length = xs.length → (∀ i v, zs[i]? = some v → R i v) → Fr h₀ L h m → News h₀ L h ((D, lst zs) :: news) → Q (.ref D) { s with heap := h, toks := tk }) :
    wpAny (model prog w) A (call (.type "zip") [.ref l1, .ref l2]) (ZipSrc prog w A env elt a b pa pb tp kk iter scope cl pos E Q) E s := by
  have hax1 := N _ hm1
  have hax2 := N _ hm2
  have hl1 : s.heap.IsList l1 xs.toArray := ⟨_, hax1.1, rfl, k1, rfl⟩
  have hl2 : s.heap.IsList l2 ys.toArray := ⟨_, hax2.1, rfl, k2, rfl⟩
  have hlt1 : l1 < s.heap.objs.size := Heap.lt_size hax1.1
  have hlt2 : l2 < s.heap.objs.size := Heap.lt_size hax2.1
  have hLs : @LT.lt Nat _ L s.heap.objs.size := F.ns.lt
  refine call_zip_2 hl1 hl2 fun g hz hTI hTO hi1 hi2 hgsz hk => ?_
  have D := ktu_apart _ _ _ hlt1 hlt2
  have W := WalksT.zip2 (prog := prog) (w := w) hh _ _ _ _ _ _ _ D xs.toArray ys.toArray
  have hmin : min xs.toArray.size ys.toArray.size = xs.length := by simp [hl]
  rw [hmin] at W
  have F₂ : Fr h₀ L g m := F.keeps hk
  have N₂ : News h₀ L g news := N.grown hk
  have hst₀ : IsZip g (s.heap.objs.size + 4) (s.heap.objs.size + 2) (s.heap.objs.size + 3) .none ∧ IsPair g (s.heap.objs.size + 2) (.ref s.heap.objs.size) (.ref (s.heap.objs.size + 1)) ∧ (∃ a b, IsPair g (s.heap.objs.size + 3) a b) ∧ g.IsListIter s.heap.objs.size l1 0 ∧ g.IsListIter (s.heap.objs.size + 1) l2 0 ∧ g.IsList l1 xs.toArray ∧ g.IsList l2 ys.toArray :=
    (⟨hz, hTI, ⟨_, _, hTO⟩, hi1, hi2, hl1.at fun o e => hk l1 o e, hl2.at fun o e => hk l2 o e⟩)
  unfold ZipSrc
  refine wpAny_pyIter_zip hz ?_
  generalize hnn : s.heap.objs.size = n₀ at *
  refine wpAny_newObj_type (wpAny_newFunctionEnv hcell (by intro y hy; simp at hy) (fun h₁ hns₁ hsb₁ => ?_) hkind)
  dsimp only at hns₁ hsb₁ ⊢
  generalize hH2 : g.push { cls := .type "list", dict := none, data := .seq ([] : List Value).toArray } = H2 at hns₁ hsb₁ ⊢
  have hC : H2.objs.size = n₀ + 6 := by rw [← hH2, Heap.size_push, hgsz]
  rw [hC] at hns₁ hsb₁ ⊢
  rw [hgsz]
  have ltg : ∀ (c : Nat) (o : Obj), g.get? c = some o → @LT.lt Nat _ c (n₀ + 5) := fun c o e => hgsz ▸ Heap.lt_size e
  have lts : ∀ (c : Nat) (o : Obj), s.heap.get? c = some o → @LT.lt Nat _ c n₀ := fun c o e => hnn ▸ Heap.lt_size e
  have old : ∀ b o, g.get? b = some o → h₁.get? b = some o := fun b o e => hsb₁.extBut b o (neN (by have := ltg b o e; omega)) (Heap.get?_push_of_some _ (hH2 ▸ Heap.get?_push_of_some _ e))
  have hacc : h₁.get? (n₀ + 5) = some (lst []) := hsb₁.extBut _ _ (neN (by omega)) (Heap.get?_push_of_some _ (hH2 ▸ hgsz ▸ Heap.get?_push_size _ rfl))
  have fresh₀ : ∀ c : Nat, n₀ ≤ c → h₀.get? c = none := fun c hc => by
    cases e : h₀.get? c with
    | none => rfl
    | some o' =>
      have := lts c o' (F.keep c o' e)
      omega
  have lowN : ∀ p ∈ news, @LT.lt Nat _ p.1 n₀ := fun p hp => lts _ _ (N p hp).1
  have wrge : ∀ c : Nat, c ∈ [n₀ + 4, n₀ + 3, n₀, n₀ + 1] → n₀ ≤ c ∧ c < n₀ + 5 := fun c hc => by
    simp only [List.mem_cons, List.not_mem_nil, or_false] at hc
    omega
  have fplt : ∀ c : Nat, c ∈ [n₀ + 4, n₀ + 2, n₀ + 3, n₀, n₀ + 1, l1, l2] → c < n₀ + 5 := fun c hc => by
    simp only [List.mem_cons, List.not_mem_nil, or_false] at hc
    omega
  have nL' : ∀ c : Nat, n₀ ≤ c → c ≠ L := fun c hc => neN (by omega)
  have loop : ∀ s₃ : Shared, s₃ = { s with heap := h₁, toks := s.toks + ([] : List (Str × Value)).length } →
      codeAny (model prog w) A (.compLoop (.ListComp elt [⟨.Tuple [.Name a pa, .Name b pb] kk tp, iter, [], 0⟩] scope pos) 0 (.ref (n₀ + 4)) (.ref (n₀ + 5)) (compEnvC scope cl (n₀ + 6) env))
        (compPost (model prog w) A E none Q (.ref (n₀ + 5)) (n₀ + 6)) s₃ := by
    rintro s₃ rfl
    refine kcp_loop
      (fun k s' => ∃ h' tk i zs m', s' = { s with heap := h', toks := tk } ∧ i ≤ xs.length ∧ k = xs.length + 1 - i ∧ zs.length = i ∧ (∀ j v, zs[j]? = some v → R j v) ∧
        (IsZip h' (n₀ + 4) (n₀ + 2) (n₀ + 3) .none ∧ IsPair h' (n₀ + 2) (.ref n₀) (.ref (n₀ + 1)) ∧ (∃ a b, IsPair h' (n₀ + 3) a b) ∧ h'.IsListIter n₀ l1 i ∧ h'.IsListIter (n₀ + 1) l2 i ∧ h'.IsList l1 xs.toArray ∧ h'.IsList l2 ys.toArray) ∧
        Fr h₀ L h' m ∧ h'.Ns (n₀ + 6) m' ∧ News h₀ L h' ((n₀ + 5, lst zs) :: news)) ?_ (xs.length + 1)
      ⟨h₁, _, 0, [], _, rfl, Nat.zero_le _, rfl, rfl, fun j v e => by simp at e, W.frame _ _ _ hst₀ fun b _ o e => old b o e, F₂.keeps old, hns₁, fun p hp => ?_⟩
    · rintro k s' ⟨h', tk, i, zs, m', rfl, hi, rfl, hzl, hR, hst', F', hn', N'⟩
      by_cases hlt : i < xs.length
      · refine W.item i _ _ _ hlt hst' fun T vals h₂ tk₂ hP hTge hT hMid hk₂ => ?_
        refine W.go _ _ _ i T _ _ _ hMid fun h₃ hst₃ hk₃ => ?_
        obtain ⟨x, y, hx, hy, rfl⟩ := hP
        have hT₃ : h₃.IsTuple T #[x, y] := hT.at fun o e => hk₃ T o (W.apart i T _ hMid) e
        have up₃ : ∀ c o, c ∉ [n₀ + 4, n₀ + 3, n₀, n₀ + 1] → h'.get? c = some o → h₃.get? c = some o := fun c o hc e => hk₃ c o hc (hk₂ c o hc e)
        have hCw : n₀ + 6 ∉ [n₀ + 4, n₀ + 3, n₀, n₀ + 1] := fun q => by have := wrge _ q; omega
        refine kcp_assign (env := compEnvC scope cl (n₀ + 6) env) hh hT₃ (lookup_relabel_local hxa) (lookup_relabel_local hxb) (by simp [compEnvC, relabel, hkind]) (hn'.at' fun o e => up₃ _ o hCw e) fun h₄ tk₄ hn₄ hs₄ => ?_
        replace hs₄ : ∀ c o, c ≠ n₀ + 6 → h₃.get? c = some o → h₄.get? c = some o := hs₄
        have up : ∀ c o, c ∉ [n₀ + 4, n₀ + 3, n₀, n₀ + 1] → c ≠ n₀ + 6 → h'.get? c = some o → h₄.get? c = some o := fun c o h1 h2 e => hs₄ c o h2 (up₃ c o h1 e)
        have hst₄ := W.frame (i + 1) h₃ h₄ hst₃ fun c hc o e => hs₄ c o (neN (by have := fplt c hc; omega)) e
        obtain ⟨z1, z2, ⟨_, _, z3⟩, ⟨q1, e1, r1⟩, ⟨q2, e2, r2⟩, z6, z7⟩ := id hst₄
        obtain ⟨qz, ez⟩ : ∃ q, h₄.get? (n₀ + 4) = some q := ⟨_, z1⟩
        obtain ⟨qt, et⟩ : ∃ q, h₄.get? (n₀ + 2) = some q := ⟨_, z2⟩
        obtain ⟨qo, eo⟩ : ∃ q, h₄.get? (n₀ + 3) = some q := ⟨_, z3⟩
        obtain ⟨oC, heC, hoC⟩ := ns_obj hn₄
        have F₄ : Fr h₀ L h₄ m := ⟨F'.ns.at' fun o e => up _ o (fun q => by have := wrge _ q; omega) (neN (by omega)) e, fun c o e => up c o (fun q => by rw [fresh₀ c (wrge c q).1] at e; cases e) (fun q => by rw [q, fresh₀ (n₀ + 6) (by omega)] at e; cases e) (F'.keep c o e), F'.above⟩
        have nL : ∀ c : Nat, n₀ ≤ c → c ≠ L := fun c hc => neN (by omega)
        have N₄ : News h₀ L h₄ ((n₀ + 4, qz) :: (n₀ + 2, qt) :: (n₀ + 3, qo) :: (n₀, q1) :: (n₀ + 1, q2) :: (n₀ + 6, oC) :: (n₀ + 5, lst zs) :: news) := by
          intro p hp
          simp only [List.mem_cons] at hp
          rcases hp with rfl | rfl | rfl | rfl | rfl | rfl | rfl | hp
          · exact ⟨ez, nL _ (by omega), fresh₀ _ (by omega)⟩
          · exact ⟨et, nL _ (by omega), fresh₀ _ (by omega)⟩
          · exact ⟨eo, nL _ (by omega), fresh₀ _ (by omega)⟩
          · exact ⟨e1, nL _ (by omega), fresh₀ _ (by omega)⟩
          · exact ⟨e2, nL _ (by omega), fresh₀ _ (by omega)⟩
          · exact ⟨heC, nL _ (by omega), fresh₀ _ (by omega)⟩
          · have zz := N' _ List.mem_cons_self
            exact ⟨up _ _ (fun q => by have := wrge _ q; omega) (neN (by omega)) zz.1, zz.2⟩
          · have zz := N' p (List.mem_cons_of_mem _ hp)
            have := lowN p hp
            exact ⟨up _ _ (fun q => by have := wrge _ q; omega) (neN (by omega)) zz.1, zz.2⟩
        refine wpAny_mono (turn i x y zs _ _ _ _ _ _ _ _ _ _ _ oC _ _ h₄ _ _ (by simpa using hx) (by simpa using hy) hoC (by simp [hab]) (by simp) F₄ N₄) (fun v s₅ h₅ => ?_) fun _ _ e => e
        obtain ⟨hRv, h₅, tk₅, rfl, F₅, N₅⟩ := h₅
        have keep : ∀ c ∈ [n₀ + 4, n₀ + 2, n₀ + 3, n₀, n₀ + 1, l1, l2], ∀ o, h₄.get? c = some o → h₅.get? c = some o := by
          have at5 : ∀ p, p ∈ ((n₀ + 4, qz) :: (n₀ + 2, qt) :: (n₀ + 3, qo) :: (n₀, q1) :: (n₀ + 1, q2) :: (n₀ + 6, oC) :: (n₀ + 5, lst zs) :: news : List (Addr × Obj)) → ∀ o, h₄.get? p.1 = some o → h₅.get? p.1 = some o := fun p hp o e => by
            have a := (N₄ p hp).1
            rw [a] at e
            cases e
            exact (N₅ p hp).1
          intro c hc
          simp only [List.mem_cons, List.not_mem_nil, or_false] at hc
          rcases hc with rfl | rfl | rfl | rfl | rfl | rfl | rfl
          · exact at5 (n₀ + 4, qz) (by simp)
          · exact at5 (n₀ + 2, qt) (by simp)
          · exact at5 (n₀ + 3, qo) (by simp)
          · exact at5 (_, q1) (by simp)
          · exact at5 (n₀ + 1, q2) (by simp)
          · exact at5 (_, _) (List.mem_cons_of_mem _ (List.mem_cons_of_mem _ (List.mem_cons_of_mem _ (List.mem_cons_of_mem _ (List.mem_cons_of_mem _ (List.mem_cons_of_mem _ (List.mem_cons_of_mem _ hm1)))))))
          · exact at5 (_, _) (List.mem_cons_of_mem _ (List.mem_cons_of_mem _ (List.mem_cons_of_mem _ (List.mem_cons_of_mem _ (List.mem_cons_of_mem _ (List.mem_cons_of_mem _ (List.mem_cons_of_mem _ hm2)))))))
        have zC := (N₅ (n₀ + 6, oC) (by simp)).1
        have zD := (N₅ (n₀ + 5, lst zs) (by simp)).1
        refine append_at (hsz := by show zs.toArray.size ≤ sizeLine; rw [List.size_toArray, hzl]; exact Nat.le_trans hi hsz) zD fun h₆ hs₆ hD₆ => ?_
        refine ⟨xs.length + 1 - (i + 1), by omega, h₆, tk₅, i + 1, zs ++ [v], _, rfl, hlt, rfl, by rw [List.length_append, List.length_singleton, hzl], ?_, W.frame _ _ _ hst₄ fun c hc o e => hs₆.extBut c o (neN (by have := fplt c hc; omega)) (keep c hc o e),
          F₅.change hs₆ (nL _ (by omega)) (fresh₀ _ (by omega)), (hoC.ns zC).sameBut hs₆ (neN (by omega)), fun p hp => ?_⟩
        · intro j u e
          rcases Nat.lt_or_ge j zs.length with hj | hj
          · rw [List.getElem?_append_left hj] at e; exact hR j u e
          · rw [List.getElem?_append_right hj] at e
            have hj0 : j - zs.length = 0 := by
              rcases Nat.eq_zero_or_pos (j - zs.length) with h | h
              · exact h
              · rw [List.getElem?_eq_none (show [v].length ≤ j - zs.length from h)] at e; cases e
            rw [hj0] at e
            simp at e
            subst e
            have : j = i := by omega
            rw [this]; exact hRv
        · rcases List.mem_cons.mp hp with rfl | hp
          · exact ⟨hD₆.trans (congrArg some (lst_snoc zs v)), nL _ (by omega), fresh₀ _ (by omega)⟩
          · have zz := N₅ p (List.mem_cons_of_mem _ (List.mem_cons_of_mem _ (List.mem_cons_of_mem _ (List.mem_cons_of_mem _ (List.mem_cons_of_mem _ (List.mem_cons_of_mem _ (List.mem_cons_of_mem _ hp)))))))
            exact ⟨hs₆.extBut _ _ (neN (by have := lowN p hp; omega)) zz.1, zz.2⟩
      · obtain rfl : i = xs.length := Nat.le_antisymm hi (Nat.not_lt.mp hlt)
        refine W.done _ _ _ hst' fun h₂ tk₂ hk₂ => ?_
        have up : ∀ c o, c ∉ [n₀ + 4, n₀ + 3, n₀, n₀ + 1] → h'.get? c = some o → h₂.get? c = some o := hk₂
        have F₃ : Fr h₀ L h₂ m := ⟨F'.ns.at' fun o e => up _ o (fun q => by have := wrge _ q; omega) e, fun c o e => up c o (fun q => by rw [fresh₀ c (wrge c q).1] at e; cases e) (F'.keep c o e), F'.above⟩
        have hn₃ := hn'.at' fun o e => up (n₀ + 6) o (fun q => by have := wrge _ q; omega) e
        have N₃ : News h₀ L h₂ ((n₀ + 5, lst zs) :: news) := fun p hp => by
          have zz := N' p hp
          refine ⟨up _ _ (fun q => ?_) zz.1, zz.2⟩
          have := wrge _ q
          rcases List.mem_cons.mp hp with rfl | hp
          · dsimp only at this; omega
          · have := lowN p hp; omega
        refine ⟨_, hn₃, fun h'' hs'' => fin zs (n₀ + 5) h'' _ hzl hR (F₃.change hs'' (nL' _ (by omega)) (fresh₀ _ (by omega))) fun p hp => ?_⟩
        refine ⟨hs''.extBut _ _ ?_ (N₃ p hp).1, (N₃ p hp).2⟩
        rcases List.mem_cons.mp hp with rfl | hp
        · exact neN (by omega)
        · exact neN (by have := lowN p hp; omega)
    · rcases List.mem_cons.mp hp with rfl | hp
      · exact ⟨hacc, nL' _ (by omega), fresh₀ _ (by omega)⟩
      · exact ⟨old _ _ (N₂ p hp).1, (N₂ p hp).2⟩
  exact codeAny_compStart_list (loop _ rfl) (W.self 0 _ _ _ (W.frame _ _ _ hst₀ fun b _ o e => old b o e) (loop _ rfl))
end
end
section
/- strict evaluation for the kernel -/
noncomputable def force (n : Nat) (f : Nat → Bool) : Bool := match n with
  | 0 => f 0
  | k + 1 => f (k + 1)
theorem force_eq (n : Nat) (f : Nat → Bool) : force n f = f n := by cases n <;> rfl
noncomputable def stU (x : UInt64) (f : UInt64 → Bool) : Bool := force x.toNat fun n => f (UInt64.ofNat n)
theorem stU_eq (x : UInt64) (f : UInt64 → Bool) : stU x f = f x := by unfold stU; rw [force_eq, UInt64.ofNat_toNat]
noncomputable def stI (i : Int) (f : Int → Bool) : Bool := match i with
  | .ofNat n => force n fun n => f (.ofNat n)
  | .negSucc n => f (.negSucc n)
theorem stI_eq (i : Int) (f : Int → Bool) : stI i f = f i := by cases i <;> simp only [stI, force_eq]
noncomputable def lk : List (Nat × Nat) → Nat → Nat
  | [], _ => 2 ^ 70
  | t :: T, r => bif Nat.beq t.1 r then t.2 else lk T r
theorem lk_mem {T : List (Nat × Nat)} {r b : Nat} (h : lk T r = b) (hb : b < 2 ^ 70) : (r, b) ∈ T := by
  induction T with
  | nil => exact absurd hb (by rw [← h]; exact Nat.lt_irrefl _)
  | cons t T ih =>
    unfold lk at h
    cases e : Nat.beq t.1 r with
    | true =>
      rw [e] at h
      have e1 := Nat.eq_of_beq_eq_true e
      have : t = (r, b) := Prod.ext e1 h
      rw [this]; exact List.mem_cons_self
    | false =>
      rw [e] at h
      exact List.mem_cons_of_mem _ (ih h)
noncomputable def TH : List (Nat × Nat) := [(0, 0), (105, 4581662020911584597), (120, 4582519849412036123), (140, 4583663620745971483), (168, 4584964660638322960), (210, 4586165620538955093), (240, 4587023449039406616), (280, 4588167220373341981), (315, 4589168020290535424), (336, 4589468260265693457), (360, 4589811391665874067), (420, 4590669220166325589), (480, 4591527048666777112), (504, 4591870180066957721), (525, 4592170420042115755), (560, 4592670820000712477), (600, 4593242705667680159), (630, 4593671619917905920), (672, 4593971859893063953), (700, 4594172019876502642), (720, 4594314991293244563), (735, 4594422219855801003), (840, 4595172819793696085), (945, 4595923419731591168), (960, 4596030648294147608), (980, 4596173619710889528), (1008, 4596373779694328219), (1050, 4596674019669486251), (1080, 4596888476794599131), (1120, 4597174419628082973), (1155, 4597424619607381333), (1176, 4597574739594960349), (1200, 4597746305295050653), (1260, 4598175219545276416), (1320, 4598389676670389296), (1344, 4598475459520434449), (1365, 4598550519514223957), (1400, 4598675619503873137), (1440, 4598818590920615059), (1470, 4598925819483171499), (1512, 4599075939470750515), (1540, 4599176019462469860), (1560, 4599247505170840820), (1575, 4599301119452119040), (1680, 4599676419421066581), (1785, 4600051719390014123), (1800, 4600105333671292343), (1820, 4600176819379663303), (1848, 4600276899371382648), (1890, 4600427019358961664), (1920, 4600534247921518104), (1960, 4600677219338260025), (1995, 4600802319327909205), (2016, 4600877379321698713), (2040, 4600963162171743867), (2100, 4601177619296856747), (2160, 4601392076421969628), (2184, 4601477859272014780), (2205, 4601552919265804288), (2240, 4601678019255453468), (2280, 4601820990672195389), (2310, 4601928219234751829), (2352, 4602078339222330845), (2380, 4602178419214050191), (2400, 4602249904922421151), (2415, 4602303519203699371), (2520, 4602678819172646912), (2625, 4602866469157120683), (2640, 4602893276297759793), (2660, 4602929019151945273), (2688, 4602979059147804945), (2730, 4603054119141594453), (2760, 4603107733422872673), (2800, 4603179219131243633), (2835, 4603241769126068224), (2856, 4603279299122962979), (2880, 4603322190547985555), (2940, 4603429419110541995), (3000, 4603536647673098435), (3024, 4603579539098121011), (3045, 4603617069095015765), (3080, 4603679619089840356), (3120, 4603751104798211316), (3150, 4603804719079489536), (3192, 4603879779073279044), (3220, 4603929819069138716), (3240, 4603965561923324196), (3255, 4603992369063963307), (3360, 4604180019048437077), (3465, 4604367669032910848), (3480, 4604394476173549959), (3500, 4604430219027735439), (3528, 4604480259023595111), (3570, 4604555319017384619), (3600, 4604608933298662839), (3640, 4604680419007033799), (3675, 4604742969001858389), (3696, 4604780498998753144), (3720, 4604823390423775720), (3780, 4604930618986332160), (3840, 4605037847548888600), (3864, 4605080738973911176), (3885, 4605118268970805931), (3920, 4605180818965630521), (3960, 4605252304674001481), (3990, 4605305918955279701), (4032, 4605380978949069209), (4060, 4605431018944928881), (4080, 4605466761799114361), (4095, 4605493568939753472), (4200, 4605681218924227243), (4305, 4605868868908701013), (4320, 4605895676049340123), (4340, 4605931418903525604), (4368, 4605981458899385276), (4410, 4606056518893174784), (4440, 4606110133174453004), (4480, 4606181618882823964), (4515, 4606244168877648555), (4536, 4606281698874543309), (4560, 4606324590299565885), (4620, 4606431818862122325), (4680, 4606539047424678766), (4704, 4606581938849701342), (4725, 4606619468846596096), (4760, 4606682018841420686), (4800, 4606753504549791646), (4830, 4606807118831069867), (4872, 4606882178824859375), (4900, 4606932218820719047), (4920, 4606967961674904527), (4935, 4606994768815543637)]
noncomputable def TS : List (Nat × Nat) := [(0, 0), (105, 4593671619917905920), (120, 4594314991293244562), (140, 4595172819793696085), (168, 4596373779694328218), (210, 4598175219545276416), (240, 4598818590920615058), (280, 4599676419421066581), (315, 4600427019358961664), (336, 4600877379321698714), (360, 4601392076421969627), (420, 4602678819172646912), (480, 4603322190547985554), (504, 4603579539098121011), (525, 4603804719079489536), (560, 4604180019048437077), (600, 4604608933298662839), (630, 4604930618986332160), (672, 4605380978949069210), (700, 4605681218924227243), (720, 4605895676049340123), (735, 4606056518893174784), (840, 4607182418800017408)]
noncomputable def TV : List (Nat × Nat) := [(0, 0), (1, 4593671619917905920), (2, 4598175219545276416), (3, 4600427019358961664), (4, 4602678819172646912), (5, 4603804719079489536), (6, 4604930618986332160), (7, 4606056518893174784), (8, 4607182418800017408)]
noncomputable def TG : List (Nat × Nat) := [(0, 0), (1, 4589168020290535424), (2, 4593671619917905920), (3, 4595923419731591168), (4, 4598175219545276416), (5, 4599301119452119040), (6, 4600427019358961664), (7, 4601552919265804288), (8, 4602678819172646912), (9, 4603241769126068224), (10, 4603804719079489536), (11, 4604367669032910848), (12, 4604930618986332160), (13, 4605493568939753472), (14, 4606056518893174784), (15, 4606619468846596096), (16, 4607182418800017408)]
noncomputable def TL : List (Nat × Nat) := [(0, 0), (120, 4594314991293244562), (168, 4596373779694328218), (210, 4598175219545276416), (280, 4599676419421066581), (360, 4601392076421969627), (420, 4602678819172646912), (504, 4603579539098121011), (560, 4604180019048437077), (600, 4604608933298662839), (630, 4604930618986332160), (840, 4607182418800017408)]

noncomputable def okT (T : List (Nat × Nat)) : Bool := T.all fun p => Nat.blt p.1 6000 && Nat.blt p.2 (2047 * 2 ^ 52)
noncomputable def incT : List (Nat × Nat) → Bool
  | [] => true
  | t :: T => (T.all fun u => Nat.blt t.1 u.1 && Nat.blt t.2 u.2) && incT T
theorem incT_cmp {T : List (Nat × Nat)} (h : incT T = true) : ∀ a ∈ T, ∀ b ∈ T, a = b ∨ (a.1 < b.1 ∧ a.2 < b.2) ∨ (b.1 < a.1 ∧ b.2 < a.2) := by
  induction T with
  | nil => intro a ha; cases ha
  | cons t T ih =>
    unfold incT at h
    rw [Bool.and_eq_true, List.all_eq_true] at h
    have lt : ∀ u ∈ T, t.1 < u.1 ∧ t.2 < u.2 := fun u hu => by
      have := h.1 u hu
      rw [Bool.and_eq_true] at this
      exact ⟨Nat.blt_eq ▸ this.1, Nat.blt_eq ▸ this.2⟩
    intro a ha b hb
    rcases List.mem_cons.mp ha with ea | ha'
    · rcases List.mem_cons.mp hb with eb | hb'
      · exact .inl (ea.trans eb.symm)
      · rw [ea]; exact .inr (.inl (lt b hb'))
    · rcases List.mem_cons.mp hb with eb | hb'
      · rw [eb]; exact .inr (.inr (lt a ha'))
      · exact ih h.2 a ha' b hb'
theorem TH_inc : incT TH = true := by decide +kernel
theorem TS_inc : incT TS = true := by decide +kernel
theorem TV_inc : incT TV = true := by decide +kernel
theorem TG_inc : incT TG = true := by decide +kernel
theorem TL_inc : incT TL = true := by decide +kernel
theorem TH_ok : okT TH = true := by decide +kernel
theorem TS_ok : okT TS = true := by decide +kernel
theorem TV_ok : okT TV = true := by decide +kernel
theorem TG_ok : okT TG = true := by decide +kernel
theorem TL_ok : okT TL = true := by decide +kernel
theorem okT_at {T : List (Nat × Nat)} (h : okT T = true) {p : Nat × Nat} (hp : p ∈ T) : p.1 < 6000 ∧ p.2 < 2047 * 2 ^ 52 := by
  have := List.all_eq_true.mp h p hp
  rw [Bool.and_eq_true] at this
  exact ⟨Nat.blt_eq ▸ this.1, Nat.blt_eq ▸ this.2⟩
/- finite doubles that are not negative are ordered as their bits -/
theorem dec_bits {x : UInt64} (hx : x.toNat < 2047 * 2 ^ 52) : ∃ m e : Nat, 1 ≤ e ∧ m < 2 ^ 53 ∧ (2 ≤ e → 2 ^ 52 ≤ m) ∧ x.toNat = (e - 1) * 2 ^ 52 + m ∧ Float64.decode x = .fin false m ((e : Int) - 1075) := by
  have h1 : x.toNat / 2 ^ 63 = 0 := Nat.div_eq_of_lt (by omega)
  have h2 : x.toNat / 2 ^ 52 % 2048 = x.toNat / 2 ^ 52 := Nat.mod_eq_of_lt (by omega)
  have h3 := Nat.div_add_mod x.toNat (2 ^ 52)
  have h4 := Nat.mod_lt x.toNat (show 2 ^ 52 > 0 by decide)
  have h5 : x.toNat / 2 ^ 52 < 2047 := by omega
  unfold Float64.decode
  simp only [h1, h2]
  rw [if_neg (by simp; omega)]
  by_cases h0 : x.toNat / 2 ^ 52 = 0
  · refine ⟨x.toNat % 2 ^ 52, 1, by omega, by omega, by omega, by omega, ?_⟩
    rw [if_pos (by simp [h0])]
    rfl
  · refine ⟨2 ^ 52 + x.toNat % 2 ^ 52, x.toNat / 2 ^ 52, by omega, by omega, by omega, ?_, ?_⟩
    · have : (x.toNat / 2 ^ 52 - 1) * 2 ^ 52 = x.toNat / 2 ^ 52 * 2 ^ 52 - 2 ^ 52 := by rw [Nat.sub_mul, Nat.one_mul]
      omega
    · rw [if_neg (by simp [h0])]
      rfl
theorem cmpI_lt {a b : Nat} (h : a < b) : compare (a : Int) (b : Int) = .lt := by
  show compareOfLessAndEq (a : Int) (b : Int) = _
  unfold compareOfLessAndEq; rw [if_pos (by omega)]
theorem cmpI_gt {a b : Nat} (h : b < a) : compare (a : Int) (b : Int) = .gt := by
  show compareOfLessAndEq (a : Int) (b : Int) = _
  unfold compareOfLessAndEq; rw [if_neg (by omega), if_neg (by omega)]
theorem cmpI_eq {a b : Nat} (h : a = b) : compare (a : Int) (b : Int) = .eq := by
  show compareOfLessAndEq (a : Int) (b : Int) = _
  unfold compareOfLessAndEq; rw [if_neg (by omega), if_pos (by omega)]
theorem cmp_bits {x y : UInt64} (hx : x.toNat < 2047 * 2 ^ 52) (hy : y.toNat < 2047 * 2 ^ 52) : Float64.cmp x y = some (compare (x.toNat : Int) (y.toNat : Int)) := by
  obtain ⟨m, e, e1, m1, m2, ex, dx⟩ := dec_bits hx
  obtain ⟨k, f, f1, k1, k2, ey, dy⟩ := dec_bits hy
  unfold Float64.cmp
  rw [dx, dy]
  simp only [Float64.align, Float64.sgn, Bool.false_eq_true, if_false]
  congr 1
  rcases Nat.lt_trichotomy e f with h | h | h
  · have g : min ((e : Int) - 1075) ((f : Int) - 1075) = (e : Int) - 1075 := by omega
    have t1 : ((e : Int) - 1075 - ((e : Int) - 1075)).toNat = 0 := by omega
    have t2 : ((f : Int) - 1075 - ((e : Int) - 1075)).toNat = f - e := by omega
    rw [g, t1, t2, Nat.pow_zero, Nat.mul_one]
    have q : 2 ≤ 2 ^ (f - e) := by
      have : 2 ^ 1 ≤ 2 ^ (f - e) := Nat.pow_le_pow_right (by decide) (by omega)
      omega
    have k3 := k2 (by omega)
    have w : 2 ^ 52 * 2 ≤ k * 2 ^ (f - e) := Nat.mul_le_mul k3 q
    have z : (e - 1) * 2 ^ 52 + 2 ^ 52 ≤ (f - 1) * 2 ^ 52 := by
      have : (e - 1 + 1) * 2 ^ 52 ≤ (f - 1) * 2 ^ 52 := Nat.mul_le_mul_right _ (by omega)
      rw [Nat.add_mul, Nat.one_mul] at this
      exact this
    rw [cmpI_lt (show m < k * 2 ^ (f - e) by omega), cmpI_lt (by omega)]
  · subst h
    have t1 : ((e : Int) - 1075 - ((e : Int) - 1075)).toNat = 0 := by omega
    rw [show min ((e : Int) - 1075) ((e : Int) - 1075) = (e : Int) - 1075 by omega, t1, Nat.pow_zero, Nat.mul_one, Nat.mul_one]
    rcases Nat.lt_trichotomy m k with h | h | h
    · rw [cmpI_lt h, cmpI_lt (by omega)]
    · rw [cmpI_eq h, cmpI_eq (by omega)]
    · rw [cmpI_gt h, cmpI_gt (by omega)]
  · have g : min ((e : Int) - 1075) ((f : Int) - 1075) = (f : Int) - 1075 := by omega
    have t1 : ((f : Int) - 1075 - ((f : Int) - 1075)).toNat = 0 := by omega
    have t2 : ((e : Int) - 1075 - ((f : Int) - 1075)).toNat = e - f := by omega
    rw [g, t1, t2, Nat.pow_zero, Nat.mul_one]
    have q : 2 ≤ 2 ^ (e - f) := by
      have : 2 ^ 1 ≤ 2 ^ (e - f) := Nat.pow_le_pow_right (by decide) (by omega)
      omega
    have k3 := m2 (by omega)
    have w : 2 ^ 52 * 2 ≤ m * 2 ^ (e - f) := Nat.mul_le_mul k3 q
    have z : (f - 1) * 2 ^ 52 + 2 ^ 52 ≤ (e - 1) * 2 ^ 52 := by
      have : (f - 1 + 1) * 2 ^ 52 ≤ (e - 1) * 2 ^ 52 := Nat.mul_le_mul_right _ (by omega)
      rw [Nat.add_mul, Nat.one_mul] at this
      exact this
    rw [cmpI_gt (show k < m * 2 ^ (e - f) by omega), cmpI_gt (by omega)]
end
section
noncomputable def hueC (p q r s : Int) : UInt64 :=
  let rc := Float64.div (e8 p) (e8 s)
  let gc := Float64.div (e8 q) (e8 s)
  let bc := Float64.div (e8 r) (e8 s)
  let h := bif decide (p = 0) then Float64.sub bc gc else bif decide (q = 0) then Float64.sub (Float64.add 4611686018427387904 rc) bc else Float64.sub (Float64.add 4616189618054758400 gc) rc
  (Float64.divmod (Float64.div h 4618441417868443648) 4607182418800017408).2
noncomputable def satC (hi s : Int) : UInt64 := Float64.div (e8 s) (e8 hi)
noncomputable def ligC (hi lo : Int) : UInt64 := Float64.div (Float64.add (e8 hi) (e8 lo)) 4611686018427387904
noncomputable def slC (hi lo s : Int) : UInt64 := bif fLe (ligC hi lo) 4602678819172646912 then Float64.div (e8 s) (Float64.add (e8 hi) (e8 lo)) else Float64.div (e8 s) (Float64.sub (Float64.sub 4611686018427387904 (e8 hi)) (e8 lo))
noncomputable def m2C (lig sl : UInt64) : UInt64 := bif fLe lig 4602678819172646912 then Float64.mul lig (Float64.add 4607182418800017408 sl) else Float64.sub (Float64.add lig sl) (Float64.mul lig sl)
noncomputable def wheelC (p q r s : Int) : Int :=
  let sx := sixthF (3 * idx3 p q r 0 + idx3 p q r s)
  let way := if sx.fmod 2 = 0 then 2 * s - (p + q + r) else (p + q + r) - s
  ((840 * (sx * s + way)).fdiv s).fmod 5040
noncomputable def satR (hi s : Int) : Int := (840 * s).fdiv hi
noncomputable def slR (hi lo s : Int) : Int := (840 * s).fdiv (if lo + hi ≤ 8 then lo + hi else 16 - (lo + hi))
noncomputable def rndB (x : UInt64) (a : Int) : Bool := !Float64.isNaN (Float64.mul 4620693217682128896 x) && (!Float64.isInf (Float64.mul 4620693217682128896 x) && decide (rnd x = a))
noncomputable def rndS (x : UInt64) (a : Int) : Bool := stU x fun x => stU (Float64.mul 4620693217682128896 x) fun y => !Float64.isNaN y && (!Float64.isInf y && decide (PySem.Flt.toInt Float64.nearestOf y = a))
theorem rndS_ok {x : UInt64} {a : Int} (h : rndS x a = true) : RndOk x a := by
  simp only [rndS, stU_eq, Bool.and_eq_true, Bool.not_eq_true', decide_eq_true_eq] at h
  exact h
noncomputable def hueK (p q r s : Nat) (k : UInt64 → Bool) : Bool :=
  stU (e8 s) fun es => stU (e8 p) fun ep => stU (e8 q) fun eq => stU (e8 r) fun er =>
  stU (Float64.div ep es) fun rc => stU (Float64.div eq es) fun gc => stU (Float64.div er es) fun bc =>
  stU (bif decide ((p : Int) = 0) then Float64.sub bc gc else bif decide ((q : Int) = 0) then Float64.sub (Float64.add 4611686018427387904 rc) bc else Float64.sub (Float64.add 4616189618054758400 gc) rc) fun h =>
  stU (Float64.div h 4618441417868443648) fun h => stU (Float64.divmod h 4607182418800017408).2 k
theorem hueK_eq (p q r s : Nat) (k : UInt64 → Bool) : hueK p q r s k = k (hueC p q r s) := by simp only [hueK, stU_eq, hueC]
noncomputable abbrev Dat6 := UInt64 × UInt64 × UInt64 × UInt64 × UInt64 × UInt64
noncomputable def dataC (hi lo s : Int) : Dat6 :=
  let m2 := m2C (ligC hi lo) (slC hi lo s)
  let m1 := Float64.sub (Float64.mul 4611686018427387904 (ligC hi lo)) m2
  (e8 hi, satC hi s, Float64.mul (e8 hi) (Float64.sub 4607182418800017408 (satC hi s)), m1, m2, Float64.sub m2 m1)
noncomputable def pairOk (hi lo s : Int) : Bool :=
  Nat.beq (lk TS (satR hi s).toNat) (satC hi s).toNat && (decide (0 ≤ satR hi s) && (Nat.beq (lk TL (slR hi lo s).toNat) (slC hi lo s).toNat && (decide (0 ≤ slR hi lo s) && (!fEq (satC hi s) 0 && !fEq (slC hi lo s) 0))))
noncomputable def dataK (hi lo s : Nat) (k : Dat6 → Bool) : Bool :=
  stU (e8 hi) fun v => stU (e8 lo) fun w => stU (e8 s) fun d => stU (Float64.div d v) fun sat => stU (Float64.mul v (Float64.sub 4607182418800017408 sat)) fun P =>
  stU (Float64.add v w) fun sm => stU (Float64.div sm 4611686018427387904) fun lig =>
  stU (bif fLe lig 4602678819172646912 then Float64.div d sm else Float64.div d (Float64.sub (Float64.sub 4611686018427387904 v) w)) fun sl =>
  stU (m2C lig sl) fun m2 => stU (Float64.sub (Float64.mul 4611686018427387904 lig) m2) fun m1 => stU (Float64.sub m2 m1) fun dm =>
  (Nat.beq (lk TS (satR hi s).toNat) sat.toNat && (decide (0 ≤ satR hi s) && (Nat.beq (lk TL (slR hi lo s).toNat) sl.toNat && (decide (0 ≤ slR hi lo s) && (!fEq sat 0 && !fEq sl 0))))) && k (v, sat, P, m1, m2, dm)
theorem dataK_eq (hi lo s : Nat) (k : Dat6 → Bool) : dataK hi lo s k = (pairOk hi lo s && k (dataC hi lo s)) := by
  simp only [dataK, stU_eq]; rfl
noncomputable def pairsK (s : Nat) : List Nat → (List (Nat × Dat6) → Bool) → Bool
  | [], k => k []
  | j :: js, k => dataK (s + j) j s fun d => pairsK s js fun ds => k ((s + j, d) :: ds)
theorem pairsK_ok {s : Nat} : ∀ {js : List Nat} {k : List (Nat × Dat6) → Bool}, pairsK s js k = true →
    (∀ j ∈ js, pairOk ((s + j : Nat) : Int) (j : Nat) s = true) ∧ k (js.map fun j => (s + j, dataC ((s + j : Nat) : Int) (j : Nat) s)) = true
  | [], k, h => ⟨fun _ hj => (nomatch hj), h⟩
  | j :: js, k, h => by
    unfold pairsK at h
    rw [dataK_eq, Bool.and_eq_true] at h
    obtain ⟨a, b⟩ := pairsK_ok h.2
    refine ⟨fun i hi => ?_, b⟩
    rcases List.mem_cons.mp hi with rfl | hi
    · exact h.1
    · exact a i hi
noncomputable def vK (m1 m2 dm h : UInt64) : UInt64 :=
  bif flt h 4595172819793696085 then Float64.add m1 (Float64.mul (Float64.mul dm h) 4618441417868443648)
  else bif flt h 4602678819172646912 then m2
  else bif flt h 4604180019048437077 then Float64.add m1 (Float64.mul (Float64.mul dm (Float64.sub 4604180019048437077 h)) 4618441417868443648)
  else m1
noncomputable def svB (I : Int) (f g : UInt64) (d : Dat6) (a b c : Int) : Bool :=
  if I.fmod 6 = 0 then rndS d.1 a && (rndS (Float64.mul d.1 (Float64.sub 4607182418800017408 (Float64.mul d.2.1 g))) b && rndS d.2.2.1 c)
  else if I.fmod 6 = 1 then rndS (Float64.mul d.1 (Float64.sub 4607182418800017408 (Float64.mul d.2.1 f))) a && (rndS d.1 b && rndS d.2.2.1 c)
  else if I.fmod 6 = 2 then rndS d.2.2.1 a && (rndS d.1 b && rndS (Float64.mul d.1 (Float64.sub 4607182418800017408 (Float64.mul d.2.1 g))) c)
  else if I.fmod 6 = 3 then rndS d.2.2.1 a && (rndS (Float64.mul d.1 (Float64.sub 4607182418800017408 (Float64.mul d.2.1 f))) b && rndS d.1 c)
  else if I.fmod 6 = 4 then rndS (Float64.mul d.1 (Float64.sub 4607182418800017408 (Float64.mul d.2.1 g))) a && (rndS d.2.2.1 b && rndS d.1 c)
  else rndS d.1 a && (rndS d.2.2.1 b && rndS (Float64.mul d.1 (Float64.sub 4607182418800017408 (Float64.mul d.2.1 f))) c)
noncomputable def hlB (k1 k0 k2 : UInt64) (d : Dat6) (a b c : Int) : Bool :=
  rndS (vK d.2.2.2.1 d.2.2.2.2.1 d.2.2.2.2.2 k1) a && (rndS (vK d.2.2.2.1 d.2.2.2.2.1 d.2.2.2.2.2 k0) b && rndS (vK d.2.2.2.1 d.2.2.2.2.1 d.2.2.2.2.2 k2) c)
noncomputable def triB (s p q r : Nat) (ps : List (Nat × Dat6)) : Bool :=
  hueK p q r s fun h => Nat.beq (lk TH (wheelC p q r s).toNat) h.toNat && (decide (0 ≤ wheelC p q r s) &&
    stU (Float64.mul h 4618441417868443648) fun h6 => !Float64.isNaN h6 && (!Float64.isInf h6 &&
    stI (PySem.Flt.toInt Float64.truncOf h6) fun I => decide (I.natAbs < 2 ^ 1024 - 2 ^ 970) &&
    stU (Float64.sub h6 (Float64.ofInt I)) fun f => stU (Float64.sub 4607182418800017408 f) fun g =>
    stU (Float64.divmod (Float64.add h 4599676419421066581) 4607182418800017408).2 fun k1 => stU (Float64.divmod h 4607182418800017408).2 fun k0 => stU (Float64.divmod (Float64.sub h 4599676419421066581) 4607182418800017408).2 fun k2 =>
    ps.all fun d => svB I f g d.2 ((d.1 : Int) - p) ((d.1 : Int) - q) ((d.1 : Int) - r) && hlB k1 k0 k2 d.2 ((d.1 : Int) - p) ((d.1 : Int) - q) ((d.1 : Int) - r)))
noncomputable def chkS (s : Nat) : Bool := pairsK s (List.range (9 - s)) fun ps => (List.range (s + 1)).all fun p => (List.range (s + 1)).all fun q => (List.range (s + 1)).all fun r =>
  bif Nat.beq (p * q * r) 0 && Nat.beq ((s - p) * (s - q) * (s - r)) 0 then triB s p q r ps else true
theorem chk1 : chkS 1 = true := by decide +kernel
theorem chk2 : chkS 2 = true := by decide +kernel
theorem chk3 : chkS 3 = true := by decide +kernel
theorem chk4 : chkS 4 = true := by decide +kernel
theorem chk5 : chkS 5 = true := by decide +kernel
theorem chk6 : chkS 6 = true := by decide +kernel
theorem chk7 : chkS 7 = true := by decide +kernel
theorem chk8 : chkS 8 = true := by decide +kernel
theorem chk_all {s : Nat} (h1 : 1 ≤ s) (h8 : s ≤ 8) : chkS s = true := by
  match s with
  | 1 => exact chk1
  | 2 => exact chk2
  | 3 => exact chk3
  | 4 => exact chk4
  | 5 => exact chk5
  | 6 => exact chk6
  | 7 => exact chk7
  | 8 => exact chk8
  | 0 => omega
  | n + 9 => omega
end
section
noncomputable def chkV : Bool := (List.range 9).all fun a => Nat.beq (lk TV a) (e8 (a : Int)).toNat && (rndS (e8 (a : Int)) a && rndS (ligC (a : Int) (a : Int)) a)
theorem chkV_ok : chkV = true := by decide +kernel
noncomputable def chkD : Bool := (List.range 9).all fun a => (List.range (a + 1)).all fun b => Nat.beq (Float64.sub (e8 (a : Int)) (e8 (b : Int))).toNat (e8 ((a - b : Nat) : Int)).toNat
theorem chkD_ok : chkD = true := by decide +kernel
noncomputable def chkG : Bool := (List.range 9).all fun a => (List.range 9).all fun b => Nat.beq (lk TG (b + a)) (ligC (a : Int) (b : Int)).toNat
theorem chkG_ok : chkG = true := by decide +kernel
noncomputable def chkZ : Bool := (List.range 9).all fun a => (List.range a).all fun b => !Float64.isZero (e8 (a : Int)) && (!Float64.isZero (Float64.add (e8 (a : Int)) (e8 (b : Int))) && (!Float64.isZero (Float64.sub (e8 (a : Int)) (e8 (b : Int))) && !Float64.isZero (Float64.sub (Float64.sub 4611686018427387904 (e8 (a : Int))) (e8 (b : Int)))))
theorem chkZ_ok : chkZ = true := by decide +kernel
theorem toNat_inj {a b : UInt64} (h : a.toNat = b.toNat) : a = b := UInt64.toNat_inj.mp h
theorem beq_nat {a b : Nat} (h : Nat.beq a b = true) : a = b := Nat.eq_of_beq_eq_true h
theorem lt70 {x : UInt64} : x.toNat < 2 ^ 70 := Nat.lt_of_lt_of_le x.toNat_lt (by decide)
/-- what a column's place is worth: rank and bits stand in the table -/
noncomputable def At (T : List (Nat × Nat)) (n : Int) (x : UInt64) : Prop := ∃ k : Nat, n = k ∧ (k, x.toNat) ∈ T
theorem At.of {T : List (Nat × Nat)} {n : Int} {x : UInt64} (h0 : 0 ≤ n) (h : Nat.beq (lk T n.toNat) x.toNat = true) : At T n x :=
  ⟨n.toNat, by omega, lk_mem (beq_nat h) lt70⟩
theorem At.bnd {T : List (Nat × Nat)} {n : Int} {x : UInt64} (hT : okT T = true) (h : At T n x) : 0 ≤ n ∧ n < 6000 := by
  obtain ⟨k, rfl, hm⟩ := h
  have := okT_at hT hm
  dsimp only at this
  omega
theorem At.cmp {T : List (Nat × Nat)} {n m : Int} {x y : UInt64} (hT : okT T = true) (hI : incT T = true) (h : At T n x) (g : At T m y) : (n < m → Float64.cmp x y = some .lt) ∧ (n = m → Float64.cmp x y = some .eq) ∧ (m < n → Float64.cmp x y = some .gt) := by
  obtain ⟨k, rfl, hm⟩ := h
  obtain ⟨l, rfl, gm⟩ := g
  have a := okT_at hT hm
  have b := okT_at hT gm
  have c := incT_cmp hI _ hm _ gm
  dsimp only at a b c
  rw [cmp_bits a.2 b.2]
  simp only [Prod.mk.injEq] at c
  refine ⟨fun q => ?_, fun q => ?_, fun q => ?_⟩
  · rw [cmpI_lt (by omega)]
  · rw [cmpI_eq (by omega)]
  · rw [cmpI_gt (by omega)]
section
variable {a b : Int}
theorem e8_at (ha : 0 ≤ a ∧ a ≤ 8) : At TV a (e8 a) := by
  have h := List.all_eq_true.mp chkV_ok a.toNat (by rw [List.mem_range]; omega)
  rw [Bool.and_eq_true] at h
  refine At.of ha.1 ?_
  rw [show ((a.toNat : Nat) : Int) = a by omega] at h
  exact h.1
theorem e8_cmp (ha : 0 ≤ a ∧ a ≤ 8) (hb : 0 ≤ b ∧ b ≤ 8) : (a < b → Float64.cmp (e8 a) (e8 b) = some .lt) ∧ (a = b → Float64.cmp (e8 a) (e8 b) = some .eq) ∧ (b < a → Float64.cmp (e8 a) (e8 b) = some .gt) := At.cmp TV_ok TV_inc (e8_at ha) (e8_at hb)
theorem flt_e8 (ha : 0 ≤ a ∧ a ≤ 8) (hb : 0 ≤ b ∧ b ≤ 8) : flt (e8 a) (e8 b) = decide (a < b) := by
  obtain ⟨h1, h2, h3⟩ := e8_cmp ha hb
  unfold flt
  rcases Int.lt_trichotomy a b with h | h | h
  · rw [h1 h, decide_eq_true h]; rfl
  · rw [h2 h, decide_eq_false (by omega)]; rfl
  · rw [h3 h, decide_eq_false (by omega)]; rfl
theorem fEq_e8 (ha : 0 ≤ a ∧ a ≤ 8) (hb : 0 ≤ b ∧ b ≤ 8) : fEq (e8 a) (e8 b) = decide (a = b) := by
  obtain ⟨h1, h2, h3⟩ := e8_cmp ha hb
  unfold fEq
  rcases Int.lt_trichotomy a b with h | h | h
  · rw [h1 h, decide_eq_false (by omega)]; rfl
  · rw [h2 h, decide_eq_true h]; rfl
  · rw [h3 h, decide_eq_false (by omega)]; rfl
theorem sub_e8 (ha : 0 ≤ a ∧ a ≤ 8) (hb : 0 ≤ b ∧ b ≤ 8) (hab : b ≤ a) : Float64.sub (e8 a) (e8 b) = e8 (a - b) := by
  have h := List.all_eq_true.mp (List.all_eq_true.mp chkD_ok a.toNat (by rw [List.mem_range]; omega)) b.toNat (by rw [List.mem_range]; omega)
  rw [show ((a.toNat : Nat) : Int) = a by omega, show ((b.toNat : Nat) : Int) = b by omega, show ((a.toNat - b.toNat : Nat) : Int) = a - b by omega] at h
  exact toNat_inj (beq_nat h)
theorem lig_at (ha : 0 ≤ a ∧ a ≤ 8) (hb : 0 ≤ b ∧ b ≤ 8) : At TG (b + a) (ligC a b) := by
  have h := List.all_eq_true.mp (List.all_eq_true.mp chkG_ok a.toNat (by rw [List.mem_range]; omega)) b.toNat (by rw [List.mem_range]; omega)
  rw [show ((a.toNat : Nat) : Int) = a by omega, show ((b.toNat : Nat) : Int) = b by omega] at h
  refine At.of (by omega) ?_
  rw [show (b + a).toNat = b.toNat + a.toNat by omega]
  exact h
theorem zero_e8 (ha : 0 ≤ a ∧ a ≤ 8) (hb : 0 ≤ b ∧ b ≤ 8) (hab : b < a) : Float64.isZero (e8 a) = false ∧ Float64.isZero (Float64.add (e8 a) (e8 b)) = false ∧ Float64.isZero (Float64.sub (e8 a) (e8 b)) = false ∧ Float64.isZero (Float64.sub (Float64.sub 4611686018427387904 (e8 a)) (e8 b)) = false := by
  have h := List.all_eq_true.mp (List.all_eq_true.mp chkZ_ok a.toNat (by rw [List.mem_range]; omega)) b.toNat (by rw [List.mem_range]; omega)
  rw [show ((a.toNat : Nat) : Int) = a by omega, show ((b.toNat : Nat) : Int) = b by omega] at h
  simp only [Bool.and_eq_true, Bool.not_eq_true'] at h
  exact h
theorem grey_back (ha : 0 ≤ a ∧ a ≤ 8) : RndOk (e8 a) a ∧ RndOk (ligC a a) a := by
  have h := List.all_eq_true.mp chkV_ok a.toNat (by rw [List.mem_range]; omega)
  rw [show ((a.toNat : Nat) : Int) = a by omega, Bool.and_eq_true, Bool.and_eq_true] at h
  exact ⟨rndS_ok h.2.1, rndS_ok h.2.2⟩
end
section
variable {x y z : Int}
theorem hi_bnd (bx : 0 ≤ x ∧ x ≤ 8) (bY : 0 ≤ y ∧ y ≤ 8) (bz : 0 ≤ z ∧ z ≤ 8) : 0 ≤ hi3 x y z ∧ hi3 x y z ≤ 8 := by unfold hi3; omega
theorem lo_bnd (bx : 0 ≤ x ∧ x ≤ 8) (bY : 0 ≤ y ∧ y ≤ 8) (bz : 0 ≤ z ∧ z ≤ 8) : 0 ≤ lo3 x y z ∧ lo3 x y z ≤ 8 := by unfold lo3; omega
theorem lo_hi : lo3 x y z ≤ hi3 x y z := by unfold lo3 hi3; omega
theorem fmax_e8 (bx : 0 ≤ x ∧ x ≤ 8) (bY : 0 ≤ y ∧ y ≤ 8) (bz : 0 ≤ z ∧ z ≤ 8) : fmax3 (e8 x) (e8 y) (e8 z) = e8 (hi3 x y z) := by
  unfold fmax3
  rw [flt_e8 bx bY, flt_e8 bY bz, flt_e8 bx bz]
  simp only [decide_eq_true_eq]
  split <;> split <;> exact congrArg e8 (by unfold hi3; omega)
theorem fmin_e8 (bx : 0 ≤ x ∧ x ≤ 8) (bY : 0 ≤ y ∧ y ≤ 8) (bz : 0 ≤ z ∧ z ≤ 8) : fmin3 (e8 x) (e8 y) (e8 z) = e8 (lo3 x y z) := by
  unfold fmin3
  rw [flt_e8 bY bx, flt_e8 bz bY, flt_e8 bz bx]
  simp only [decide_eq_true_eq]
  split <;> split <;> exact congrArg e8 (by unfold lo3; omega)
end
theorem okS_of {c : Col} (h : InB c) : OkS (e8 c.1) (e8 c.2.1) (e8 c.2.2) := by
  obtain ⟨x, y, z⟩ := c
  obtain ⟨bx, bY, bz⟩ := h
  intro hne
  dsimp only at *
  rw [fmax_e8 bx bY bz, fmin_e8 bx bY bz] at *
  rw [fEq_e8 (lo_bnd bx bY bz) (hi_bnd bx bY bz), decide_eq_false_iff_not] at hne
  obtain ⟨z1, z2, z3, z4⟩ := zero_e8 (hi_bnd bx bY bz) (lo_bnd bx bY bz) (by have := lo_hi (x := x) (y := y) (z := z); omega)
  exact ⟨z1, z3⟩
theorem okL_of {c : Col} (h : InB c) : OkL (e8 c.1) (e8 c.2.1) (e8 c.2.2) := by
  obtain ⟨x, y, z⟩ := c
  obtain ⟨bx, bY, bz⟩ := h
  intro hne
  dsimp only at *
  rw [fmax_e8 bx bY bz, fmin_e8 bx bY bz] at *
  rw [fEq_e8 (lo_bnd bx bY bz) (hi_bnd bx bY bz), decide_eq_false_iff_not] at hne
  obtain ⟨z1, z2, z3, z4⟩ := zero_e8 (hi_bnd bx bY bz) (lo_bnd bx bY bz) (by have := lo_hi (x := x) (y := y) (z := z); omega)
  exact ⟨z2, z3, z4⟩
end
section
structure Tri (p q r s hi lo : Int) : Prop where
  hue : At TH (wheelC p q r s) (hueC p q r s)
  nan : Float64.isNaN (Float64.mul (hueC p q r s) 4618441417868443648) = false
  inf : Float64.isInf (Float64.mul (hueC p q r s) 4618441417868443648) = false
  big : (sixth (hueC p q r s)).natAbs < 2 ^ 1024 - 2 ^ 970
  sv : svB (sixth (hueC p q r s)) (Float64.sub (Float64.mul (hueC p q r s) 4618441417868443648) (Float64.ofInt (sixth (hueC p q r s)))) (Float64.sub 4607182418800017408 (Float64.sub (Float64.mul (hueC p q r s) 4618441417868443648) (Float64.ofInt (sixth (hueC p q r s))))) (dataC hi lo s) (hi - p) (hi - q) (hi - r) = true
  hl : hlB (Float64.divmod (Float64.add (hueC p q r s) 4599676419421066581) 4607182418800017408).2 (Float64.divmod (hueC p q r s) 4607182418800017408).2 (Float64.divmod (Float64.sub (hueC p q r s) 4599676419421066581) 4607182418800017408).2 (dataC hi lo s) (hi - p) (hi - q) (hi - r) = true
structure Pair (s hi lo : Int) : Prop where
  sat : At TS (satR hi s) (satC hi s)
  sl : At TL (slR hi lo s) (slC hi lo s)
  satn : fEq (satC hi s) 0 = false
  sln : fEq (slC hi lo s) 0 = false
theorem chk_use {s p q r j : Nat} (s1 : 1 ≤ s) (hj : s + j ≤ 8) (hp : p ≤ s) (hq : q ≤ s) (hr : r ≤ s) (h0 : p * q * r = 0) (hs : (s - p) * (s - q) * (s - r) = 0) : Pair s ((s + j : Nat) : Int) j ∧ Tri p q r s ((s + j : Nat) : Int) j := by
  have h := chk_all s1 (by omega)
  unfold chkS at h
  obtain ⟨a, b⟩ := pairsK_ok h
  have hjm : j ∈ List.range (9 - s) := by rw [List.mem_range]; omega
  have a' := a j hjm
  have b' := List.all_eq_true.mp (List.all_eq_true.mp (List.all_eq_true.mp b p (by rw [List.mem_range]; omega)) q (by rw [List.mem_range]; omega)) r (by rw [List.mem_range]; omega)
  rw [h0, hs] at b'
  replace b' : triB s p q r _ = true := b'
  simp only [triB, hueK_eq, stU_eq, stI_eq, Bool.and_eq_true, Bool.not_eq_true', decide_eq_true_eq] at b'
  obtain ⟨t1, t2, t3, t4, t5, t6⟩ := b'
  have t7 := List.all_eq_true.mp t6 _ (List.mem_map_of_mem hjm)
  rw [Bool.and_eq_true] at t7
  simp only [pairOk, Bool.and_eq_true, Bool.not_eq_true', decide_eq_true_eq] at a'
  obtain ⟨u1, u2, u3, u4, u5, u6⟩ := a'
  exact ⟨⟨At.of u2 u1, At.of u4 u3, u5, u6⟩, ⟨At.of t2 t1, t3, t4, t5, t7.1, t7.2⟩⟩
theorem fmod6 (I : Int) : I.fmod 6 = 0 ∨ I.fmod 6 = 1 ∨ I.fmod 6 = 2 ∨ I.fmod 6 = 3 ∨ I.fmod 6 = 4 ∨ I.fmod 6 = 5 := fmod_six I
theorem sv_ok {h sat v : UInt64} {P m1 m2 dm : UInt64} {a b c : Int} (hP : P = Float64.mul v (Float64.sub 4607182418800017408 sat)) (hn : fEq sat 0 = false)
    (hs : svB (sixth h) (Float64.sub (Float64.mul h 4618441417868443648) (Float64.ofInt (sixth h))) (Float64.sub 4607182418800017408 (Float64.sub (Float64.mul h 4618441417868443648) (Float64.ofInt (sixth h)))) (v, sat, P, m1, m2, dm) a b c = true) :
    RndOk (hsv2rgb h sat v).1 a ∧ RndOk (hsv2rgb h sat v).2.1 b ∧ RndOk (hsv2rgb h sat v).2.2 c := by
  subst hP
  unfold svB at hs
  unfold hsv2rgb
  simp only [hn, cond_false] at hs ⊢
  rcases fmod6 (sixth h) with e | e | e | e | e | e <;> simp only [e] at hs ⊢ <;> simp only [if_true, reduceCtorEq, if_false, Int.reduceEq, Int.zero_ne_one] at hs ⊢ <;> simp only [Bool.and_eq_true] at hs <;>
    exact ⟨rndS_ok hs.1, rndS_ok hs.2.1, rndS_ok hs.2.2⟩
theorem hl_ok {h lig sl v sat P : UInt64} {a b c : Int} (hn : fEq sl 0 = false)
    (hs : hlB (Float64.divmod (Float64.add h 4599676419421066581) 4607182418800017408).2 (Float64.divmod h 4607182418800017408).2 (Float64.divmod (Float64.sub h 4599676419421066581) 4607182418800017408).2 (v, sat, P, Float64.sub (Float64.mul 4611686018427387904 lig) (m2C lig sl), m2C lig sl, Float64.sub (m2C lig sl) (Float64.sub (Float64.mul 4611686018427387904 lig) (m2C lig sl))) a b c = true) :
    RndOk (hls2rgb h lig sl).1 a ∧ RndOk (hls2rgb h lig sl).2.1 b ∧ RndOk (hls2rgb h lig sl).2.2 c := by
  unfold hlB at hs
  simp only [Bool.and_eq_true] at hs
  unfold hls2rgb
  simp only [hn, cond_false]
  exact ⟨rndS_ok hs.1, rndS_ok hs.2.1, rndS_ok hs.2.2⟩
/-- a colour that is not grey: its parts below the highest -/
theorem split_col {x y z : Int} (bx : 0 ≤ x ∧ x ≤ 8) (bY : 0 ≤ y ∧ y ≤ 8) (bz : 0 ≤ z ∧ z ≤ 8) (hne : lo3 x y z ≠ hi3 x y z) :
    ∃ p q r s j : Nat, 1 ≤ s ∧ s + j ≤ 8 ∧ p ≤ s ∧ q ≤ s ∧ r ≤ s ∧ p * q * r = 0 ∧ (s - p) * (s - q) * (s - r) = 0 ∧ x = ((s + j : Nat) : Int) - p ∧ y = ((s + j : Nat) : Int) - q ∧ z = ((s + j : Nat) : Int) - r ∧ hi3 x y z = ((s + j : Nat) : Int) ∧ lo3 x y z = (j : Int) := by
  have a1 := hi_bnd bx bY bz
  have a2 := lo_bnd bx bY bz
  have a3 := lo_hi (x := x) (y := y) (z := z)
  have u1 : x ≤ hi3 x y z ∧ y ≤ hi3 x y z ∧ z ≤ hi3 x y z := by unfold hi3; omega
  have u2 : lo3 x y z ≤ x ∧ lo3 x y z ≤ y ∧ lo3 x y z ≤ z := by unfold lo3; omega
  have m1 := hi3_mem (x := x) (y := y) (z := z)
  have m2 := lo3_mem (x := x) (y := y) (z := z)
  refine ⟨(hi3 x y z - x).toNat, (hi3 x y z - y).toNat, (hi3 x y z - z).toNat, (hi3 x y z - lo3 x y z).toNat, (lo3 x y z).toNat, by omega, by omega, by omega, by omega, by omega, ?_, ?_, by omega, by omega, by omega, by omega, by omega⟩
  · rcases m1 with h | h | h
    · rw [show (hi3 x y z - x).toNat = 0 by omega]; simp
    · rw [show (hi3 x y z - y).toNat = 0 by omega]; simp
    · rw [show (hi3 x y z - z).toNat = 0 by omega]; simp
  · rcases m2 with h | h | h
    · rw [show (hi3 x y z - lo3 x y z).toNat - (hi3 x y z - x).toNat = 0 by omega]; simp
    · rw [show (hi3 x y z - lo3 x y z).toNat - (hi3 x y z - y).toNat = 0 by omega]; simp
    · rw [show (hi3 x y z - lo3 x y z).toNat - (hi3 x y z - z).toNat = 0 by omega]; simp
theorem hue_eq {x y z : Int} (bx : 0 ≤ x ∧ x ≤ 8) (bY : 0 ≤ y ∧ y ≤ 8) (bz : 0 ≤ z ∧ z ≤ 8) :
    rgb2hue (e8 x) (e8 y) (e8 z) = hueC (hi3 x y z - x) (hi3 x y z - y) (hi3 x y z - z) (hi3 x y z - lo3 x y z) := by
  have hh := hi_bnd bx bY bz
  have hl := lo_bnd bx bY bz
  have u1 : x ≤ hi3 x y z ∧ y ≤ hi3 x y z ∧ z ≤ hi3 x y z := by unfold hi3; omega
  have d1 : decide (x = hi3 x y z) = decide (hi3 x y z - x = 0) := decide_eq_decide.mpr (by omega)
  have d2 : decide (y = hi3 x y z) = decide (hi3 x y z - y = 0) := decide_eq_decide.mpr (by omega)
  unfold rgb2hue hueC
  rw [fmax_e8 bx bY bz, fmin_e8 bx bY bz]
  dsimp only
  rw [sub_e8 hh hl lo_hi, sub_e8 hh bx u1.1, sub_e8 hh bY u1.2.1, sub_e8 hh bz u1.2.2, fEq_e8 bx hh, fEq_e8 bY hh, d1, d2]
theorem wheel_eq {x y z : Int} : (let lo := lo3 x y z; let hi := hi3 x y z; let md := md3 x y z; let sp := hi - lo; let sx := sixthF (3 * idx3 x y z hi + idx3 x y z lo); let way := if sx.fmod 2 = 0 then md - lo else hi - md; ((840 * (sx * sp + way)).fdiv sp).fmod 5040) =
    wheelC (hi3 x y z - x) (hi3 x y z - y) (hi3 x y z - z) (hi3 x y z - lo3 x y z) := by
  have i1 : idx3 x y z (hi3 x y z) = idx3 (hi3 x y z - x) (hi3 x y z - y) (hi3 x y z - z) 0 := by
    unfold idx3
    (repeat' split) <;> omega
  have i2 : idx3 x y z (lo3 x y z) = idx3 (hi3 x y z - x) (hi3 x y z - y) (hi3 x y z - z) (hi3 x y z - lo3 x y z) := by
    unfold idx3
    (repeat' split) <;> omega
  unfold wheelC
  dsimp only
  rw [i1, i2, show md3 x y z - lo3 x y z = 2 * (hi3 x y z - lo3 x y z) - (hi3 x y z - x + (hi3 x y z - y) + (hi3 x y z - z)) by unfold md3; omega, show hi3 x y z - md3 x y z = hi3 x y z - x + (hi3 x y z - y) + (hi3 x y z - z) - (hi3 x y z - lo3 x y z) by unfold md3; omega]
end
section
theorem hsv_grey {x y z : Int} (bx : 0 ≤ x ∧ x ≤ 8) (bY : 0 ≤ y ∧ y ≤ 8) (bz : 0 ≤ z ∧ z ≤ 8) (h : lo3 x y z = hi3 x y z) : hsvF (e8 x) (e8 y) (e8 z) = (0, 0, e8 (hi3 x y z)) ∧ hlsF (e8 x) (e8 y) (e8 z) = (0, ligC (hi3 x y z) (hi3 x y z), 0) := by
  unfold hsvF hlsF
  rw [fmax_e8 bx bY bz, fmin_e8 bx bY bz]
  dsimp only
  rw [fEq_e8 (lo_bnd bx bY bz) (hi_bnd bx bY bz), decide_eq_true h, h]
  exact ⟨rfl, rfl⟩
theorem hsv_col {x y z : Int} (bx : 0 ≤ x ∧ x ≤ 8) (bY : 0 ≤ y ∧ y ≤ 8) (bz : 0 ≤ z ∧ z ≤ 8) (h : lo3 x y z ≠ hi3 x y z) :
    hsvF (e8 x) (e8 y) (e8 z) = (hueC (hi3 x y z - x) (hi3 x y z - y) (hi3 x y z - z) (hi3 x y z - lo3 x y z), satC (hi3 x y z) (hi3 x y z - lo3 x y z), e8 (hi3 x y z)) ∧
    hlsF (e8 x) (e8 y) (e8 z) = (hueC (hi3 x y z - x) (hi3 x y z - y) (hi3 x y z - z) (hi3 x y z - lo3 x y z), ligC (hi3 x y z) (lo3 x y z), slC (hi3 x y z) (lo3 x y z) (hi3 x y z - lo3 x y z)) := by
  unfold hsvF hlsF
  rw [hue_eq bx bY bz, fmax_e8 bx bY bz, fmin_e8 bx bY bz]
  dsimp only
  rw [fEq_e8 (lo_bnd bx bY bz) (hi_bnd bx bY bz), decide_eq_false h, sub_e8 (hi_bnd bx bY bz) (lo_bnd bx bY bz) lo_hi]
  exact ⟨rfl, rfl⟩
theorem rk_grey {x y z : Int} (h : lo3 x y z = hi3 x y z) : ranksF x y z = [0, 0, hi3 x y z, 0, lo3 x y z + hi3 x y z, 0] := by
  unfold ranksF
  dsimp only
  rw [if_pos (by omega)]
theorem rk_col {x y z : Int} (h : lo3 x y z ≠ hi3 x y z) : ranksF x y z = [wheelC (hi3 x y z - x) (hi3 x y z - y) (hi3 x y z - z) (hi3 x y z - lo3 x y z), satR (hi3 x y z) (hi3 x y z - lo3 x y z), hi3 x y z, wheelC (hi3 x y z - x) (hi3 x y z - y) (hi3 x y z - z) (hi3 x y z - lo3 x y z), lo3 x y z + hi3 x y z, slR (hi3 x y z) (lo3 x y z) (hi3 x y z - lo3 x y z)] := by
  unfold ranksF
  dsimp only
  rw [if_neg (by omega), ← wheel_eq]
  rfl
/-- the tables of the six columns -/
noncomputable def tabOf : Nat → List (Nat × Nat)
  | 0 => TH
  | 1 => TS
  | 2 => TV
  | 3 => TH
  | 4 => TG
  | _ => TL
theorem tab_ok (k : Nat) : okT (tabOf k) = true ∧ incT (tabOf k) = true := by
  unfold tabOf
  split
  · exact ⟨TH_ok, TH_inc⟩
  · exact ⟨TS_ok, TS_inc⟩
  · exact ⟨TV_ok, TV_inc⟩
  · exact ⟨TH_ok, TH_inc⟩
  · exact ⟨TG_ok, TG_inc⟩
  · exact ⟨TL_ok, TL_inc⟩
theorem at00 {T : List (Nat × Nat)} {U : List (Nat × Nat)} (h : T = (0, 0) :: U) : At T 0 0 := ⟨0, rfl, by rw [h]; exact List.mem_cons_self⟩
theorem tri_of {x y z : Int} (bx : 0 ≤ x ∧ x ≤ 8) (bY : 0 ≤ y ∧ y ≤ 8) (bz : 0 ≤ z ∧ z ≤ 8) (h : lo3 x y z ≠ hi3 x y z) :
    Pair (hi3 x y z - lo3 x y z) (hi3 x y z) (lo3 x y z) ∧ Tri (hi3 x y z - x) (hi3 x y z - y) (hi3 x y z - z) (hi3 x y z - lo3 x y z) (hi3 x y z) (lo3 x y z) := by
  obtain ⟨p, q, r, s, j, s1, hj, hp, hq, hr, h0, hs, ex, ey, ez, eh, el⟩ := split_col bx bY bz h
  have u := chk_use s1 hj hp hq hr h0 hs
  have e1 : hi3 x y z - x = p := by omega
  have e2 : hi3 x y z - y = q := by omega
  have e3 : hi3 x y z - z = r := by omega
  have e4 : hi3 x y z - lo3 x y z = s := by omega
  rw [e1, e2, e3, e4, eh, el]
  exact u
theorem col_at {c : Col} (h : InB c) {k : Nat} (hk : k ≤ 5) : At (tabOf k) ((rk c).getD k 0) ((rowF c).getD k 0) := by
  obtain ⟨x, y, z⟩ := c
  obtain ⟨bx, bY, bz⟩ := h
  dsimp only at bx bY bz
  by_cases hg : lo3 x y z = hi3 x y z
  · have g := hsv_grey bx bY bz hg
    unfold rk rowF
    dsimp only
    rw [g.1, g.2, rk_grey hg]
    match k, hk with
    | 0, _ => exact at00 rfl
    | 1, _ => exact at00 rfl
    | 2, _ => exact e8_at (hi_bnd bx bY bz)
    | 3, _ => exact at00 rfl
    | 4, _ => rw [hg]; exact lig_at (hi_bnd bx bY bz) (hi_bnd bx bY bz)
    | 5, _ => exact at00 rfl
  · have g := hsv_col bx bY bz hg
    obtain ⟨P, T⟩ := tri_of bx bY bz hg
    unfold rk rowF
    dsimp only
    rw [g.1, g.2, rk_col hg]
    match k, hk with
    | 0, _ => exact T.hue
    | 1, _ => exact P.sat
    | 2, _ => exact e8_at (hi_bnd bx bY bz)
    | 3, _ => exact T.hue
    | 4, _ => exact lig_at (hi_bnd bx bY bz) (lo_bnd bx bY bz)
    | 5, _ => exact P.sl
noncomputable abbrev W (c : Col) (a : Int) (ks : List (Int × Int)) : Int := ks.foldl (fun a k => 6000 * a + k.2 * (rk c).getD k.1.toNat 0) a
theorem sgn_pos {d : Int} (h : 0 < d) : sgnF d = 1 := by unfold sgnF; rw [if_neg (by omega), if_pos h]
theorem sgn_neg {d : Int} (h : d < 0) : sgnF d = -1 := by unfold sgnF; rw [if_neg (by omega), if_neg (by omega)]
theorem plain_gen {c d : Col} (hc : InB c) (hd : InB d) : ∀ (ks : List (Int × Int)) (a b : Int), (∀ k ∈ ks, 0 ≤ k.1 ∧ k.1 ≤ 5 ∧ (k.2 = 1 ∨ k.2 = -1)) → sgnF (W c a ks - W d b ks) = if a = b then cmpF (rowF c) (rowF d) ks else sgnF (a - b)
  | [], a, b, _ => by
    show sgnF (a - b) = _
    split
    · rename_i h; subst h; rw [Int.sub_self]; rfl
    · rfl
  | k :: ks, a, b, hk => by
    obtain ⟨k0, k5, kd⟩ := hk k List.mem_cons_self
    have ih := plain_gen hc hd ks (6000 * a + k.2 * (rk c).getD k.1.toNat 0) (6000 * b + k.2 * (rk d).getD k.1.toNat 0) fun k h => hk k (List.mem_cons_of_mem _ h)
    have tc := col_at hc (k := k.1.toNat) (by omega)
    have td := col_at hd (k := k.1.toNat) (by omega)
    have ⟨t1, t2⟩ := tab_ok k.1.toNat
    have bc := tc.bnd t1
    have bd := td.bnd t1
    have cm := At.cmp t1 t2 tc td
    show sgnF (W c (6000 * a + k.2 * (rk c).getD k.1.toNat 0) ks - W d (6000 * b + k.2 * (rk d).getD k.1.toNat 0) ks) = _
    rw [ih]
    generalize (rk c).getD k.1.toNat 0 = m at *
    generalize (rk d).getD k.1.toNat 0 = n at *
    rw [show cmpF (rowF c) (rowF d) (k :: ks) = bif flt ((rowF c).getD k.1.toNat 0) ((rowF d).getD k.1.toNat 0) then -k.2 else bif fgt ((rowF c).getD k.1.toNat 0) ((rowF d).getD k.1.toNat 0) then k.2 else cmpF (rowF c) (rowF d) ks from rfl]
    unfold flt fgt
    by_cases hab : a = b
    · subst hab
      rw [if_pos rfl]
      rcases Int.lt_trichotomy m n with h | h | h
      · rw [cm.1 h]
        rcases kd with e | e <;> rw [e] <;> rw [if_neg (by omega)]
        · rw [sgn_neg (by omega)]; rfl
        · rw [sgn_pos (by omega)]; rfl
      · rw [cm.2.1 h, h, if_pos rfl]; rfl
      · rw [cm.2.2 h]
        rcases kd with e | e <;> rw [e] <;> rw [if_neg (by omega)]
        · rw [sgn_pos (by omega)]; rfl
        · rw [sgn_neg (by omega)]; rfl
    · rw [if_neg hab]
      rcases kd with e | e <;> rw [e] <;> rw [if_neg (by omega)] <;> (rcases Int.lt_or_gt_of_ne hab with h | h)
      · rw [sgn_neg (by omega), sgn_neg (by omega)]
      · rw [sgn_pos (by omega), sgn_pos (by omega)]
      · rw [sgn_neg (by omega), sgn_neg (by omega)]
      · rw [sgn_pos (by omega), sgn_pos (by omega)]
theorem plain_law {c d : Col} (hc : InB c) (hd : InB d) {ks : List (Int × Int)} (hk : ∀ k ∈ ks, 0 ≤ k.1 ∧ k.1 ≤ 5 ∧ (k.2 = 1 ∨ k.2 = -1)) : cmpF (rowF c) (rowF d) ks = sgnF (wtF (rk c) ks - wtF (rk d) ks) := by
  have h := plain_gen hc hd ks 0 0 hk
  rw [if_pos rfl] at h
  exact h.symm
structure BackOk (c : Col) (a1 a2 a3 b1 b2 b3 : UInt64) : Prop where
  ok : fEq a2 0 = false → Float64.isNaN (Float64.mul a1 4618441417868443648) = false ∧ Float64.isInf (Float64.mul a1 4618441417868443648) = false ∧ (sixth a1).natAbs < 2 ^ 1024 - 2 ^ 970
  s1 : RndOk (hsv2rgb a1 a2 a3).1 c.1
  s2 : RndOk (hsv2rgb a1 a2 a3).2.1 c.2.1
  s3 : RndOk (hsv2rgb a1 a2 a3).2.2 c.2.2
  l1 : RndOk (hls2rgb b1 b2 b3).1 c.1
  l2 : RndOk (hls2rgb b1 b2 b3).2.1 c.2.1
  l3 : RndOk (hls2rgb b1 b2 b3).2.2 c.2.2
theorem z00 : fEq 0 0 = true := by decide +kernel
theorem hsv_g (v : UInt64) : hsv2rgb 0 0 v = (v, v, v) := by unfold hsv2rgb; simp only [z00, cond_true]
theorem hls_g (v : UInt64) : hls2rgb 0 v 0 = (v, v, v) := by unfold hls2rgb; simp only [z00, cond_true]
theorem back_of {c : Col} (h : InB c) : BackOk c (hsvF (e8 c.1) (e8 c.2.1) (e8 c.2.2)).1 (hsvF (e8 c.1) (e8 c.2.1) (e8 c.2.2)).2.1 (hsvF (e8 c.1) (e8 c.2.1) (e8 c.2.2)).2.2 (hlsF (e8 c.1) (e8 c.2.1) (e8 c.2.2)).1 (hlsF (e8 c.1) (e8 c.2.1) (e8 c.2.2)).2.1 (hlsF (e8 c.1) (e8 c.2.1) (e8 c.2.2)).2.2 := by
  obtain ⟨x, y, z⟩ := c
  obtain ⟨bx, bY, bz⟩ := h
  dsimp only at bx bY bz ⊢
  by_cases hg : lo3 x y z = hi3 x y z
  · have g := hsv_grey bx bY bz hg
    have gb := grey_back (hi_bnd bx bY bz)
    have ex : x = hi3 x y z := by unfold lo3 hi3 at *; omega
    have ey : y = hi3 x y z := by unfold lo3 hi3 at *; omega
    have ez : z = hi3 x y z := by unfold lo3 hi3 at *; omega
    rw [g.1, g.2]
    refine ⟨fun e => ?_, ?_, ?_, ?_, ?_, ?_, ?_⟩
    · rw [z00] at e; cases e
    all_goals dsimp only
    · rw [hsv_g]; rw [← ex] at gb; rw [← ex]; exact gb.1
    · rw [hsv_g]; rw [← ey] at gb; rw [← ey]; exact gb.1
    · rw [hsv_g]; rw [← ez] at gb; rw [← ez]; exact gb.1
    · rw [hls_g]; rw [← ex] at gb; rw [← ex]; exact gb.2
    · rw [hls_g]; rw [← ey] at gb; rw [← ey]; exact gb.2
    · rw [hls_g]; rw [← ez] at gb; rw [← ez]; exact gb.2
  · have g := hsv_col bx bY bz hg
    obtain ⟨P, T⟩ := tri_of bx bY bz hg
    have sv := sv_ok rfl P.satn T.sv
    have hl := hl_ok P.sln T.hl
    rw [show hi3 x y z - (hi3 x y z - x) = x by omega, show hi3 x y z - (hi3 x y z - y) = y by omega, show hi3 x y z - (hi3 x y z - z) = z by omega] at sv hl
    rw [g.1, g.2]
    exact ⟨fun _ => ⟨T.nan, T.inf, T.big⟩, sv.1, sv.2.1, sv.2.2, hl.1, hl.2.1, hl.2.2⟩
end
section
theorem nine (a : Int) : 0 ≤ a.fmod 9 ∧ a.fmod 9 ≤ 8 := by
  rw [Int.fmod_eq_emod_of_nonneg a (by decide)]; omega
theorem pal_in {ns : List Int} : ∀ c ∈ palF ns, InB c := by
  intro c hc
  simp only [palF, List.mem_append, List.mem_map, List.mem_cons, List.not_mem_nil, or_false] at hc
  rcases hc with (rfl | rfl | rfl | rfl | rfl | rfl) | ⟨n, _, rfl⟩
  any_goals (unfold InB; decide)
  exact ⟨nine _, nine _, nine _⟩
theorem pal_len {ns : List Int} (h : ns.length ≤ 6) : (palF ns).length ≤ 12 := by
  simp only [palF, List.length_append, List.length_cons, List.length_nil, List.length_map]; omega
theorem rowV_of {c : Col} {a : Addr} {nw : List (Addr × Obj)} {t1 t2 t3 t4 t5 t6 : Tok}
    (hm : (a, tup [.float (hsvF (e8 c.1) (e8 c.2.1) (e8 c.2.2)).1 t1, .float (hsvF (e8 c.1) (e8 c.2.1) (e8 c.2.2)).2.1 t2, .float (hsvF (e8 c.1) (e8 c.2.1) (e8 c.2.2)).2.2 t3, .float (hlsF (e8 c.1) (e8 c.2.1) (e8 c.2.2)).1 t4, .float (hlsF (e8 c.1) (e8 c.2.1) (e8 c.2.2)).2.1 t5, .float (hlsF (e8 c.1) (e8 c.2.1) (e8 c.2.2)).2.2 t6] 0) ∈ nw) : RowV nw (.ref a) c :=
  ⟨a, _, 0, rfl, hm, .cons ⟨t1, rfl⟩ (.cons ⟨t2, rfl⟩ (.cons ⟨t3, rfl⟩ (.cons ⟨t4, rfl⟩ (.cons ⟨t5, rfl⟩ (.cons ⟨t6, rfl⟩ .nil)))))⟩
theorem All2.take {β : Type} {R : Value → β → Prop} {vs : List Value} {bs : List β} (h : All2 R vs bs) : ∀ n, All2 R (vs.take n) (bs.take n) := by
  induction h with
  | nil => intro n; simpa using All2.nil
  | cons r _ ih =>
    intro n
    cases n with
    | zero => exact .nil
    | succ n => exact .cons r (ih n)
theorem keyV_ok {nw : List (Addr × Obj)} {kvs : List Value} {ks : List (Int × Int)} (h : All2 (KeyV nw) kvs ks) : ∀ k ∈ ks, 0 ≤ k.1 ∧ k.1 ≤ 5 ∧ (k.2 = 1 ∨ k.2 = -1) := by
  induction h with
  | nil => intro k hk; cases hk
  | cons r _ ih =>
    intro k hk
    rcases List.mem_cons.mp hk with rfl | hk
    · obtain ⟨_, _, _, _, _, _, b0, b5, _, _, d⟩ := r
      exact ⟨b0, b5, d⟩
    · exact ih k hk
section
variable {prog : Program} {w : World} {A : Around} {E : Value → Shared → Prop} {s s₁ : Shared} {h₀ : Heap} {L : Addr} {m : Str → Option Value} {env : Env} {target : PySem.Expr} {body : List Stmt}
theorem rows_src {elt : PySem.Expr} {x y : Str} {scope : Scope} {cl : List (Str × Addr)} {Q : Flow → Shared → Prop} {P K : Addr} {pvs kvs : List Value} {kp kk : Nat} {tlP tlK rest : List (Addr × Obj)} {cols : List Col} {ks : List (Int × Int)}
    (hh : A.handled = none) (F : Fr h₀ L s₁.heap m) (N : News h₀ L s₁.heap (tlK ++ (tlP ++ rest))) (hpal : (P, PySem.W.listOf pvs.toArray kp) ∈ tlP) (hcol : All2 (ColV tlP) pvs cols)
    (hkl : (K, PySem.W.listOf kvs.toArray kk) ∈ tlK) (hks : All2 (KeyV tlK) kvs ks) (hlen : cols.length ≤ 12)
    (turn : ∀ (nw : List (Addr × Obj)) (i : Nat) c a tx ty tz n ys I oI C oC D m₂ h tk (E' : Value → Shared → Prop), cols[i]? = some c → (a, tup [.int c.1 tx, .int c.2.1 ty, .int c.2.2 tz] n) ∈ nw → (P, PySem.W.listOf pvs.toArray kp) ∈ nw → LCg.NsObj oC m₂ → m₂ x = some (.ref a) → Fr h₀ L h m → News h₀ L h ((I, oI) :: (C, oC) :: (D, LCg.lst ys) :: nw) → LCg.Off3 I C D nw → ((@Ne Nat I C) ∧ (@Ne Nat I D) ∧ (@Ne Nat C D)) →
      wpAny (model prog w) A (eval elt (compEnvC scope cl C env)) (LCg.CompEnd h₀ L m { s₁ with heap := h, toks := tk } I oI C oC D (LCg.lst ys) (LCg.SrcAt h₀ P pvs.toArray) (fun y nw' => ∃ a o, nw' = (a, o) :: nw ∧ (∀ q ∈ nw, q.1 < a) ∧ RowV [(a, o)] y c)) E' { s₁ with heap := h, toks := tk })
    (fin : ∀ ys nw D h tk, (P, PySem.W.listOf pvs.toArray kp) ∈ nw → All2 (ColV nw) pvs cols → (K, PySem.W.listOf kvs.toArray kk) ∈ nw → All2 (KeyV nw) kvs ks → All2 (RowV nw) ys cols → Fr h₀ L h (fun z => if z = y then some (.ref D) else m z) → News h₀ L h ((D, PySem.W.listOf ys.toArray ys.length) :: nw) → Q .next { s₁ with heap := h, toks := tk }) :
    LstSrc prog w A h₀ L m env elt x scope cl (fun s₂ => LCg.FinA h₀ L m s₂ y Q) (.ref P) s₁ := by
  have hpl := hcol.length
  have hpal' : (P, PySem.W.listOf pvs.toArray kp) ∈ tlK ++ (tlP ++ rest) := List.mem_append_right _ (List.mem_append_left _ hpal)
  have hcol' : All2 (ColV (tlK ++ (tlP ++ rest))) pvs cols := hcol.mono fun v b r => r.mono fun p hp => List.mem_append_right _ (List.mem_append_left _ hp)
  have hkl' : (K, PySem.W.listOf kvs.toArray kk) ∈ tlK ++ (tlP ++ rest) := List.mem_append_left _ hkl
  have hks' : All2 (KeyV (tlK ++ (tlP ++ rest))) kvs ks := hks.mono fun v b r => r.mono fun p hp => List.mem_append_left _ hp
  refine ⟨P, pvs, kp, _, rfl, hh, F, N, hpal', by rw [sizeLine_eq]; omega, fun g => ?_⟩
  refine rest_new (bs := cols) RowV (fun nw nw' v b h hs => h.mono hs) hpl.symm ?_ ?_
  · intro i v c ys tl I oI C oC D m₂ h tk E' hb hv hq hC hx F9 N9 off ne
    obtain ⟨c2, hc2, a9, tx9, ty9, tz9, n9, rfl, hm9⟩ := hcol'.get' i v hv
    obtain rfl : c2 = c := by rw [hb] at hc2; exact (Option.some.inj hc2).symm
    exact turn _ i c2 a9 tx9 ty9 tz9 n9 ys I oI C oC D m₂ h tk E' hb (List.mem_append_right _ hm9) (List.mem_append_right _ hpal') hC hx F9 N9 off ne
  · intro ys tl _ hy D h tk F9 N9 _
    have up : ∀ p ∈ tlK ++ (tlP ++ rest), p ∈ tl ++ (tlK ++ (tlP ++ rest)) := fun p hp => List.mem_append_right _ hp
    exact fin ys _ D h tk (up _ hpal') (hcol'.mono fun v b r => r.mono up) (up _ hkl') (hks'.mono fun v b r => r.mono up) (hy.mono fun v b r => r.mono fun p hp => List.mem_append_left _ hp) F9 N9
theorem turns_tupS {Q : Flow → Shared → Prop} {σ : Type} {ax : Addr} {its : List Value} {k : Nat} {m₀ : Str → Option Value} {news : List (Addr × Obj)} (stored : List Str) (ps : σ → List (Str × Value)) (Inv : Nat → σ → Prop) (c₀ : σ)
    (hh : A.handled = none) (F : Fr h₀ env.locals s.heap m₀) (N : News h₀ env.locals s.heap news) (hm : (ax, tup its k) ∈ news)
    (hk₀ : ∀ p ∈ ps c₀, m₀ p.1 = some p.2) (h0 : Inv 0 c₀)
    (turn : ∀ i v c u h tk I oI, its[i]? = some v → Inv i c → Fr h₀ env.locals h (frB m₀ u stored (ps c)) → News h₀ env.locals h ((I, oI) :: news) → (∀ p ∈ news, p.1 ≠ I) →
      wpAny (model prog w) A (assign target env v) (fun _ s₃ => wpAny (model prog w) A (execs body env) (TurnPost h₀ env.locals I oI m₀ stored ps (fun c nw => nw = news ∧ Inv (i + 1) c) { s with heap := h, toks := tk } Q) E s₃) E { s with heap := h, toks := tk })
    (done : ∀ c u h tk, Inv its.length c → Fr h₀ env.locals h (frB m₀ u stored (ps c)) → News h₀ env.locals h news → Q .next { s with heap := h, toks := tk }) :
    wpAny (model prog w) A (pyIter (.ref ax)) (fun it s₂ => TurnsAt prog w A h₀ env target body Q E it s₂) E s := by
  refine turns_tup stored ps (fun i c nw => nw = news ∧ Inv i c) c₀ hh F N hm (fun i c nw h => h.1 ▸ hm) hk₀ ⟨rfl, h0⟩ ?_ ?_
  · rintro i v c u nw h tk I oI hv ⟨rfl, hi⟩ F' N' hn
    exact turn i v c u h tk I oI hv hi F' N' hn
  · rintro c u nw h tk ⟨rfl, hi⟩ F' N'
    exact done c u h tk hi F' N'
end
theorem pick_take (vs : List Value) {y : Int} (h : 0 ≤ y) : (slicePick vs.toArray none (some y) none).toList = vs.take y.toNat := by
  have e : sliceBounds none (some y) none vs.toArray.size = (((0 : Nat) : Int), ((min y.toNat vs.toArray.size : Nat) : Int), 1) := by
    simp only [sliceBounds, Option.getD_none, show (1 : Int) > 0 by decide, if_true, if_neg (show ¬ (y < 0) by omega)]
    congr 1
    congr 1
    omega
  rw [kmk_pick_nat _ e]
  show (vs.drop 0).take (min y.toNat vs.toArray.size - 0) = _
  rw [List.drop_zero, Nat.sub_zero, List.size_toArray, kmk_take_min]
theorem pal_facts {R : Value → Col → Prop} {vs : List Value} {ns : List Int} (h : All2 R vs (palF (List.take 6 ns))) : (∀ c ∈ palF (List.take 6 ns), InB c) ∧ vs.length ≤ 12 ∧ (palF (List.take 6 ns)).length ≤ 12 :=
  ⟨pal_in, by rw [h.length]; exact pal_len (List.length_take_le _ _), pal_len (List.length_take_le _ _)⟩
theorem keys3 {R : Value → Int × Int → Prop} {vs : List Value} {ns : List Int} (h : All2 R vs (keysF ns)) : vs.length = 3 := h.length
theorem law_all {cols : List Col} {ks : List (Int × Int)} (hin : ∀ c ∈ cols, InB c) (hk : ∀ k ∈ ks, 0 ≤ k.1 ∧ k.1 ≤ 5 ∧ (k.2 = 1 ∨ k.2 = -1)) : ∀ c ∈ cols, ∀ d ∈ cols, cmpF (rowF c) (rowF d) ks = sgnF (wtF (rk c) ks - wtF (rk d) ks) := fun c hc d hd => plain_law (hin c hc) (hin d hd) hk
theorem row_six {c : Col} {vs : List Value} (h : All2 FlV vs (rowF c)) : ∃ t1 t2 t3 t4 t5 t6, vs = [.float (hsvF (e8 c.1) (e8 c.2.1) (e8 c.2.2)).1 t1, .float (hsvF (e8 c.1) (e8 c.2.1) (e8 c.2.2)).2.1 t2, .float (hsvF (e8 c.1) (e8 c.2.1) (e8 c.2.2)).2.2 t3, .float (hlsF (e8 c.1) (e8 c.2.1) (e8 c.2.2)).1 t4, .float (hlsF (e8 c.1) (e8 c.2.1) (e8 c.2.2)).2.1 t5, .float (hlsF (e8 c.1) (e8 c.2.1) (e8 c.2.2)).2.2 t6] := by
  unfold rowF at h
  cases h with
  | cons r1 h => cases h with
    | cons r2 h => cases h with
      | cons r3 h => cases h with
        | cons r4 h => cases h with
          | cons r5 h => cases h with
            | cons r6 h =>
              cases h
              obtain ⟨t1, rfl⟩ := r1
              obtain ⟨t2, rfl⟩ := r2
              obtain ⟨t3, rfl⟩ := r3
              obtain ⟨t4, rfl⟩ := r4
              obtain ⟨t5, rfl⟩ := r5
              obtain ⟨t6, rfl⟩ := r6
              exact ⟨t1, t2, t3, t4, t5, t6, rfl⟩
theorem bools_true : ∀ {zs : List Value}, (∀ (i : Nat) v, zs[i]? = some v → v = .bool true) → LSm.BoolsAre zs (zs.map fun _ => true)
  | [], _ => .nil
  | z :: zs, h => by
    have e : z = .bool true := h 0 z rfl
    subst e
    exact .cons _ (bools_true fun i v hv => h (i + 1) v (by simpa using hv))
theorem all_true (zs : List Value) : (zs.map fun _ => true).all id = true := by simp
theorem three_many {t1 t2 t3 : Tok} {i : Nat} {v : Value} (h : [Value.int 3 t1, .int 2 t2, .int 1 t3][i]? = some v) : ∃ n t, v = .int n t ∧ 1 ≤ n ∧ n ≤ 3 := by
  match i with
  | 0 => simp at h; subst h; exact ⟨_, _, rfl, by decide⟩
  | 1 => simp at h; subst h; exact ⟨_, _, rfl, by decide⟩
  | 2 => simp at h; subst h; exact ⟨_, _, rfl, by decide⟩
  | n + 3 => simp at h
end
section
local macro_rules | `(tactic| walk_at "call ref") => `(tactic| (k_here; (with_reducible show wpAny _ _ (call (Value.ref 84) _) _ _ _); k_dflt (refine' useM (pal_c ?p0 ?p1 ?p2) ?_; (case p0 | p1 | p2 => walk_at "own:p")); walk_at "own:m"))
local macro_rules | `(tactic| walk_at "call ref") => `(tactic| (k_here; (with_reducible show wpAny _ _ (call (Value.ref 89) _) _ _ _); k_dflt (refine' useM (keys_c ?p0 ?p1 ?p2) ?_; (case p0 | p1 | p2 => walk_at "own:p")); walk_at "own:m"))
local macro_rules | `(tactic| walk_at "exec Assign cons ListComp") => `(tactic| (k_here; k_dflt (refine Assign_ListComp_lst (F₀ := by k_asm) (by rfl) (by with_unfolding_all rfl) (by with_unfolding_all rfl) (by decide) (by rfl) (by decide) (by rfl) (by rfl) (by rfl) ?_)))
local macro_rules | `(tactic| walk_at "exec For Name Tuple cons nil") => `(tactic| (k_here; (rename Fr _ _ _ _ => lF'); (with_unfolding_all refine' For_turns lF' ?_; k_whole)))
local macro_rules | `(tactic| walk_at "call ref") => `(tactic| (k_here; (with_reducible show wpAny _ _ (call (Value.ref 120) _) _ _ _); k_dflt (refine' useV (order_c ?p0 ?p1 ?p2 ?p3 ?p4 ?p5 ?p6 ?p7 ?p8) ?_; (case p0 => walk_at "own:p"); (case p1 => exact All2.mono (by assumption) fun v9 b9 r9 => ColV.mono r9 (by kcf_all)); (case p2 => walk_at "own:p"); (case p3 => exact All2.mono (by assumption) fun v9 b9 r9 => RowV.mono r9 (by kcf_all)); (case p4 => walk_at "own:p"); (case p5 => exact All2.mono (by assumption) fun v9 b9 r9 => KeyV.mono r9 (by kcf_all)); (case p6 | p7 | p8 => walk_at "own:p")); walk_at "own:b"))
local macro_rules | `(tactic| walk_at "eval ListComp") => `(tactic| (k_here; k_dflt (refine ListComp_zip (by rfl) (by rfl) (by decide) ?_)))
local macro_rules | `(tactic| walk_at "call ref") => `(tactic| (k_here; (with_reducible show wpAny _ _ (call (Value.ref 125) _) _ _ _); k_dflt (refine' useV (back_c ?p0 ?p1 ?p2 ?p3 ?p4 ?p5 ?p6 ?p7 ?p8) ?_; (case p0 | p1 | p2 | p3 | p4 | p5 | p6 | p7 | p8 => walk_at "own:p")); walk_at "own:b"))
theorem law_top : PySem.Challenge.rw_mj0123_01.Holds := hd (by
  k_go0
  (all_goals try k_fold)
  k_steps
  refine rows_src rfl (by k_asm) (by k_asm) (by assumption) (by assumption) (by assumption) (by assumption) (pal_len ?len) ?turn ?fin
  case len => exact List.length_take_le _ _
  case turn =>
    intro nw i c a tx ty tz n ys I oI C oC D m₂ h tk E' hb hm hpal hC hx F9 N9 off ne
    obtain ⟨bx, bY, bz⟩ := id (pal_in c (List.mem_of_getElem? hb))
    have ok1 := okS_of (pal_in c (List.mem_of_getElem? hb))
    have ok2 := okL_of (pal_in c (List.mem_of_getElem? hb))
    iterate 8 (first | (k_unfold; (try dsimp only)) | (k_end; wrow_close) | walk1 | (dsimp only; walk1) | (leave1; walk_say "STEP leave1"; try dsimp only) | fail "no step")
    (with_reducible show wpAny _ _ (call (Value.ref 94) [Value.ref _]) _ _ _); k_dflt (refine' (row_c ?p0 ?p1 ?p2 ?p3 ?p4 ?p5) _ _ _ _ _ _ _ _ _ _ _ _ _ _ _ _ _ ?k1 ?k2 ?k3 ?k4 ?k5 ?k6 ?k7 ?k8 ?_; (case k1 => k_asm); (case k2 => k_asm); (case k3 => k_asm); (case k4 => k_asm); (case k5 => k_asm); (case k6 => first | exact rfl | assumption); (case k7 => ktr_room); (case k8 => ktr_units); (case p0 => first | assumption | k_mem | omega); (case p1 => first | assumption | k_mem | omega); (case p2 => first | assumption | k_mem | omega); (case p3 => first | assumption | k_mem | omega); (case p4 => first | assumption | k_mem | omega); (case p5 => first | assumption | k_mem | omega); skip); (intro D9 o9 h9 tk9 F9 N9 l9 ho9); (obtain ⟨t91, t92, t93, t94, t95, t96, e9⟩ := ho9); subst e9; (try k_lt l9); (try dsimp only); (try k_sweep); (try k_fold)
    k_steps
    exact new_end (by k_asm) (by k_asm) off (by assumption) (.inr ⟨_, List.mem_cons_of_mem _ hpal, rfl, _, rfl⟩) ⟨_, _, rfl, al3 (by assumption), rowV_of List.mem_cons_self⟩
  case fin =>
    intro ys nw D h tk hpal hcol hkl hks hrow F9 N9
    k_steps
    refine turns_tupS (σ := Unit) [Str.ofString "many"] (fun _ => []) (fun _ _ => True) () rfl (by k_asm) (by k_asm) List.mem_cons_self (fun _ h => nomatch h) trivial ?_ ?_
    · intro i v c9 u9 h9 tk9 I9 oI9 hv _ F9 N9 hn
      obtain ⟨n, t, rfl, b1, b3⟩ := three_many hv
      iterate 22 (first | (k_unfold; (try dsimp only)) | (k_end; wrow_close) | walk1 | (dsimp only; walk1) | (leave1; walk_say "STEP leave1"; try dsimp only) | fail "no step")
      have hk3 := keys3 hks
      refine kmk_slice_lit (by k_asm) (by k_asm) (News.isList (by k_asm) (List.mem_cons_of_mem _ (List.mem_cons_of_mem _ (List.mem_cons_of_mem _ hkl)))) IsPart.none (IsPart.int _ _) (pick_take _ (by omega)) ?_ (by with_unfolding_all rfl) (by intro _; with_unfolding_all rfl) ?z
      case z => rw [sizeLine_eq, List.size_toArray, hk3]; omega
      intro D8 h8 F8 N8 l8
      k_lt l8
      have hks' := hks.take n.toNat
      clear hks
      obtain ⟨hin, _, hlen⟩ := pal_facts hcol
      have hlaw := law_all hin (keyV_ok hks')
      k_steps
      refine turn_next () _ (by k_asm) (by k_asm) ?_ hn (fun _ h => nomatch h) ?_ ⟨rfl, trivial⟩
      · kcf_all
      · ((intro z9 h91 h92); (have h93 := h92); (try simp only [List.forall_mem_cons, List.not_mem_nil, false_implies, implies_true, and_true, ne_eq] at h91); (try simp only [List.contains_cons, List.contains_nil, Bool.or_false, Bool.or_eq_false_iff, beq_eq_false_iff_ne, ne_eq] at h93); (first | (simp only [frB, kstB, h91, h92, h93, if_false, Bool.false_eq_true]; done) | (simp [frB, kstB, h91, h92, h93]; done)))
    · intro c9 u9 h9 tk9 _ F9 N9
      iterate 15 (first | (k_unfold; (try dsimp only)) | (k_end; wrow_close) | walk1 | (dsimp only; walk1) | (leave1; walk_say "STEP leave1"; try dsimp only) | fail "no step")
      have hpl := hcol.length
      have hrl := hrow.length
      obtain ⟨hin, hl12, _⟩ := pal_facts hcol
      refine zip_src (fun _ v => v = .bool true) rfl (by k_asm) (by k_asm) (List.mem_cons_of_mem _ (List.mem_cons_of_mem _ hpal)) (List.mem_cons_of_mem _ List.mem_cons_self) (by omega) (by rw [sizeLine_eq]; omega) (by decide) (by rfl) (by rfl) (by rfl) (by decide) ?_ ?_
      · intro i x y zs z oz T1 o1 T2 o2 j1 p1 j2 p2 C oC D2 m₂ h8 tk8 E' hx hy hC ha hb F8 N8
        obtain ⟨c, hc, a, tx, ty, tz, n, rfl, hma⟩ := hcol.get' i x hx
        obtain ⟨c2, hc2, ra, vs, nr, rfl, hmr, hf⟩ := hrow.get' i y hy
        obtain rfl : c2 = c := by rw [hc] at hc2; exact (Option.some.inj hc2).symm
        obtain ⟨t1, t2, t3, t4, t5, t6, rfl⟩ := row_six hf
        obtain ⟨ok, s1, s2, s3, l1, l2, l3⟩ := back_of (hin c2 (List.mem_of_getElem? hc))
        clear hx hy hf
        k_steps
        exact ZipEnd.intro (by k_asm) (by k_asm) rfl
      · intro zs D2 h8 tk8 hzl hR F8 N8
        iterate 1 (first | (k_unfold; (try dsimp only)) | (k_end; wrow_close) | walk1 | (dsimp only; walk1) | (leave1; walk_say "STEP leave1"; try dsimp only) | fail "no step")
        refine LSm.all_bools (by k_asm) (by k_asm) (by rfl) (News.isList (by k_asm) List.mem_cons_self) (bools_true hR) ?_
        intro h7 tk7 F7 N7
        rw [all_true]
        k_steps)
end
end Mine
theorem PySem.Challenge.cw_mj0123_01_holds : PySem.Challenge.rw_mj0123_01.Holds :=
  Mine.law_top
