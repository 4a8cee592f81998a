import Derived.Laws.AppendOwn
import Derived.OwnWalk
import Derived.Lib.AppendZeros
import Derived.Lib.AppendZerosOnto
/- A law of no program: 'append(b, make([]byte, m)...)' (the translation hands the builtin the number m) onto a row of bytes that the call owns: the row and m zero bytes are owned behind it. -/
namespace Go.Proofs.Qxb6613009a
open Go

/-- m zero bytes, as cells. -/
def zeros (m : Nat) : List Value := List.replicate m (Value.int .u8 0)

theorem zeroCells_bytes (m : Nat) : Builtin.zeroCells (Value.int .u8 0).cells m = (zeros m).toArray := by
  apply Array.ext'
  apply List.ext_getElem?
  intro j
  have e : (Value.int IntKind.u8 0).cells = #[Value.int .u8 0] := rfl
  by_cases hj : j < m
  · simp [Builtin.zeroCells, zeros, e, hj, Nat.mod_one]
  · simp [Builtin.zeroCells, zeros, e, hj]

section
variable {P : Program} (w : World)

theorem run_append_room_zeros (t tn ty e : TypeId) (i : TypeInfo) (kq kn : IntKind) (ht : P.underlying t = some (.slice e)) (htn : P.underlying tn = some (.int kn)) (hi : P.info? e = some i) (hz : i.zero = some (.int .u8 0)) (hs1 : i.size = 1) (hby : i.bytes = 1)
    (g n cap : Nat) (cur : Array Value) (hg : w.heap[g]? = some (.cells cur e (0, 0))) (m : Nat) (h0 : 0 < m) (hm : m ≤ 140737488355328) (hroom : n + m ≤ cap) (hfit : n + m ≤ cur.size) :
    (Builtin.append_ #[t, tn] ty #[.slice (some ⟨g, 0, none⟩) n cap, .int kq m]).run P w =
      .ok (.slice (some ⟨g, 0, none⟩) (n + m) cap) (w.setRow g (cur.toList.take n ++ zeros m ++ cur.toList.drop (n + m)).toArray) := by
  have hst := run_storeCells_at P g n e (zeros m) 0 cur w hg (by simpa [zeros] using hfit) (by intro u hu; rw [List.eq_of_mem_replicate hu]; rfl)
  have hzl : (zeros m).length = m := by simp [zeros]
  simp only [Nat.add_zero, hzl] at hst
  have hw : IntKind.i64.wrap (m : Int) = m := by rw [IntKind.wrap_i64]; omega
  have hneg : ¬ ((m : Int) < 0) := by omega
  have h48i : ¬ (281474976710656 < (m : Int)) := by omega
  have hm0 : ¬ m = 0 := by omega
  have hzc := zeroCells_bytes m
  simp [Builtin.append_, run_underlying ht, run_underlying htn, sizeOf, typeInfo, zeroValue, hi, hz, hs1, hby, asInt, asIntOf, hw, hneg, h48i, hm0, hroom, Addr.add_lit, hzc, hst]

theorem run_append_none_zeros (t tn ty e : TypeId) (i : TypeInfo) (kq kn : IntKind) (ht : P.underlying t = some (.slice e)) (htn : P.underlying tn = some (.int kn)) (hi : P.info? e = some i) (hby : i.bytes = 1)
    (base : Option Addr) (n cap : Nat) (hnc : n ≤ cap) :
    (Builtin.append_ #[t, tn] ty #[.slice base n cap, .int kq 0]).run P w = .ok (.slice base n cap) w := by
  have hw : IntKind.i64.wrap 0 = 0 := by decide
  cases base <;> simp [Builtin.append_, run_underlying ht, run_underlying htn, sizeOf, typeInfo, hi, hby, asInt, asIntOf, hw, hnc, storeCells]

theorem run_append_own_zeros (base : Nat) (t tn ty e : TypeId) (i : TypeInfo) (kq kn : IntKind) (ht : P.underlying t = some (.slice e)) (htn : P.underlying tn = some (.int kn)) (hi : P.info? e = some i) (hz : i.zero = some (.int .u8 0)) (hs1 : i.size = 1) (hby : i.bytes = 1)
    (v : Value) (n : Nat) (xs : List Value) (hown : w.ownsRow base e 1 v n xs) (m : Nat) (hlim : n + m ≤ 140737488355328) (hbase : base ≤ w.heap.size) :
    ∃ v' w', (Builtin.append_ #[t, tn] ty #[v, .int kq m]).run P w = .ok v' w' ∧ w'.ownsRow base e 1 v' (n + m) (xs ++ zeros m) ∧ w.grownBy w' v.ownBlock := by
  have hxl : xs.length = n := by simpa using hown.1
  have hzl : (zeros m).length = m := by simp [zeros]
  have hlen : (xs ++ zeros m).length = (n + m) * 1 := by rw [List.length_append, hxl, hzl, Nat.mul_one]
  by_cases h0 : m = 0
  · subst h0
    refine ⟨v, w, ?_, by simpa [zeros] using hown, ⟨rfl, rfl, rfl, Nat.le_refl _, fun _ _ _ => rfl⟩⟩
    rcases hown.2 with ⟨rfl, rfl⟩ | ⟨g, cap, cur, rfl, _, _, hnc, _⟩
    · exact run_append_none_zeros w t tn ty e i kq kn ht htn hi hby none 0 0 (Nat.le_refl _)
    · exact run_append_none_zeros w t tn ty e i kq kn ht htn hi hby _ n cap hnc
  · have grown : ∀ (old : Nat) (row : Option Nat),
        (w.drew.alloc (.cells (xs.toArray ++ Builtin.zeroCells (Value.int .u8 0).cells m ++ Builtin.zeroCells (Value.int .u8 0).cells (grownCap w (n + m) old e - (n + m))) e)).ownsRow base e 1
          (.slice (some ⟨w.heap.size, 0, none⟩) (n + m) (grownCap w (n + m) old e)) (n + m) (xs ++ zeros m) ∧
        w.grownBy (w.drew.alloc (.cells (xs.toArray ++ Builtin.zeroCells (Value.int .u8 0).cells m ++ Builtin.zeroCells (Value.int .u8 0).cells (grownCap w (n + m) old e - (n + m))) e)) row := by
      intro old row
      have hge := grownCap_ge w (n + m) old e
      have hcm : grownCap w (n + m) old e ≤ maxLen := grownCap_le_maxLen w (n + m) old e (by unfold maxLen; omega)
      refine ⟨⟨hlen, .inr ⟨w.heap.size, _, _, rfl, hbase, heap_alloc_new w.drew _, hge, hcm, ?_, ?_⟩⟩, ⟨rfl, rfl, rfl, by simp, fun k hk _ => heap_alloc_old w.drew _ k hk⟩⟩
      · have hz1 : (Value.int IntKind.u8 0).cells.size = 1 := rfl
        simp only [Array.size_append, List.size_toArray, size_zeroCells, hz1, hxl]
        omega
      · rw [zeroCells_bytes m]
        simp only [Array.toList_append, List.append_assoc]
        rw [← List.append_assoc, ← hlen]
        exact List.take_left
    rcases hown.2 with ⟨rfl, rfl⟩ | ⟨g, cap, cur, rfl, hbg, hg, hnc, hcm, hcs, htake⟩
    · have hx : xs = [] := List.eq_nil_of_length_eq_zero hxl
      subst hx
      have hr := Lib.run_append_grow_zeros (P := P) w t tn ty e i (.int .u8 0) kq kn ht htn hi hz none 0 0 [] (run_firstCells_none w.drew i.size 0 0 0) m (by omega) (by omega) (by omega) (by omega) (by rw [hby]; omega) (by rw [hby]; exact growslice_fits (by omega) (by omega))
      have hgr := grown 0 (Value.ownBlock (.slice none 0 0))
      exact ⟨_, _, hr, hgr.1, hgr.2⟩
    · by_cases hroom : n + m ≤ cap
      · have hcs' : cur.size = cap := by simpa using hcs
        have hr := run_append_room_zeros (P := P) w t tn ty e i kq kn ht htn hi hz hs1 hby g n cap cur hg m (by omega) (by omega) hroom (by omega)
        refine ⟨_, _, hr, ⟨hlen, .inr ⟨g, cap, _, rfl, hbg, setRow_heap w g cur _ e _ hg, hroom, hcm, ?_, ?_⟩⟩, ⟨rfl, rfl, rfl, by simp, fun k _ hk => setRow_other w g k _ (fun e => hk (by simp [Value.ownBlock, e]))⟩⟩
        · simp only [List.size_toArray, List.length_append, List.length_take, List.length_drop, Array.length_toList, hzl]
          omega
        · have ht' : cur.toList.take n = xs := by simpa using htake
          rw [ht', ← hlen]
          exact List.take_left
      · have holds : ∀ j u, xs[j]? = some u → w.cell? ((⟨g, 0, none⟩ : Addr).add j) = some u := hown.cells (g := g) rfl
        have hf := run_firstCells_some (P := P) w.drew i.size n ⟨g, 0, none⟩ n cap xs (by rw [hs1]; simpa using hxl) (by simpa using holds)
        have hr := Lib.run_append_grow_zeros (P := P) w t tn ty e i (.int .u8 0) kq kn ht htn hi hz (some ⟨g, 0, none⟩) n cap xs hf m (by omega) (by omega) (by omega) (by omega) (by rw [hby]; omega) (by rw [hby]; exact growslice_fits (by omega) (by omega))
        have hgr := grown cap (Value.ownBlock (.slice (some ⟨g, 0, none⟩) n cap))
        exact ⟨_, _, hr, hgr.1, hgr.2⟩

theorem wpList_append_own_zeros {ops : Array Oper} {rest : List Oper} {o : Oper} {a : Act} {Q : Exit → Act → World → Prop} (hgd : o.guard = none) (sl x : Operand) (t tn : TypeId)
    (ho : o.op = .call { callee := .builtin .append, args := #[sl, x], argTypes := #[t, tn] })
    (base : Nat) (e : TypeId) (i : TypeInfo) (kq kn : IntKind) (ht : P.underlying t = some (.slice e)) (htn : P.underlying tn = some (.int kn)) (hi : P.info? e = some i) (hz : i.zero = some (.int .u8 0)) (hs1 : i.size = 1) (hby : i.bytes = 1)
    (v : Value) (n : Nat) (xs : List Value) (hs : a.eval sl = v) (hown : w.ownsRow base e 1 v n xs) (m : Nat) (hx : a.eval x = .int kq m) (hlim : n + m ≤ 140737488355328) (hbase : base ≤ w.heap.size)
    (h : ∀ v' w', w'.ownsRow base e 1 v' (n + m) (xs ++ zeros m) → w.grownBy w' v.ownBlock → wpList P ops Q rest (a.put o.dst v') w') : wpList P ops Q (o :: rest) a w := by
  obtain ⟨v', w', hr, h2, h3⟩ := run_append_own_zeros (P := P) w base t tn o.type e i kq kn ht htn hi hz hs1 hby v n xs hown m hlim hbase
  exact Lib.wpList_append_run w hgd sl x t tn ho v (.int kq m) hs hx v' w' hr (h v' w' h2 h3)
end
end Go.Proofs.Qxb6613009a
