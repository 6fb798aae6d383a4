/-
  A walk of ONE goroutine whose frame is an ordinary call's ('WpN': 'Code.wp' at frames of the kind '.normal'), so that a SELECT of one send with a default can be taken by the library's law on the machine of one (Derived/Conc/LoneSelect.lean) between parts that the kit's own walk takes. Of no program in particular.
-/
import Derived.Conc.LoneSelect
import Derived.Deep.RegionLawGrows
import Derived.OwnWalk
namespace Go.Proofs.Ybulkqky
open Go.Conc

def WpN (P : Program) (c : Code) (b : Frame) (Q : Exit → Act → World → Prop) (a : Act) (w : World) : Prop :=
  ∀ (k : List Item) (cs : List Frame), ∃ e a' w', Q e a' w' ∧ Arrives P (lone (b.at a (.code c :: k)) cs w) b k cs e a' w'

theorem WpN.of_wp {P : Program} {c : Code} {b : Frame} {Q : Exit → Act → World → Prop} {a : Act} {w : World} (h : c.wp P Q a w) : WpN P c b Q a w :=
  fun k cs => h b k cs

theorem WpN.seq {P : Program} {x y : Code} {b : Frame} {Q : Exit → Act → World → Prop} {a : Act} {w : World}
    (h : WpN P x b (Exit.then (WpN P y b Q) Q) a w) : WpN P (.seq x y) b Q a w := by
  intro k cs
  obtain ⟨e, a₁, w₁, hq, harr⟩ := h (.code y :: k) cs
  cases e with
  | normal =>
    obtain ⟨e₂, a₂, w₂, hq₂, harr₂⟩ := hq k cs
    exact ⟨e₂, a₂, w₂, hq₂, .of_steps (.head step_seq harr) harr₂⟩
  | exit id => exact ⟨_, a₁, w₁, hq, .of_steps (.one step_seq) (.pass (x := .code y) rfl (fun _ _ => .inl (by simp)) harr)⟩
  | goto l => exact ⟨_, a₁, w₁, hq, .of_steps (.one step_seq) (.pass (x := .code y) rfl (fun _ _ => .inl (by simp)) harr)⟩
  | ret => exact ⟨_, a₁, w₁, hq, .of_steps (.one step_seq) (.pass (x := .code y) rfl (fun _ _ => .inl (by simp)) harr)⟩
  | panic ch => exact ⟨_, a₁, w₁, hq, .of_steps (.one step_seq) (.pass (x := .code y) rfl (fun _ _ => .inl (by simp)) harr)⟩
  | outgrown => exact ⟨_, a₁, w₁, hq, .of_steps (.one step_seq) (.pass (x := .code y) rfl (fun _ _ => .inl (by simp)) harr)⟩

/-- The first part by the kit's walk, what follows behind a letter. -/
theorem WpN.seq_k {P : Program} {x y : Code} {b : Frame} {Q : Exit → Act → World → Prop} {a : Act} {w : World}
    (h : ∀ K : Act → World → Prop, (∀ a w, WpN P y b Q a w → K a w) → x.wp P (Exit.then K Q) a w) : WpN P (.seq x y) b Q a w :=
  .seq (.of_wp (h _ fun _ _ h => h))

theorem calls_of_wpN {P : Program} {f : FuncId} {fn : Func} {c : Code} {args : Array Value} {w : World} {R : Ending → World → Prop}
    (hf : P.funcs[f]? = some fn) (hb : fn.body = some c)
    (h : ∀ b : Frame, b.kind = .normal → WpN P c b (bodyPost P fn R) { tmps := args ++ Array.replicate (fn.ntmps - args.size) undef, defers := [] } w) :
    Calls P f args w R := by
  intro cs
  let b : Frame := { (default : Frame) with fn := f, kind := .normal }
  have henter : Frame.enter P f args .normal =
      b.at { tmps := args ++ Array.replicate (fn.ntmps - args.size) undef, defers := [] } [.code c] := by
    simp [Frame.enter, Frame.at, hf, hb, b]
  obtain ⟨e, a', w', hq, harr⟩ := h b rfl [] cs
  rw [← henter] at harr
  cases e with
  | normal =>
    obtain ⟨hd, v, hr, hR⟩ := hq
    exact ⟨.returned v, w', _, hR, Steps.trans harr (.one step_end), rfl, rfl, hd, rfl, fn, hf, hr⟩
  | ret =>
    obtain ⟨hd, v, hr, hR⟩ := hq
    obtain ⟨todo, hs⟩ := harr
    exact ⟨.returned v, w', _, hR, hs, rfl, rfl, hd, rfl, fn, hf, hr⟩
  | panic chain =>
    obtain ⟨hd, hR⟩ := hq
    obtain ⟨todo, hs⟩ := harr
    exact ⟨.panicked chain, w', _, hR, hs, rfl, rfl, hd, fn, hf⟩
  | exit id => exact hq.elim
  | goto l => exact hq.elim
  | outgrown => exact ⟨.outgrown, w', b, hq, harr.resolve_left (by simp [b]), rfl, trivial⟩

/-- 'select { case c <- v: default: }' at the head of a region, the channel open: one way, whether or not there is room. -/
theorem WpN.select_send {P : Program} {id : Nat} {o : Oper} {rest : List Oper} {b : Frame} {Q : Exit → Act → World → Prop} {a : Act} {w : World}
    {c cap s r : Nat} {buf : Array Value} {z v : Value} {tm : Bool} (hb : b.kind = .normal) (hg : o.guard = none)
    (hr : (execOp a.eval o).run P w = .ok (.comm #[scase c v z] false .select) w)
    (hc : w.heap[c]? = some (.chan cap buf false s r tm))
    (hroom : buf.size < cap → wpList P (o :: rest).toArray Q rest (a.put o.dst (.tuple #[goInt 0, .bool false])) (w.setChan c cap (buf.push v) false (s + 1) r tm))
    (hfull : cap ≤ buf.size → wpList P (o :: rest).toArray Q rest (a.put o.dst (.tuple #[goInt (-1), .bool false])) w) :
    WpN P (.region id (o :: rest).toArray false) b Q a w := by
  intro k cs
  have hk : b.kind ≠ .early := by rw [hb]; simp
  have hran : List.range (o :: rest).toArray.size = 0 :: List.range' 1 rest.length := by
    simp [List.range_eq_range', List.range'_succ]
  have hst := stepG_comm (P := P) (main := true) (b := b) (a := a) (k := k) (cs := cs) (w := w) (ops := (o :: rest).toArray) (i := 0) (rest := List.range' 1 rest.length) (o := o)
    (by simp) (by simp [Region.wanted, hg]) hk hr
  have h1 : Steps P (lone (b.at a (.code (.region id (o :: rest).toArray false) :: k)) cs w) (lone (b.at a (.inRegion (o :: rest).toArray (0 :: List.range' 1 rest.length) :: k)) cs w) := by
    have := step_region (P := P) (b := b) (a := a) (k := k) (cs := cs) (w := w) (ops := (o :: rest).toArray) (id := id)
    rw [hran] at this
    exact .one this
  have hl := wpOps_eq_wpList (P := P) (Q := Q) (ops := (o :: rest).toArray) rest 1 (by intro j; simp [Nat.add_comm 1 j])
  rw [← hl] at hroom hfull
  by_cases hsz : buf.size < cap
  · have h2 := step_lone_select_send_room hst hc hsz
    rw [Frame.finish_at, ← lone_eq_solo, ← lone_eq_solo] at h2
    obtain ⟨e, a', w', hq, harr⟩ := wp_ops _ _ _ (hroom hsz) b k cs
    exact ⟨e, a', w', hq, .of_steps h1 (.of_steps (.one h2) harr)⟩
  · have h2 := step_lone_select_send_full hst hc (by omega)
    rw [Frame.finish_at, ← lone_eq_solo, ← lone_eq_solo] at h2
    obtain ⟨e, a', w', hq, harr⟩ := wp_ops _ _ _ (hfull (by omega)) b k cs
    exact ⟨e, a', w', hq, .of_steps h1 (.of_steps (.one h2) harr)⟩

/-- append onto a row of the call's own, as one step of a region that draws. -/
theorem step_append_own {P : Program} {ops : Array Oper} {o : Oper} {a : Act} {w : World} {K : Act → World → Prop} {Q : Exit → Act → World → Prop} {E : Prop}
    (hg : o.guard = none) (s x : Operand) (t : TypeId) (hop : o.op = Op.call { callee := Callee.builtin Builtin.append, args := #[s, x], argTypes := #[t, t] })
    (base : Nat) (e : TypeId) (i : TypeInfo) (z : Value) (size bytes : Nat) (h1 : P.underlying t = some (.slice e)) (h2 : P.info? e = some i) (h3 : i.zero = some z) (h4 : i.size = size) (h5 : i.bytes = bytes) (h6 : z.cells.size = size) (h7 : 0 < size)
    (v : Value) (n : Nat) (xs : List Value) (hs : a.eval s = v) (hown : w.ownsRow base e size v n xs)
    (ad : Addr) (m c : Nat) (news : List Value) (hx : a.eval x = .slice (some ad) m c) (hn : news.length = m * size) (hc : ∀ j u, news[j]? = some u → w.cell? (ad.add j) = some u) (h1c : ∀ u ∈ news, u.oneCell' = true)
    (b1 : n + m ≤ maxLen) (b2 : (n + m) * bytes ≤ 140737488355328) (hbase : base ≤ w.heap.size)
    (hK : ∀ v' w', w'.ownsRow base e size v' (n + m) (xs ++ news) → w.grownBy w' v.ownBlock → K (a.put o.dst v') w') :
    if Region.wanted o (yielded ops a.tmps) = true then Oper.wp P o a w K Q else E := by
  have hw : Region.wanted o (yielded ops a.tmps) = true := by simp [Region.wanted, hg]
  rw [if_pos hw]
  obtain ⟨v', w', hrun, r1, r2, _⟩ := run_append_own (P := P) w base t o.type e i z size bytes h1 h2 h3 h4 h5 h6 h7 v n xs hown ad m c news hn hc h1c b1 b2 hbase
  unfold Oper.wp
  simp [execOp, hop, resolve, invoke, builtin, hs, hx, hrun, Result.andThen]
  exact hK v' w' r1 r2
end Go.Proofs.Ybulkqky
