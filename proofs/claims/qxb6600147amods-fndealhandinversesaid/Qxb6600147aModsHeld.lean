import Derived.Deep.RegionHeld3
import Derived.Deep.MidRow
import Derived.BigCall
import Derived.Laws.Tables
import Derived.Laws.Rows
import Derived.Laws.CopyOwn
namespace Go.Proofs.Qxb6600147aMods.Held

/-! Moves of a walk over a region that draws its order, by hand: 'go_region_held3' takes one long array first and no second one. -/
section
variable {P : Program} {ops : Array Oper} {Q : Exit → Act → World → Prop} {md : Region.Mode} {S : World → Prop} {i : Nat} {oi : Oper} {fuel : Nat} {listed : Array Bool} {a : Act} {w : World}

/-- take number i first, its slot d named -/
theorem take (d : Option Tmp) (v : Value) (hi : ops[i]? = some oi) (hd : oi.dst = d)
    (hs : Region.noSelect ops = true) (hf : Region.free md ops listed i = true) (hr : (Region.ready md ops listed).contains i = true)
    (hQ : ∀ c a w, Q (.panic c) (a.put d v) w → Q (.panic c) a w) (hy : YieldsIf P ops S oi v a) (hS : S w)
    (h : wpAnyH P md ops Q S fuel (listed.setIfInBounds i true) (a.put d v) w) : wpAnyH P md ops Q S (fuel + 1) listed a w := by
  subst hd
  exact wpAnyH_take hi hs hf hr hQ hy hS h

theorem yields_build (hw : Region.wanted oi (yielded ops a.tmps) = true) (t : TypeId) (parts : Array (Nat × Operand)) (ho : oi.op = .build t parts) (vals : List (Nat × Value)) (hv : (parts.map fun (i, x) => (i, a.eval x)).toList = vals)
    (cells : Array Value) (hb : P.built t vals = some cells) : YieldsIf P ops S oi (.agg cells) a :=
  .inl ⟨hw, fun w _ => by
    subst hv
    unfold execOp
    simp only [ho, Sem.run_bind, run_build w t _ cells hb, Result.andThen_ok, Sem.run_pure]⟩

theorem yields_move (hw : Region.wanted oi (yielded ops a.tmps) = true) (x : Operand) (ho : oi.op = .move x ∨ oi.op = .assign x) : YieldsIf P ops S oi (a.eval x) a :=
  .inl ⟨hw, fun w _ => by
    unfold execOp
    rcases ho with ho | ho <;> simp only [ho, Sem.run_pure]⟩

theorem yields_run (hw : Region.wanted oi (yielded ops a.tmps) = true) (v : Value) (h : ∀ w, S w → (execOp a.eval oi).run P w = .ok (.value v) w) : YieldsIf P ops S oi v a := .inl ⟨hw, h⟩

theorem yields_nilCheck (hw : Region.wanted oi (yielded ops a.tmps) = true) (x : Operand) (ho : oi.op = .nilCheck x) (p : Addr) (hx : a.eval x = .pointer (some p)) : YieldsIf P ops S oi (.pointer (some p)) a :=
  .inl ⟨hw, fun w _ => by
    unfold execOp
    simp only [ho, hx, Sem.run_pure]⟩

theorem yields_fieldAddr (hw : Region.wanted oi (yielded ops a.tmps) = true) (t : TypeId) (x : Operand) (n : Nat) (ho : oi.op = .fieldAddr t x n) (p q : Value) (hx : a.eval x = p)
    (hrun : ∀ w, (Instr.fieldAt t p n).run P w = .ok q w) : YieldsIf P ops S oi q a :=
  .inl ⟨hw, fun w _ => by
    unfold execOp
    simp only [ho, hx, Sem.run_bind, hrun, Result.andThen_ok, Sem.run_pure]⟩

theorem yields_indexAddr (hw : Region.wanted oi (yielded ops a.tmps) = true) (t : TypeId) (x ix : Operand) (ho : oi.op = .indexAddr t x ix) (p n q : Value) (hx : a.eval x = p) (hix : a.eval ix = n)
    (hrun : ∀ w, (Instr.indexAt t p n).run P w = .ok q w) : YieldsIf P ops S oi q a :=
  .inl ⟨hw, fun w _ => by
    unfold execOp
    simp only [ho, hx, hix, Sem.run_bind, hrun, Result.andThen_ok, Sem.run_pure]⟩

/-- a load of a whole row that lies from offset o of block b on, S giving the block -/
theorem yields_load (hw : Region.wanted oi (yielded ops a.tmps) = true) (ty : TypeId) (x : Operand) (ho : oi.op = .load ty x)
    (b o : Nat) (hx : a.eval x = .pointer (some ⟨b, o, none⟩)) (cs : List Value) (d : TypeDesc) (hS : ∀ w, S w → w.rangeAt b o cs)
    (hu : P.underlying ty = some d) (hd : d.isRow = true) (hinf : (P.info? ty).map (·.size) = some cs.length) : YieldsIf P ops S oi (.agg cs.toArray) a :=
  yieldsIf_load_mid hw ty x ho b o hx cs d hS hu hd hinf

/-- a load of one cell -/
theorem yields_load1 (hw : Region.wanted oi (yielded ops a.tmps) = true) (ty : TypeId) (x : Operand) (ho : oi.op = .load ty x) (p : Addr) (hx : a.eval x = .pointer (some p)) (v : Value)
    (hrun : ∀ w, S w → (Instr.loadAt ty (.pointer (some p))).run P w = .ok v w) : YieldsIf P ops S oi v a :=
  .inl ⟨hw, fun w hS => by
    unfold execOp
    simp only [ho, hx, Sem.run_bind, hrun w hS, Result.andThen_ok, Sem.run_pure]⟩

theorem yields_binOp (hw : Region.wanted oi (yielded ops a.tmps) = true) (op : BinOp) (t t' : TypeId) (x y : Operand) (ho : oi.op = .binOp op t x y t') (u v r : Value) (hx : a.eval x = u) (hy : a.eval y = v)
    (hrun : ∀ w, (do eqGuard op t x y u v; binOp op t u v : Sem Value).run P w = .ok r w) : YieldsIf P ops S oi r a :=
  .inl ⟨hw, fun w _ => by
    unfold execOp
    have h := hrun w
    simp only [ho, hx, hy]
    rw [Sem.run_bind, h]
    simp only [Result.andThen_ok, Sem.run_pure]⟩

theorem yields_convert (hw : Region.wanted oi (yielded ops a.tmps) = true) (s t : TypeId) (x : Operand) (ho : oi.op = .convert s t x) (u r : Value) (hx : a.eval x = u)
    (hrun : ∀ w, (convert s t u).run P w = .ok r w) : YieldsIf P ops S oi r a :=
  .inl ⟨hw, fun w _ => by
    unfold execOp
    simp only [ho, hx, Sem.run_bind, hrun, Result.andThen_ok, Sem.run_pure]⟩

theorem yields_slice (hw : Region.wanted oi (yielded ops a.tmps) = true) (t : TypeId) (x lo hi : Operand) (ho : oi.op = .slice t x (some lo) (some hi) none) (p l u r : Value) (hx : a.eval x = p) (hl : a.eval lo = l) (hu : a.eval hi = u)
    (hrun : ∀ w, (Instr.sliceAt t p (some l) (some u) none).run P w = .ok r w) : YieldsIf P ops S oi r a :=
  .inl ⟨hw, fun w _ => by
    unfold execOp
    simp only [ho, hx, hl, hu, Option.map_some, Option.map_none, Sem.run_bind, hrun, Result.andThen_ok, Sem.run_pure]⟩

/-- one operation comes up alone -/
theorem ready_one (hi : ops[i]? = some oi) (hg : oi.guard = none) (hr : Region.ready md ops listed = [i])
    (h : ∀ K : Act → World → Prop, (∀ a w, S w → wpAnyH P md ops Q S fuel (listed.setIfInBounds i true) a w → K a w) → Oper.wp P oi a w K Q) : wpAnyH P md ops Q S (fuel + 1) listed a w := by
  refine wpAnyH_ready hr (by simp) (AllReadyH.cons hi (fun K hK => ?_) AllReadyH.nil)
  rw [if_pos (by simp [Region.wanted, hg])]
  exact h K (fun a w hS hW => hK.out a w hS (fun _ => hW))

/-- a call of a named Go function comes up alone -/
theorem ready_call (d : Option Tmp) (fn : FuncId) (xs : Array Operand) (ats : Array TypeId) (vals : Array Value) (hi : ops[i]? = some oi)
    (ho : oi.op = .call { callee := .value (.func fn), args := xs, argTypes := ats }) (hg : oi.guard = none) (hd : oi.dst = d) (hr : Region.ready md ops listed = [i])
    (hv : xs.map a.eval = vals) (hc : ∀ args w, (callFunc fn args).run P w = .ok (.enter fn args) w)
    (h : Calls P fn vals w fun e w' => ∃ v, e = .returned v ∧ S w' ∧ wpAnyH P md ops Q S fuel (listed.setIfInBounds i true) (a.put d v) w') : wpAnyH P md ops Q S (fuel + 1) listed a w := by
  refine ready_one hi hg hr fun K hK => ?_
  subst hd
  subst hv
  unfold Oper.wp
  obtain ⟨d, op, ty, pos, after, guard⟩ := oi
  simp only at ho
  subst ho
  rw [execOp_call_go, hc]
  simp only [Array.empty_append, Array.append_empty, Oper.upon_enter]
  refine h.mono ?_
  rintro e w' ⟨v, rfl, hS, hW⟩
  exact hK _ _ hS hW

/-- a whole value boxed comes up alone -/
theorem ready_box (d : Option Tmp) (t : TypeId) (x : Operand) (cells : Array Value) (hi : ops[i]? = some oi) (ho : oi.op = .box t x) (hg : oi.guard = none) (hd : oi.dst = d) (hr : Region.ready md ops listed = [i])
    (hx : a.eval x = .agg cells) (hS : S (w.alloc (.cells cells t)))
    (h : wpAnyH P md ops Q S fuel (listed.setIfInBounds i true) (a.put d (.pointer (some ⟨w.heap.size, 0, none⟩))) (w.alloc (.cells cells t))) : wpAnyH P md ops Q S (fuel + 1) listed a w := by
  refine ready_one hi hg hr fun K hK => ?_
  subst hd
  have hrun : (Instr.box t (.agg cells)).run P w = .ok (.pointer (some ⟨w.heap.size, 0, none⟩)) (w.alloc (.cells cells t)) := by
    simp [Instr.box, newVar, go_sem]
  unfold Oper.wp execOp
  simp only [ho, hx, Sem.run_bind, hrun, Result.andThen_ok, Sem.run_pure, Oper.upon_value]
  exact hK _ _ hS h

/-- a whole row stored comes up alone -/
theorem ready_store (t : TypeId) (x y : Operand) (b : Nat) (cells old : Array Value) (tb : TypeId) (hi : ops[i]? = some oi) (ho : oi.op = .store t x y) (hg : oi.guard = none) (hd : oi.dst = none) (hr : Region.ready md ops listed = [i])
    (hx : a.eval x = .pointer (some ⟨b, 0, none⟩)) (hy : a.eval y = .agg cells) (hb : w.heap[b]? = some (.cells old tb (0, 0))) (hinf : (P.info? t).map (·.size) = some cells.size) (hsz : old.size = cells.size)
    (h1 : cells.all (·.oneCell') = true) (hS : S (w.setRow b cells))
    (h : wpAnyH P md ops Q S fuel (listed.setIfInBounds i true) a (w.setRow b cells)) : wpAnyH P md ops Q S (fuel + 1) listed a w := by
  refine ready_one hi hg hr fun K hK => ?_
  refine wp_store_row t x y ho b cells hx hy tb old hb hinf hsz h1 ?_
  rw [hd]
  exact hK _ _ hS h

/-- a variable made comes up alone -/
theorem ready_alloc (d : Option Tmp) (t : TypeId) (zc : Array Value) (hi : ops[i]? = some oi) (ho : oi.op = .alloc t) (hg : oi.guard = none) (hd : oi.dst = d) (hr : Region.ready md ops listed = [i])
    (hz : ∀ w, (Instr.alloc t true (.tuple #[])).run P w = .ok (.pointer (some ⟨w.heap.size, 0, none⟩)) (w.alloc (.cells zc t)))
    (hS : S (w.alloc (.cells zc t)))
    (h : wpAnyH P md ops Q S fuel (listed.setIfInBounds i true) (a.put d (.pointer (some ⟨w.heap.size, 0, none⟩))) (w.alloc (.cells zc t))) : wpAnyH P md ops Q S (fuel + 1) listed a w := by
  refine ready_one hi hg hr fun K hK => ?_
  subst hd
  unfold Oper.wp execOp
  simp only [ho, Sem.run_bind, hz, Result.andThen_ok, Sem.run_pure, Oper.upon_value]
  exact hK _ _ hS h

/-- a call, or a variable made: whichever comes up -/
theorem ready_call_alloc {j : Nat} {oj : Oper} (d : Option Tmp) (fn : FuncId) (xs : Array Operand) (ats : Array TypeId) (vals : Array Value) (d' : Option Tmp) (t : TypeId) (zc : Array Value) (hi : ops[i]? = some oi)
    (ho : oi.op = .call { callee := .value (.func fn), args := xs, argTypes := ats }) (hg : oi.guard = none) (hd : oi.dst = d)
    (hj : ops[j]? = some oj) (ho' : oj.op = .alloc t) (hg' : oj.guard = none) (hd' : oj.dst = d')
    (hr : Region.ready md ops listed = [i, j])
    (hv : xs.map a.eval = vals) (hc : ∀ args w, (callFunc fn args).run P w = .ok (.enter fn args) w)
    (hz : ∀ w, (Instr.alloc t true (.tuple #[])).run P w = .ok (.pointer (some ⟨w.heap.size, 0, none⟩)) (w.alloc (.cells zc t)))
    (hS : S (w.alloc (.cells zc t)))
    (h' : wpAnyH P md ops Q S fuel (listed.setIfInBounds j true) (a.put d' (.pointer (some ⟨w.heap.size, 0, none⟩))) (w.alloc (.cells zc t)))
    (h : Calls P fn vals w fun e w' => ∃ v, e = .returned v ∧ S w' ∧ wpAnyH P md ops Q S fuel (listed.setIfInBounds i true) (a.put d v) w') : wpAnyH P md ops Q S (fuel + 1) listed a w := by
  refine wpAnyH_ready hr (by simp) (AllReadyH.cons hi (fun K hK => ?_) (AllReadyH.cons hj (fun K hK => ?_) AllReadyH.nil))
  · rw [if_pos (by simp [Region.wanted, hg])]
    subst hd
    subst hv
    unfold Oper.wp
    obtain ⟨d, op, ty, pos, after, guard⟩ := oi
    simp only at ho
    subst ho
    rw [execOp_call_go, hc]
    simp only [Array.empty_append, Array.append_empty, Oper.upon_enter]
    refine h.mono ?_
    rintro e w' ⟨v, rfl, hS, hW⟩
    exact hK.out _ _ hS (fun _ => hW)
  · rw [if_pos (by simp [Region.wanted, hg'])]
    subst hd'
    unfold Oper.wp execOp
    simp only [ho', Sem.run_bind, hz, Result.andThen_ok, Sem.run_pure, Oper.upon_value]
    exact hK.out _ _ hS (fun _ => h')

/-- the builtin copy comes up alone -/
theorem ready_copy (d : Option Tmp) (ds ss : Operand) (dT sT : TypeId) (hi : ops[i]? = some oi) (ho : oi.op = .call { callee := .builtin .copy, args := #[ds, ss], argTypes := #[dT, sT] }) (hg : oi.guard = none) (hd : oi.dst = d) (hr : Region.ready md ops listed = [i])
    (elem : TypeId) (hu : P.underlying dT = some (.slice elem)) (hsz : (P.info? elem).map (·.size) = some 1)
    (dp sp : Option Addr) (dLen dCap sLen sCap : Nat) (hds : a.eval ds = .slice dp dLen dCap) (hss : a.eval ss = .slice sp sLen sCap)
    (g off : Nat) (cur : List Value) (t : TypeId) (hgr : w.heap[g]? = some (.cells cur.toArray t (0, 0))) (cs : List Value) (hn : cs.length = Nat.min sLen dLen)
    (hpos : 0 < cs.length → dp = some ⟨g, off, none⟩ ∧ ∃ ad, sp = some ad ∧ ∀ j v, cs[j]? = some v → w.cell? (ad.add j) = some v)
    (hfit : off + cs.length ≤ cur.length) (h1 : ∀ v ∈ cs, v.oneCell' = true) (B : Nat) (w0 : World) (hb : RowKit.Below B w0 w) (hBg : B ≤ g)
    (h : ∀ w', w'.heap[g]? = some (.cells (splice cur off cs).toArray t (0, 0)) → RowKit.Below B w0 w' → S w' ∧ wpAnyH P md ops Q S fuel (listed.setIfInBounds i true) (a.put d (goInt cs.length)) w') : wpAnyH P md ops Q S (fuel + 1) listed a w := by
  refine wpAnyH_ready hr (by simp) (AllReadyH.cons hi (fun K hK => ?_) AllReadyH.nil)
  subst hd
  refine step_copy_splice hg ds ss dT sT ho elem hu hsz dp sp dLen dCap sLen sCap hds hss g off cur t hgr cs hn hpos hfit h1 B w0 hb hBg fun w' hw' hb' => ?_
  have := h w' hw'.out hb'
  exact hK.out _ _ this.1 (fun _ => this.2)

end
end Go.Proofs.Qxb6600147aMods.Held
