import JvmDerived
import JvmDerived.Pilot.@@N@@Statement
import JvmDerived.Pilot.@@N@@Code
set_option linter.unusedVariables false
set_option linter.unusedSimpArgs false
@@BLOCK:TracedD.lean.txt@@

namespace Jvm.OwnK
open Sem ClassFile Op Lib Bundle Jvm.Free Jvm.Stand Jvm.LawKit Jvm.RoadKit
/-- is nothing ever interned? -/
def NW : Bool := false
/-- the tables since the start; where nothing is ever interned, the narrow word too -/
def Sn (EL : List (String × Nat)) (s : State) (vm0 : Vm) (k0 : Nat) : Prop := s.Since vm0 k0 ∧ (NW = true → s.WarmedH vm0)
/-- the end of an invocation, likewise -/
def RE (EL : List (String × Nat)) (s : State) (o : Outcome) (t : State) (L : List Loc) (k n : Nat) : Prop := ReturnedEndW s o t L k n ∧ (NW = true → s.WarmedH t.vm)
/-- where a walk stands: its Stand over the start with the tables at hand, what is known of the tables and the heap, and the fixed facts of the body -/
def Wk (p : Program) (l : Launch) (e : Env) (R : Room) (s : State) (m : MethodId) (args : Array Value) (below : List Frame) (meth : Method) (c : Code) (Z : State) (a0 : Array Value) (EL : List (String × Nat)) (n0 : Nat) (own nm : String) (bytes : ByteArray) (maxL : Nat) (ret : Option FieldType) (T : State) (vm0 : Vm) (h : Heap) (cells slots : Nat) : Prop :=
  (∃ (k0 : Nat) (locs : List Loc), Stand p l e R (s.setVm vm0) m args below meth c T locs cells slots ∧ Sn EL s vm0 k0 ∧ k0 ≤ h.size ∧ Fr n0 locs) ∧
  (T.heap = h ∧ Z.Warmed39 vm0 ∧ vm0.findClass own = some m.cls ∧ CHr Z EL s.vm s.heap vm0 h) ∧
  (Old Z n0 s.heap ∧ p.tables.exec = Jvm.exec ∧ c.code = bytes ∧ c.maxLocals = maxL ∧ meth.sig.returnType = ret ∧ meth.locks = false ∧ meth.name = nm ∧ EW Z a0 EL)
/-- from U the invocation comes to its end, returns, and Q holds there -/
def Go (p : Program) (e : Env) (below : List Frame) (s : State) (R : Room) (Z : State) (EL : List (String × Nat)) (n0 : Nat) (Q : Option Value → Vm → Heap → Prop) (U : State) : Prop :=
  ∃ s₂ o, Steps p.tables e below U s₂ ∧ s₂.status = .running ∧ Ended s₂ below o ∧ ∃ v L, o = .returned v ∧ Q v s₂.vm s₂.heap ∧ Fr n0 L ∧ CHr Z EL s.vm s.heap s₂.vm s₂.heap ∧ RE EL s o s₂ L R.cells R.slots
/-- a callee's contract -/
def Con (l : Launch) (Z : State) (EL : List (String × Nat)) (n0 : Nat) (y : MethodName) (bytes : ByteArray) (maxL : Nat) (ret : Option FieldType) (ws : List Cond) (rm : Room) (as' : Array Value) (h : Heap) (S : List Addr) (Q : Option Value → Vm → Heap → Prop) : Prop :=
  MetFree l y (head1 (Cond.code y bytes maxL ret :: ws) rm) (fun a U => a = as' ∧ Z.Warmed39 U.vm ∧ U.heap = h ∧ CHv Z EL U.vm h ∧ ∀ x ∈ S, Safe Z EL U.vm h x) (fun _ _ _ _ _ => True)
    (fun _ U o U' => ∃ v L, o = .returned v ∧ Q v U'.vm U'.heap ∧ Fr n0 L ∧ CHr Z EL U.vm U.heap U'.vm U'.heap ∧ RE EL U o U' L rm.cells rm.slots)
/-- a cell that this law made and that no booked literal is -/
def Mine (Z : State) (EL : List (String × Nat)) (n0 : Nat) (vm : Vm) (h : Heap) (a : Addr) : Prop := n0 ≤ a ∧ a < h.size ∧ Safe Z EL vm h a
section
variable {p : Program} {l : Launch} {e : Env} {R : Room} {s : State} {m : MethodId} {args : Array Value} {below : List Frame} {meth : Method} {c : Code} {Z : State} {a0 : Array Value} {EL : List (String × Nat)} {n0 : Nat} {own nm : String} {bytes : ByteArray} {maxL : Nat} {ret : Option FieldType} {T : State} {vm0 : Vm} {h : Heap} {cells slots : Nat} {Q : Option Value → Vm → Heap → Prop} {pc pc' : Nat} {Ls : Array Slot} {st : List Value}
theorem bl {a b : Nat} (h : Nat.ble a b = true) : a ≤ b := Nat.le_of_ble_eq_true h
theorem le {a b : Nat} (h : a = b) : a ≤ b := Nat.le_of_eq h
theorem bt {a b : Nat} (h : Nat.ble (a + 1) b = true) : a < b := Nat.le_of_ble_eq_true h
theorem nlt {a : Addr} {n : Nat} (h : a < n) : @LT.lt Nat instLTNat a n := h
theorem Mine.mv {vm vm' : Vm} {h h' : Heap} {a : Addr} (M : Mine Z EL n0 vm h a) (C : CHr Z EL vm h vm' h') : Mine Z EL n0 vm' h' a := ⟨M.1, Nat.lt_of_lt_of_le M.2.1 C.2.1, C.safe M.2.1 M.2.2⟩
theorem Go.up {U U' : State} (f : ∀ t, Steps p.tables e below U' t → Steps p.tables e below U t) (g : Go p e below s R Z EL n0 Q U') : Go p e below s R Z EL n0 Q U := by
  obtain ⟨s2, o, a, b⟩ := g
  exact ⟨s2, o, f _ a, b⟩
theorem Go.imp {U : State} {Q' : Option Value → Vm → Heap → Prop} (f : ∀ v vm h, Q v vm h → Q' v vm h) (g : Go p e below s R Z EL n0 Q U) : Go p e below s R Z EL n0 Q' U := by
  obtain ⟨s2, o, a, b, d, v, L, h1, h2, h3⟩ := g
  exact ⟨s2, o, a, b, d, v, L, h1, f _ _ _ h2, h3⟩
theorem Wk.here (W : Wk p l e R s m args below meth c Z a0 EL n0 own nm bytes maxL ret T vm0 h cells slots) : At T m c below := by obtain ⟨⟨_, _, X, _⟩, _⟩ := W; exact X.here
theorem Wk.ex (W : Wk p l e R s m args below meth c Z a0 EL n0 own nm bytes maxL ret T vm0 h cells slots) : p.tables.exec = Jvm.exec := W.2.2.2.1
theorem Wk.dec (W : Wk p l e R s m args below meth c Z a0 EL n0 own nm bytes maxL ret T vm0 h cells slots) {r : Except DecodeError (Instr × Nat)} (hd : decode bytes pc = r) : decode c.code pc = r := hb W.2.2.2.2.1 hd
theorem Wk.eh (W : Wk p l e R s m args below meth c Z a0 EL n0 own nm bytes maxL ret T vm0 h cells slots) : T.heap = h := W.2.1.1
theorem Wk.hz (W : Wk p l e R s m args below meth c Z a0 EL n0 own nm bytes maxL ret T vm0 h cells slots) : Z.Warmed39 vm0 := W.2.1.2.1
theorem Wk.hown (W : Wk p l e R s m args below meth c Z a0 EL n0 own nm bytes maxL ret T vm0 h cells slots) : vm0.findClass own = some m.cls := W.2.1.2.2.1
theorem Wk.chr (W : Wk p l e R s m args below meth c Z a0 EL n0 own nm bytes maxL ret T vm0 h cells slots) : CHr Z EL s.vm s.heap vm0 h := W.2.1.2.2.2
theorem Wk.chv (W : Wk p l e R s m args below meth c Z a0 EL n0 own nm bytes maxL ret T vm0 h cells slots) : CHv Z EL vm0 h := W.2.1.2.2.2.1
theorem Wk.el (W : Wk p l e R s m args below meth c Z a0 EL n0 own nm bytes maxL ret T vm0 h cells slots) : EW Z a0 EL := W.2.2.2.2.2.2.2.2.2
theorem Wk.ml (W : Wk p l e R s m args below meth c Z a0 EL n0 own nm bytes maxL ret T vm0 h cells slots) : c.maxLocals = maxL := W.2.2.2.2.2.1
theorem Wk.rt (W : Wk p l e R s m args below meth c Z a0 EL n0 own nm bytes maxL ret T vm0 h cells slots) : meth.sig.returnType = ret := W.2.2.2.2.2.2.1
theorem Wk.lk (W : Wk p l e R s m args below meth c Z a0 EL n0 own nm bytes maxL ret T vm0 h cells slots) : meth.locks = false := W.2.2.2.2.2.2.2.1
theorem Wk.name (W : Wk p l e R s m args below meth c Z a0 EL n0 own nm bytes maxL ret T vm0 h cells slots) : meth.name = nm := W.2.2.2.2.2.2.2.2.1
theorem Wk.grew (W : Wk p l e R s m args below meth c Z a0 EL n0 own nm bytes maxL ret T vm0 h cells slots) : s.heap.size ≤ h.size := W.chr.2.1
theorem Wk.old (W : Wk p l e R s m args below meth c Z a0 EL n0 own nm bytes maxL ret T vm0 h cells slots) : Old Z n0 h := by
  obtain ⟨⟨k0, locs, X, -, -, N⟩, ⟨rfl, -⟩, ⟨O, -⟩⟩ := W
  refine ⟨O.1, Nat.le_trans O.2.1 X.same.2.1, fun b cl hcl => ?_⟩
  have hs := O.2.2 b cl hcl
  obtain ⟨c', h1, h2, -, h4⟩ := X.same.2.2.2.2.2 b cl hs
  have hb := (Array.getElem?_eq_some_iff.mp hcl).1
  rw [O.1] at hb
  have hsl : c'.slots = cl.slots := Array.ext_getElem? fun i => h4 i fun hm => absurd (N _ hm) (Nat.not_le.mpr hb)
  have hcc : c' = cl := by rw [h2, hsl]
  rw [← hcc]; exact h1
theorem Wk.n0le (W : Wk p l e R s m args below meth c Z a0 EL n0 own nm bytes maxL ret T vm0 h cells slots) : n0 ≤ h.size := W.old.1 ▸ W.old.2.1
theorem Wk.more (W : Wk p l e R s m args below meth c Z a0 EL n0 own nm bytes maxL ret T vm0 h cells slots) {cells' slots' : Nat} (h1 : cells ≤ cells') (h2 : slots ≤ slots') : Wk p l e R s m args below meth c Z a0 EL n0 own nm bytes maxL ret T vm0 h cells' slots' := by
  obtain ⟨⟨k0, locs, X, r⟩, q⟩ := W
  exact ⟨⟨k0, locs, X.more h1 h2, r⟩, q⟩

theorem s_aload_n (W : Wk p l e R s m args below meth c Z a0 EL n0 own nm bytes maxL ret T vm0 h cells slots) {k : Fin 4} {v : Value} (hd : decode bytes pc = .ok (.aload_n k, 1)) (hl : Ls[k.val]? = some (.val v)) (hv : v.isRef = true) (hp : pc + 1 = pc') (k : Go p e below s R Z EL n0 Q (T.setTop (mkF m pc' Ls (v :: st)))) : Go p e below s R Z EL n0 Q (T.setTop (mkF m pc Ls st)) := by
  subst hp; exact Go.up (fun t q => Jvm.Free.XS.aloadN W.here W.ex rfl (W.dec hd) hl hv q) k
theorem s_aload (W : Wk p l e R s m args below meth c Z a0 EL n0 own nm bytes maxL ret T vm0 h cells slots) {k : Nat} {v : Value} (hd : decode bytes pc = .ok (.aload k, 2)) (hl : Ls[k]? = some (.val v)) (hv : v.isRef = true) (hp : pc + 2 = pc') (k : Go p e below s R Z EL n0 Q (T.setTop (mkF m pc' Ls (v :: st)))) : Go p e below s R Z EL n0 Q (T.setTop (mkF m pc Ls st)) := by
  subst hp; exact Go.up (fun t q => Jvm.Free.XS.aload W.here W.ex rfl (W.dec hd) hl hv q) k
theorem s_iload_n (W : Wk p l e R s m args below meth c Z a0 EL n0 own nm bytes maxL ret T vm0 h cells slots) {k : Fin 4} {v : Int32} (hd : decode bytes pc = .ok (.iload_n k, 1)) (hl : Ls[k.val]? = some (.val (.int v))) (hp : pc + 1 = pc') (k : Go p e below s R Z EL n0 Q (T.setTop (mkF m pc' Ls (.int v :: st)))) : Go p e below s R Z EL n0 Q (T.setTop (mkF m pc Ls st)) := by
  subst hp; exact Go.up (fun t q => Jvm.Free.XS.iloadN W.here W.ex rfl (W.dec hd) hl q) k
theorem s_iload (W : Wk p l e R s m args below meth c Z a0 EL n0 own nm bytes maxL ret T vm0 h cells slots) {k : Nat} {v : Int32} (hd : decode bytes pc = .ok (.iload k, 2)) (hl : Ls[k]? = some (.val (.int v))) (hp : pc + 2 = pc') (k : Go p e below s R Z EL n0 Q (T.setTop (mkF m pc' Ls (.int v :: st)))) : Go p e below s R Z EL n0 Q (T.setTop (mkF m pc Ls st)) := by
  subst hp; exact Go.up (fun t q => Jvm.Free.XS.iload W.here W.ex rfl (W.dec hd) hl q) k
theorem s_lload_n (W : Wk p l e R s m args below meth c Z a0 EL n0 own nm bytes maxL ret T vm0 h cells slots) {k : Fin 4} {v : Int64} (hd : decode bytes pc = .ok (.lload_n k, 1)) (hl : Ls[k.val]? = some (.val (.long v))) (hp : pc + 1 = pc') (k : Go p e below s R Z EL n0 Q (T.setTop (mkF m pc' Ls (.long v :: st)))) : Go p e below s R Z EL n0 Q (T.setTop (mkF m pc Ls st)) := by
  subst hp; exact Go.up (fun t q => Jvm.Free.XT.lloadN W.here W.ex rfl (W.dec hd) hl q) k
theorem s_lload (W : Wk p l e R s m args below meth c Z a0 EL n0 own nm bytes maxL ret T vm0 h cells slots) {k : Nat} {v : Int64} (hd : decode bytes pc = .ok (.lload k, 2)) (hl : Ls[k]? = some (.val (.long v))) (hp : pc + 2 = pc') (k : Go p e below s R Z EL n0 Q (T.setTop (mkF m pc' Ls (.long v :: st)))) : Go p e below s R Z EL n0 Q (T.setTop (mkF m pc Ls st)) := by
  subst hp; exact Go.up (fun t q => Jvm.Free.XT.lload W.here W.ex rfl (W.dec hd) hl q) k
theorem s_iconst (W : Wk p l e R s m args below meth c Z a0 EL n0 own nm bytes maxL ret T vm0 h cells slots) {i : Int} (v : Int32) (hd : decode bytes pc = .ok (.iconst i, 1)) (hv : Int32.ofInt i = v) (hp : pc + 1 = pc') (k : Go p e below s R Z EL n0 Q (T.setTop (mkF m pc' Ls (.int v :: st)))) : Go p e below s R Z EL n0 Q (T.setTop (mkF m pc Ls st)) := by
  subst hp; exact Go.up (fun t q => Jvm.Free.XT.iconstV W.here W.ex rfl v (W.dec hd) hv q) k
theorem s_bipush (W : Wk p l e R s m args below meth c Z a0 EL n0 own nm bytes maxL ret T vm0 h cells slots) {i : Int} (v : Int32) (hd : decode bytes pc = .ok (.bipush i, 2)) (hv : (Int8.ofInt i).toInt32 = v) (hp : pc + 2 = pc') (k : Go p e below s R Z EL n0 Q (T.setTop (mkF m pc' Ls (.int v :: st)))) : Go p e below s R Z EL n0 Q (T.setTop (mkF m pc Ls st)) := by
  subst hp; exact Go.up (fun t q => Jvm.Free.XT.bipushV W.here W.ex rfl v (W.dec hd) hv q) k
theorem s_sipush (W : Wk p l e R s m args below meth c Z a0 EL n0 own nm bytes maxL ret T vm0 h cells slots) {i : Int} (v : Int32) (hd : decode bytes pc = .ok (.sipush i, 3)) (hv : (Int16.ofInt i).toInt32 = v) (hp : pc + 3 = pc') (k : Go p e below s R Z EL n0 Q (T.setTop (mkF m pc' Ls (.int v :: st)))) : Go p e below s R Z EL n0 Q (T.setTop (mkF m pc Ls st)) := by
  subst hp; exact Go.up (fun t q => Jvm.Free.XT.sipushV W.here W.ex rfl v (W.dec hd) hv q) k
theorem s_lconst (W : Wk p l e R s m args below meth c Z a0 EL n0 own nm bytes maxL ret T vm0 h cells slots) {k : Fin 2} (v : Int64) (hd : decode bytes pc = .ok (.lconst k, 1)) (hv : Int64.ofNat k = v) (hp : pc + 1 = pc') (k : Go p e below s R Z EL n0 Q (T.setTop (mkF m pc' Ls (.long v :: st)))) : Go p e below s R Z EL n0 Q (T.setTop (mkF m pc Ls st)) := by
  subst hp; exact Go.up (fun t q => Jvm.Free.XT.lconstV W.here W.ex rfl v (W.dec hd) hv q) k
theorem s_aconst_null (W : Wk p l e R s m args below meth c Z a0 EL n0 own nm bytes maxL ret T vm0 h cells slots)  (hd : decode bytes pc = .ok (.aconst_null, 1))  (hp : pc + 1 = pc') (k : Go p e below s R Z EL n0 Q (T.setTop (mkF m pc' Ls (.null :: st)))) : Go p e below s R Z EL n0 Q (T.setTop (mkF m pc Ls st)) := by
  subst hp; exact Go.up (fun t q => Jvm.Free.XS.aconstNull W.here W.ex rfl (W.dec hd)  q) k
theorem s_iadd (W : Wk p l e R s m args below meth c Z a0 EL n0 own nm bytes maxL ret T vm0 h cells slots) {x y : Int32} (hd : decode bytes pc = .ok (.iadd, 1))  (hp : pc + 1 = pc') (k : Go p e below s R Z EL n0 Q (T.setTop (mkF m pc' Ls (.int (x + y) :: st)))) : Go p e below s R Z EL n0 Q (T.setTop (mkF m pc Ls (.int y :: .int x :: st))) := by
  subst hp; exact Go.up (fun t q => Jvm.Free.XS.iadd W.here W.ex rfl (W.dec hd) rfl q) k
theorem s_isub (W : Wk p l e R s m args below meth c Z a0 EL n0 own nm bytes maxL ret T vm0 h cells slots) {x y : Int32} (hd : decode bytes pc = .ok (.isub, 1))  (hp : pc + 1 = pc') (k : Go p e below s R Z EL n0 Q (T.setTop (mkF m pc' Ls (.int (x - y) :: st)))) : Go p e below s R Z EL n0 Q (T.setTop (mkF m pc Ls (.int y :: .int x :: st))) := by
  subst hp; exact Go.up (fun t q => Jvm.Free.XS.isub W.here W.ex rfl (W.dec hd) rfl q) k
theorem s_iand (W : Wk p l e R s m args below meth c Z a0 EL n0 own nm bytes maxL ret T vm0 h cells slots) {x y : Int32} (hd : decode bytes pc = .ok (.iand, 1))  (hp : pc + 1 = pc') (k : Go p e below s R Z EL n0 Q (T.setTop (mkF m pc' Ls (.int (x &&& y) :: st)))) : Go p e below s R Z EL n0 Q (T.setTop (mkF m pc Ls (.int y :: .int x :: st))) := by
  subst hp; exact Go.up (fun t q => Jvm.Free.XS.iand W.here W.ex rfl (W.dec hd) rfl q) k
theorem s_imul (W : Wk p l e R s m args below meth c Z a0 EL n0 own nm bytes maxL ret T vm0 h cells slots) {x y : Int32} (hd : decode bytes pc = .ok (.imul, 1))  (hp : pc + 1 = pc') (k : Go p e below s R Z EL n0 Q (T.setTop (mkF m pc' Ls (.int (x * y) :: st)))) : Go p e below s R Z EL n0 Q (T.setTop (mkF m pc Ls (.int y :: .int x :: st))) := by
  subst hp; exact Go.up (fun t q => Jvm.Free.XS.imul W.here W.ex rfl (W.dec hd) rfl q) k
theorem s_ixor (W : Wk p l e R s m args below meth c Z a0 EL n0 own nm bytes maxL ret T vm0 h cells slots) {x y : Int32} (hd : decode bytes pc = .ok (.ixor, 1))  (hp : pc + 1 = pc') (k : Go p e below s R Z EL n0 Q (T.setTop (mkF m pc' Ls (.int (x ^^^ y) :: st)))) : Go p e below s R Z EL n0 Q (T.setTop (mkF m pc Ls (.int y :: .int x :: st))) := by
  subst hp; exact Go.up (fun t q => Jvm.Free.XT.ixor W.here W.ex rfl (W.dec hd) rfl q) k
theorem s_ior (W : Wk p l e R s m args below meth c Z a0 EL n0 own nm bytes maxL ret T vm0 h cells slots) {x y : Int32} (hd : decode bytes pc = .ok (.ior, 1))  (hp : pc + 1 = pc') (k : Go p e below s R Z EL n0 Q (T.setTop (mkF m pc' Ls (.int (x ||| y) :: st)))) : Go p e below s R Z EL n0 Q (T.setTop (mkF m pc Ls (.int y :: .int x :: st))) := by
  subst hp; exact Go.up (fun t q => Jvm.Free.XT.ior W.here W.ex rfl (W.dec hd) rfl q) k
theorem s_ishl (W : Wk p l e R s m args below meth c Z a0 EL n0 own nm bytes maxL ret T vm0 h cells slots) {x y : Int32} (hd : decode bytes pc = .ok (.ishl, 1))  (hp : pc + 1 = pc') (k : Go p e below s R Z EL n0 Q (T.setTop (mkF m pc' Ls (.int (x <<< (y &&& 31)) :: st)))) : Go p e below s R Z EL n0 Q (T.setTop (mkF m pc Ls (.int y :: .int x :: st))) := by
  subst hp; exact Go.up (fun t q => Jvm.Free.XT.ishl W.here W.ex rfl (W.dec hd) rfl q) k
theorem s_ishr (W : Wk p l e R s m args below meth c Z a0 EL n0 own nm bytes maxL ret T vm0 h cells slots) {x y : Int32} (hd : decode bytes pc = .ok (.ishr, 1))  (hp : pc + 1 = pc') (k : Go p e below s R Z EL n0 Q (T.setTop (mkF m pc' Ls (.int (x >>> (y &&& 31)) :: st)))) : Go p e below s R Z EL n0 Q (T.setTop (mkF m pc Ls (.int y :: .int x :: st))) := by
  subst hp; exact Go.up (fun t q => Jvm.Free.XT.ishr W.here W.ex rfl (W.dec hd) rfl q) k
theorem s_iushr (W : Wk p l e R s m args below meth c Z a0 EL n0 own nm bytes maxL ret T vm0 h cells slots) {x y : Int32} (hd : decode bytes pc = .ok (.iushr, 1))  (hp : pc + 1 = pc') (k : Go p e below s R Z EL n0 Q (T.setTop (mkF m pc' Ls (.int (Jvm.Free.XT.ushr x y) :: st)))) : Go p e below s R Z EL n0 Q (T.setTop (mkF m pc Ls (.int y :: .int x :: st))) := by
  subst hp; exact Go.up (fun t q => Jvm.Free.XT.iushr W.here W.ex rfl (W.dec hd) rfl q) k
theorem s_ladd (W : Wk p l e R s m args below meth c Z a0 EL n0 own nm bytes maxL ret T vm0 h cells slots) {x y : Int64} (hd : decode bytes pc = .ok (.ladd, 1))  (hp : pc + 1 = pc') (k : Go p e below s R Z EL n0 Q (T.setTop (mkF m pc' Ls (.long (x + y) :: st)))) : Go p e below s R Z EL n0 Q (T.setTop (mkF m pc Ls (.long y :: .long x :: st))) := by
  subst hp; exact Go.up (fun t q => Jvm.Free.XT.ladd W.here W.ex rfl (W.dec hd) rfl q) k
theorem s_lsub (W : Wk p l e R s m args below meth c Z a0 EL n0 own nm bytes maxL ret T vm0 h cells slots) {x y : Int64} (hd : decode bytes pc = .ok (.lsub, 1))  (hp : pc + 1 = pc') (k : Go p e below s R Z EL n0 Q (T.setTop (mkF m pc' Ls (.long (x - y) :: st)))) : Go p e below s R Z EL n0 Q (T.setTop (mkF m pc Ls (.long y :: .long x :: st))) := by
  subst hp; exact Go.up (fun t q => Jvm.Free.XT.lsub W.here W.ex rfl (W.dec hd) rfl q) k
theorem s_lmul (W : Wk p l e R s m args below meth c Z a0 EL n0 own nm bytes maxL ret T vm0 h cells slots) {x y : Int64} (hd : decode bytes pc = .ok (.lmul, 1))  (hp : pc + 1 = pc') (k : Go p e below s R Z EL n0 Q (T.setTop (mkF m pc' Ls (.long (x * y) :: st)))) : Go p e below s R Z EL n0 Q (T.setTop (mkF m pc Ls (.long y :: .long x :: st))) := by
  subst hp; exact Go.up (fun t q => Jvm.Free.XT.lmul W.here W.ex rfl (W.dec hd) rfl q) k
theorem s_land (W : Wk p l e R s m args below meth c Z a0 EL n0 own nm bytes maxL ret T vm0 h cells slots) {x y : Int64} (hd : decode bytes pc = .ok (.land, 1))  (hp : pc + 1 = pc') (k : Go p e below s R Z EL n0 Q (T.setTop (mkF m pc' Ls (.long (x &&& y) :: st)))) : Go p e below s R Z EL n0 Q (T.setTop (mkF m pc Ls (.long y :: .long x :: st))) := by
  subst hp; exact Go.up (fun t q => Jvm.Free.XT.land W.here W.ex rfl (W.dec hd) rfl q) k
theorem s_lor (W : Wk p l e R s m args below meth c Z a0 EL n0 own nm bytes maxL ret T vm0 h cells slots) {x y : Int64} (hd : decode bytes pc = .ok (.lor, 1))  (hp : pc + 1 = pc') (k : Go p e below s R Z EL n0 Q (T.setTop (mkF m pc' Ls (.long (x ||| y) :: st)))) : Go p e below s R Z EL n0 Q (T.setTop (mkF m pc Ls (.long y :: .long x :: st))) := by
  subst hp; exact Go.up (fun t q => Jvm.Free.XT.lor W.here W.ex rfl (W.dec hd) rfl q) k
theorem s_lxor (W : Wk p l e R s m args below meth c Z a0 EL n0 own nm bytes maxL ret T vm0 h cells slots) {x y : Int64} (hd : decode bytes pc = .ok (.lxor, 1))  (hp : pc + 1 = pc') (k : Go p e below s R Z EL n0 Q (T.setTop (mkF m pc' Ls (.long (x ^^^ y) :: st)))) : Go p e below s R Z EL n0 Q (T.setTop (mkF m pc Ls (.long y :: .long x :: st))) := by
  subst hp; exact Go.up (fun t q => Jvm.Free.XT.lxor W.here W.ex rfl (W.dec hd) rfl q) k
theorem s_lshl (W : Wk p l e R s m args below meth c Z a0 EL n0 own nm bytes maxL ret T vm0 h cells slots) {x : Int64} {y : Int32} (hd : decode bytes pc = .ok (.lshl, 1))  (hp : pc + 1 = pc') (k : Go p e below s R Z EL n0 Q (T.setTop (mkF m pc' Ls (.long (x <<< (y.toInt64 &&& 63)) :: st)))) : Go p e below s R Z EL n0 Q (T.setTop (mkF m pc Ls (.int y :: .long x :: st))) := by
  subst hp; exact Go.up (fun t q => Jvm.Free.XT.lshl W.here W.ex rfl (W.dec hd) rfl q) k
theorem s_lshr (W : Wk p l e R s m args below meth c Z a0 EL n0 own nm bytes maxL ret T vm0 h cells slots) {x : Int64} {y : Int32} (hd : decode bytes pc = .ok (.lshr, 1))  (hp : pc + 1 = pc') (k : Go p e below s R Z EL n0 Q (T.setTop (mkF m pc' Ls (.long (x >>> (y.toInt64 &&& 63)) :: st)))) : Go p e below s R Z EL n0 Q (T.setTop (mkF m pc Ls (.int y :: .long x :: st))) := by
  subst hp; exact Go.up (fun t q => Jvm.Free.XT.lshr W.here W.ex rfl (W.dec hd) rfl q) k
theorem s_lushr (W : Wk p l e R s m args below meth c Z a0 EL n0 own nm bytes maxL ret T vm0 h cells slots) {x : Int64} {y : Int32} (hd : decode bytes pc = .ok (.lushr, 1))  (hp : pc + 1 = pc') (k : Go p e below s R Z EL n0 Q (T.setTop (mkF m pc' Ls (.long (Jvm.Free.XT.ushrL x y) :: st)))) : Go p e below s R Z EL n0 Q (T.setTop (mkF m pc Ls (.int y :: .long x :: st))) := by
  subst hp; exact Go.up (fun t q => Jvm.Free.XT.lushr W.here W.ex rfl (W.dec hd) rfl q) k
theorem s_ineg (W : Wk p l e R s m args below meth c Z a0 EL n0 own nm bytes maxL ret T vm0 h cells slots) {x : Int32} (hd : decode bytes pc = .ok (.ineg, 1))  (hp : pc + 1 = pc') (k : Go p e below s R Z EL n0 Q (T.setTop (mkF m pc' Ls (.int (-x) :: st)))) : Go p e below s R Z EL n0 Q (T.setTop (mkF m pc Ls (.int x :: st))) := by
  subst hp; exact Go.up (fun t q => Jvm.Free.XS.ineg W.here W.ex rfl (W.dec hd) rfl q) k
theorem s_lneg (W : Wk p l e R s m args below meth c Z a0 EL n0 own nm bytes maxL ret T vm0 h cells slots) {x : Int64} (hd : decode bytes pc = .ok (.lneg, 1))  (hp : pc + 1 = pc') (k : Go p e below s R Z EL n0 Q (T.setTop (mkF m pc' Ls (.long (-x) :: st)))) : Go p e below s R Z EL n0 Q (T.setTop (mkF m pc Ls (.long x :: st))) := by
  subst hp; exact Go.up (fun t q => Jvm.Free.XT.lneg W.here W.ex rfl (W.dec hd) rfl q) k
theorem s_i2l (W : Wk p l e R s m args below meth c Z a0 EL n0 own nm bytes maxL ret T vm0 h cells slots) {x : Int32} (hd : decode bytes pc = .ok (.i2l, 1))  (hp : pc + 1 = pc') (k : Go p e below s R Z EL n0 Q (T.setTop (mkF m pc' Ls (.long x.toInt64 :: st)))) : Go p e below s R Z EL n0 Q (T.setTop (mkF m pc Ls (.int x :: st))) := by
  subst hp; exact Go.up (fun t q => Jvm.Free.XT.i2l W.here W.ex rfl (W.dec hd) rfl q) k
theorem s_l2i (W : Wk p l e R s m args below meth c Z a0 EL n0 own nm bytes maxL ret T vm0 h cells slots) {x : Int64} (hd : decode bytes pc = .ok (.l2i, 1))  (hp : pc + 1 = pc') (k : Go p e below s R Z EL n0 Q (T.setTop (mkF m pc' Ls (.int x.toInt32 :: st)))) : Go p e below s R Z EL n0 Q (T.setTop (mkF m pc Ls (.long x :: st))) := by
  subst hp; exact Go.up (fun t q => Jvm.Free.XT.l2i W.here W.ex rfl (W.dec hd) rfl q) k
theorem s_i2b (W : Wk p l e R s m args below meth c Z a0 EL n0 own nm bytes maxL ret T vm0 h cells slots) {x : Int32} (hd : decode bytes pc = .ok (.i2b, 1))  (hp : pc + 1 = pc') (k : Go p e below s R Z EL n0 Q (T.setTop (mkF m pc' Ls (.int x.toInt8.toInt32 :: st)))) : Go p e below s R Z EL n0 Q (T.setTop (mkF m pc Ls (.int x :: st))) := by
  subst hp; exact Go.up (fun t q => Jvm.Free.XT.i2b W.here W.ex rfl (W.dec hd) rfl q) k
theorem s_i2c (W : Wk p l e R s m args below meth c Z a0 EL n0 own nm bytes maxL ret T vm0 h cells slots) {x : Int32} (hd : decode bytes pc = .ok (.i2c, 1))  (hp : pc + 1 = pc') (k : Go p e below s R Z EL n0 Q (T.setTop (mkF m pc' Ls (.int x.toUInt32.toUInt16.toUInt32.toInt32 :: st)))) : Go p e below s R Z EL n0 Q (T.setTop (mkF m pc Ls (.int x :: st))) := by
  subst hp; exact Go.up (fun t q => Jvm.Free.XT.i2c W.here W.ex rfl (W.dec hd) rfl q) k
theorem s_i2s (W : Wk p l e R s m args below meth c Z a0 EL n0 own nm bytes maxL ret T vm0 h cells slots) {x : Int32} (hd : decode bytes pc = .ok (.i2s, 1))  (hp : pc + 1 = pc') (k : Go p e below s R Z EL n0 Q (T.setTop (mkF m pc' Ls (.int x.toInt16.toInt32 :: st)))) : Go p e below s R Z EL n0 Q (T.setTop (mkF m pc Ls (.int x :: st))) := by
  subst hp; exact Go.up (fun t q => Jvm.Free.XT.i2s W.here W.ex rfl (W.dec hd) rfl q) k
theorem s_lcmp (W : Wk p l e R s m args below meth c Z a0 EL n0 own nm bytes maxL ret T vm0 h cells slots) {x y : Int64} (hd : decode bytes pc = .ok (.lcmp, 1))  (hp : pc + 1 = pc') (k : Go p e below s R Z EL n0 Q (T.setTop (mkF m pc' Ls (.int (Jvm.Free.XT.cmpL x y) :: st)))) : Go p e below s R Z EL n0 Q (T.setTop (mkF m pc Ls (.long y :: .long x :: st))) := by
  subst hp; exact Go.up (fun t q => Jvm.Free.XT.lcmp W.here W.ex rfl (W.dec hd) rfl q) k
theorem s_idiv (W : Wk p l e R s m args below meth c Z a0 EL n0 own nm bytes maxL ret T vm0 h cells slots) {x y : Int32} (hd : decode bytes pc = .ok (.idiv, 1)) (hy : y ≠ 0) (hp : pc + 1 = pc') (k : Go p e below s R Z EL n0 Q (T.setTop (mkF m pc' Ls (.int (x / y) :: st)))) : Go p e below s R Z EL n0 Q (T.setTop (mkF m pc Ls (.int y :: .int x :: st))) := by
  subst hp; exact Go.up (fun t q => Jvm.Free.XS.idiv W.here W.ex rfl (W.dec hd) rfl hy q) k
theorem s_ldiv (W : Wk p l e R s m args below meth c Z a0 EL n0 own nm bytes maxL ret T vm0 h cells slots) {x y : Int64} (hd : decode bytes pc = .ok (.ldiv, 1)) (hy : y ≠ 0) (hp : pc + 1 = pc') (k : Go p e below s R Z EL n0 Q (T.setTop (mkF m pc' Ls (.long (x / y) :: st)))) : Go p e below s R Z EL n0 Q (T.setTop (mkF m pc Ls (.long y :: .long x :: st))) := by
  subst hp; exact Go.up (fun t q => Jvm.Free.XT.ldiv W.here W.ex rfl (W.dec hd) rfl hy q) k
theorem s_irem (W : Wk p l e R s m args below meth c Z a0 EL n0 own nm bytes maxL ret T vm0 h cells slots) {x y : Int32} (hd : decode bytes pc = .ok (.irem, 1)) (hy : y ≠ 0) (hp : pc + 1 = pc') (k : Go p e below s R Z EL n0 Q (T.setTop (mkF m pc' Ls (.int (x % y) :: st)))) : Go p e below s R Z EL n0 Q (T.setTop (mkF m pc Ls (.int y :: .int x :: st))) := by
  subst hp; exact Go.up (fun t q => Jvm.Free.XS.irem W.here W.ex rfl (W.dec hd) rfl hy (by rw [show x - x / y * y = x % y from irem_eq_mod x y]; exact q)) k
theorem s_lrem (W : Wk p l e R s m args below meth c Z a0 EL n0 own nm bytes maxL ret T vm0 h cells slots) {x y : Int64} (hd : decode bytes pc = .ok (.lrem, 1)) (hy : y ≠ 0) (hp : pc + 1 = pc') (k : Go p e below s R Z EL n0 Q (T.setTop (mkF m pc' Ls (.long (x % y) :: st)))) : Go p e below s R Z EL n0 Q (T.setTop (mkF m pc Ls (.long y :: .long x :: st))) := by
  subst hp; exact Go.up (fun t q => Jvm.Free.XT.lrem W.here W.ex rfl (W.dec hd) rfl hy (by rw [show x - x / y * y = x % y from lrem_mod x y]; exact q)) k
theorem s_dup (W : Wk p l e R s m args below meth c Z a0 EL n0 own nm bytes maxL ret T vm0 h cells slots) {x : Value} (hd : decode bytes pc = .ok (.dup, 1)) (hc : x.category = 1) (hp : pc + 1 = pc') (k : Go p e below s R Z EL n0 Q (T.setTop (mkF m pc' Ls (x :: x :: st)))) : Go p e below s R Z EL n0 Q (T.setTop (mkF m pc Ls (x :: st))) := by
  subst hp; exact Go.up (fun t q => Jvm.Free.XS.dup W.here W.ex rfl (W.dec hd) rfl hc q) k
theorem s_pop (W : Wk p l e R s m args below meth c Z a0 EL n0 own nm bytes maxL ret T vm0 h cells slots) {x : Value} (hd : decode bytes pc = .ok (.pop, 1)) (hc : x.category = 1) (hp : pc + 1 = pc') (k : Go p e below s R Z EL n0 Q (T.setTop (mkF m pc' Ls st))) : Go p e below s R Z EL n0 Q (T.setTop (mkF m pc Ls (x :: st))) := by
  subst hp; exact Go.up (fun t q => Jvm.Free.XT.pop W.here W.ex rfl (W.dec hd) rfl hc q) k
theorem s_dup_x1 (W : Wk p l e R s m args below meth c Z a0 EL n0 own nm bytes maxL ret T vm0 h cells slots) {x y : Value} (hd : decode bytes pc = .ok (.dup_x1, 1)) (hc : x.category = 1) (hc' : y.category = 1) (hp : pc + 1 = pc') (k : Go p e below s R Z EL n0 Q (T.setTop (mkF m pc' Ls (x :: y :: x :: st)))) : Go p e below s R Z EL n0 Q (T.setTop (mkF m pc Ls (x :: y :: st))) := by
  subst hp; exact Go.up (fun t q => Jvm.Free.XT.dupX1 W.here W.ex rfl (W.dec hd) rfl hc hc' q) k
theorem s_dup2 (W : Wk p l e R s m args below meth c Z a0 EL n0 own nm bytes maxL ret T vm0 h cells slots) {x y : Value} (hd : decode bytes pc = .ok (.dup2, 1)) (hc : x.category = 1) (hc' : y.category = 1) (hp : pc + 1 = pc') (k : Go p e below s R Z EL n0 Q (T.setTop (mkF m pc' Ls (x :: y :: x :: y :: st)))) : Go p e below s R Z EL n0 Q (T.setTop (mkF m pc Ls (x :: y :: st))) := by
  subst hp; exact Go.up (fun t q => Jvm.Free.XT.dup2 W.here W.ex rfl (W.dec hd) rfl hc hc' q) k
theorem s_dup2L (W : Wk p l e R s m args below meth c Z a0 EL n0 own nm bytes maxL ret T vm0 h cells slots) {x : Int64} (hd : decode bytes pc = .ok (.dup2, 1))  (hp : pc + 1 = pc') (k : Go p e below s R Z EL n0 Q (T.setTop (mkF m pc' Ls (.long x :: .long x :: st)))) : Go p e below s R Z EL n0 Q (T.setTop (mkF m pc Ls (.long x :: st))) := by
  subst hp; exact Go.up (fun t q => Jvm.Free.XT.dup2L W.here W.ex rfl (W.dec hd) rfl q) k
theorem s_istore_n (W : Wk p l e R s m args below meth c Z a0 EL n0 own nm bytes maxL ret T vm0 h cells slots) {k : Fin 4} {x : Int32} (l' : Array Slot) (hd : decode bytes pc = .ok (.istore_n k, 1)) (hl : storeLocals Ls k.val (.int x) = some l') (hp : pc + 1 = pc') (k : Go p e below s R Z EL n0 Q (T.setTop (mkF m pc' l' st))) : Go p e below s R Z EL n0 Q (T.setTop (mkF m pc Ls (.int x :: st))) := by
  subst hp; exact Go.up (fun t q => Jvm.Free.XS.istoreN W.here W.ex rfl (W.dec hd) rfl hl q) k
theorem s_istore (W : Wk p l e R s m args below meth c Z a0 EL n0 own nm bytes maxL ret T vm0 h cells slots) {k : Nat} {x : Int32} (l' : Array Slot) (hd : decode bytes pc = .ok (.istore k, 2)) (hl : storeLocals Ls k (.int x) = some l') (hp : pc + 2 = pc') (k : Go p e below s R Z EL n0 Q (T.setTop (mkF m pc' l' st))) : Go p e below s R Z EL n0 Q (T.setTop (mkF m pc Ls (.int x :: st))) := by
  subst hp; exact Go.up (fun t q => Jvm.Free.XS.istore W.here W.ex rfl (W.dec hd) rfl hl q) k
theorem s_astore_n (W : Wk p l e R s m args below meth c Z a0 EL n0 own nm bytes maxL ret T vm0 h cells slots) {k : Fin 4} {x : Value} (l' : Array Slot) (hd : decode bytes pc = .ok (.astore_n k, 1)) (hv : x.isRef = true) (hl : storeLocals Ls k.val x = some l') (hp : pc + 1 = pc') (k : Go p e below s R Z EL n0 Q (T.setTop (mkF m pc' l' st))) : Go p e below s R Z EL n0 Q (T.setTop (mkF m pc Ls (x :: st))) := by
  subst hp; exact Go.up (fun t q => Jvm.Free.XS.astoreN W.here W.ex rfl (W.dec hd) rfl hv hl q) k
theorem s_astore (W : Wk p l e R s m args below meth c Z a0 EL n0 own nm bytes maxL ret T vm0 h cells slots) {k : Nat} {x : Value} (l' : Array Slot) (hd : decode bytes pc = .ok (.astore k, 2)) (hv : x.isRef = true) (hl : storeLocals Ls k x = some l') (hp : pc + 2 = pc') (k : Go p e below s R Z EL n0 Q (T.setTop (mkF m pc' l' st))) : Go p e below s R Z EL n0 Q (T.setTop (mkF m pc Ls (x :: st))) := by
  subst hp; exact Go.up (fun t q => Jvm.Free.XS.astore W.here W.ex rfl (W.dec hd) rfl hv hl q) k
theorem s_lstore_n (W : Wk p l e R s m args below meth c Z a0 EL n0 own nm bytes maxL ret T vm0 h cells slots) {k : Fin 4} {x : Int64} (l' : Array Slot) (hd : decode bytes pc = .ok (.lstore_n k, 1)) (hl : storeLocals Ls k.val (.long x) = some l') (hp : pc + 1 = pc') (k : Go p e below s R Z EL n0 Q (T.setTop (mkF m pc' l' st))) : Go p e below s R Z EL n0 Q (T.setTop (mkF m pc Ls (.long x :: st))) := by
  subst hp; exact Go.up (fun t q => Jvm.Free.XT.lstoreN W.here W.ex rfl (W.dec hd) rfl hl q) k
theorem s_lstore (W : Wk p l e R s m args below meth c Z a0 EL n0 own nm bytes maxL ret T vm0 h cells slots) {k : Nat} {x : Int64} (l' : Array Slot) (hd : decode bytes pc = .ok (.lstore k, 2)) (hl : storeLocals Ls k (.long x) = some l') (hp : pc + 2 = pc') (k : Go p e below s R Z EL n0 Q (T.setTop (mkF m pc' l' st))) : Go p e below s R Z EL n0 Q (T.setTop (mkF m pc Ls (.long x :: st))) := by
  subst hp; exact Go.up (fun t q => Jvm.Free.XT.lstore W.here W.ex rfl (W.dec hd) rfl hl q) k
theorem s_iinc (W : Wk p l e R s m args below meth c Z a0 EL n0 own nm bytes maxL ret T vm0 h cells slots) {k : Nat} {cst : Int} {x : Int32} (v : Int32) (l' : Array Slot) (hd : decode bytes pc = .ok (.iinc k cst, 3)) (hv : Int32.ofInt cst = v) (hl : Ls[k]? = some (.val (.int x))) (hl' : storeLocals Ls k (.int (x + v)) = some l') (hp : pc + 3 = pc') (k : Go p e below s R Z EL n0 Q (T.setTop (mkF m pc' l' st))) : Go p e below s R Z EL n0 Q (T.setTop (mkF m pc Ls st)) := by
  subst hp; exact Go.up (fun t q => Jvm.Free.XT.iincV W.here W.ex rfl v (W.dec hd) hv hl hl' q) k
theorem s_goto (W : Wk p l e R s m args below meth c Z a0 EL n0 own nm bytes maxL ret T vm0 h cells slots) {o : Int} (hd : decode bytes pc = .ok (.goto o, 3)) (ho : 0 ≤ (pc : Int) + o) (hp : ((pc : Int) + o).toNat = pc') (k : Go p e below s R Z EL n0 Q (T.setTop (mkF m pc' Ls st))) : Go p e below s R Z EL n0 Q (T.setTop (mkF m pc Ls st)) :=
  Go.up (fun t q => Jvm.Free.XS.goto W.here W.ex rfl rfl (W.dec hd) ho hp q) k
theorem s_ifeq (W : Wk p l e R s m args below meth c Z a0 EL n0 own nm bytes maxL ret T vm0 h cells slots) {x : Int32} {o : Int} {pcT : Nat} (hd : decode bytes pc = .ok (.ifCond .eq o, 3)) (ho : 0 ≤ (pc : Int) + o) (hpT : ((pc : Int) + o).toNat = pcT) (hp : pc + 3 = pc') (ky : x = 0 → Go p e below s R Z EL n0 Q (T.setTop (mkF m pcT Ls st))) (kn : ¬ x = 0 → Go p e below s R Z EL n0 Q (T.setTop (mkF m pc' Ls st))) : Go p e below s R Z EL n0 Q (T.setTop (mkF m pc Ls (.int x :: st))) := by
  by_cases hc : x = 0
  · exact Go.up (fun t q => Jvm.Free.XS.ifYes W.here W.ex rfl rfl (W.dec hd) rfl (Jvm.Free.XT.i0_eq_t hc) ho hpT q) (ky hc)
  · subst hp; exact Go.up (fun t q => Jvm.Free.XS.ifNo W.here W.ex rfl (W.dec hd) rfl (Jvm.Free.XT.i0_eq_f hc) q) (kn hc)
theorem s_icmpeq (W : Wk p l e R s m args below meth c Z a0 EL n0 own nm bytes maxL ret T vm0 h cells slots) {x y : Int32} {o : Int} {pcT : Nat} (hd : decode bytes pc = .ok (.if_icmp .eq o, 3)) (ho : 0 ≤ (pc : Int) + o) (hpT : ((pc : Int) + o).toNat = pcT) (hp : pc + 3 = pc') (ky : x = y → Go p e below s R Z EL n0 Q (T.setTop (mkF m pcT Ls st))) (kn : ¬ x = y → Go p e below s R Z EL n0 Q (T.setTop (mkF m pc' Ls st))) : Go p e below s R Z EL n0 Q (T.setTop (mkF m pc Ls (.int y :: .int x :: st))) := by
  by_cases hc : x = y
  · exact Go.up (fun t q => Jvm.Free.XS.icmpYes W.here W.ex rfl rfl (W.dec hd) rfl (Jvm.Free.XT.ii_eq_t hc) ho hpT q) (ky hc)
  · subst hp; exact Go.up (fun t q => Jvm.Free.XS.icmpNo W.here W.ex rfl (W.dec hd) rfl (Jvm.Free.XT.ii_eq_f hc) q) (kn hc)
theorem s_ifleq (W : Wk p l e R s m args below meth c Z a0 EL n0 own nm bytes maxL ret T vm0 h cells slots) {x y : Int64} {o : Int} {pcT : Nat} (hd : decode bytes pc = .ok (.ifCond .eq o, 3)) (ho : 0 ≤ (pc : Int) + o) (hpT : ((pc : Int) + o).toNat = pcT) (hp : pc + 3 = pc') (ky : x = y → Go p e below s R Z EL n0 Q (T.setTop (mkF m pcT Ls st))) (kn : ¬ x = y → Go p e below s R Z EL n0 Q (T.setTop (mkF m pc' Ls st))) : Go p e below s R Z EL n0 Q (T.setTop (mkF m pc Ls (.int (Jvm.Free.XT.cmpL x y) :: st))) := by
  by_cases hc : x = y
  · exact Go.up (fun t q => Jvm.Free.XS.ifYes W.here W.ex rfl rfl (W.dec hd) rfl (Jvm.Free.XT.ll_eq_t hc) ho hpT q) (ky hc)
  · subst hp; exact Go.up (fun t q => Jvm.Free.XS.ifNo W.here W.ex rfl (W.dec hd) rfl (Jvm.Free.XT.ll_eq_f hc) q) (kn hc)
theorem s_ifne (W : Wk p l e R s m args below meth c Z a0 EL n0 own nm bytes maxL ret T vm0 h cells slots) {x : Int32} {o : Int} {pcT : Nat} (hd : decode bytes pc = .ok (.ifCond .ne o, 3)) (ho : 0 ≤ (pc : Int) + o) (hpT : ((pc : Int) + o).toNat = pcT) (hp : pc + 3 = pc') (ky : ¬ x = 0 → Go p e below s R Z EL n0 Q (T.setTop (mkF m pcT Ls st))) (kn : x = 0 → Go p e below s R Z EL n0 Q (T.setTop (mkF m pc' Ls st))) : Go p e below s R Z EL n0 Q (T.setTop (mkF m pc Ls (.int x :: st))) := by
  by_cases hc : x = 0
  · subst hp; exact Go.up (fun t q => Jvm.Free.XS.ifNo W.here W.ex rfl (W.dec hd) rfl (Jvm.Free.XT.i0_ne_f hc) q) (kn hc)
  · exact Go.up (fun t q => Jvm.Free.XS.ifYes W.here W.ex rfl rfl (W.dec hd) rfl (Jvm.Free.XT.i0_ne_t hc) ho hpT q) (ky hc)
theorem s_icmpne (W : Wk p l e R s m args below meth c Z a0 EL n0 own nm bytes maxL ret T vm0 h cells slots) {x y : Int32} {o : Int} {pcT : Nat} (hd : decode bytes pc = .ok (.if_icmp .ne o, 3)) (ho : 0 ≤ (pc : Int) + o) (hpT : ((pc : Int) + o).toNat = pcT) (hp : pc + 3 = pc') (ky : ¬ x = y → Go p e below s R Z EL n0 Q (T.setTop (mkF m pcT Ls st))) (kn : x = y → Go p e below s R Z EL n0 Q (T.setTop (mkF m pc' Ls st))) : Go p e below s R Z EL n0 Q (T.setTop (mkF m pc Ls (.int y :: .int x :: st))) := by
  by_cases hc : x = y
  · subst hp; exact Go.up (fun t q => Jvm.Free.XS.icmpNo W.here W.ex rfl (W.dec hd) rfl (Jvm.Free.XT.ii_ne_f hc) q) (kn hc)
  · exact Go.up (fun t q => Jvm.Free.XS.icmpYes W.here W.ex rfl rfl (W.dec hd) rfl (Jvm.Free.XT.ii_ne_t hc) ho hpT q) (ky hc)
theorem s_iflne (W : Wk p l e R s m args below meth c Z a0 EL n0 own nm bytes maxL ret T vm0 h cells slots) {x y : Int64} {o : Int} {pcT : Nat} (hd : decode bytes pc = .ok (.ifCond .ne o, 3)) (ho : 0 ≤ (pc : Int) + o) (hpT : ((pc : Int) + o).toNat = pcT) (hp : pc + 3 = pc') (ky : ¬ x = y → Go p e below s R Z EL n0 Q (T.setTop (mkF m pcT Ls st))) (kn : x = y → Go p e below s R Z EL n0 Q (T.setTop (mkF m pc' Ls st))) : Go p e below s R Z EL n0 Q (T.setTop (mkF m pc Ls (.int (Jvm.Free.XT.cmpL x y) :: st))) := by
  by_cases hc : x = y
  · subst hp; exact Go.up (fun t q => Jvm.Free.XS.ifNo W.here W.ex rfl (W.dec hd) rfl (Jvm.Free.XT.ll_ne_f hc) q) (kn hc)
  · exact Go.up (fun t q => Jvm.Free.XS.ifYes W.here W.ex rfl rfl (W.dec hd) rfl (Jvm.Free.XT.ll_ne_t hc) ho hpT q) (ky hc)
theorem s_iflt (W : Wk p l e R s m args below meth c Z a0 EL n0 own nm bytes maxL ret T vm0 h cells slots) {x : Int32} {o : Int} {pcT : Nat} (hd : decode bytes pc = .ok (.ifCond .lt o, 3)) (ho : 0 ≤ (pc : Int) + o) (hpT : ((pc : Int) + o).toNat = pcT) (hp : pc + 3 = pc') (ky : x < 0 → Go p e below s R Z EL n0 Q (T.setTop (mkF m pcT Ls st))) (kn : ¬ x < 0 → Go p e below s R Z EL n0 Q (T.setTop (mkF m pc' Ls st))) : Go p e below s R Z EL n0 Q (T.setTop (mkF m pc Ls (.int x :: st))) := by
  by_cases hc : x < 0
  · exact Go.up (fun t q => Jvm.Free.XS.ifYes W.here W.ex rfl rfl (W.dec hd) rfl (Jvm.Free.XT.i0_lt_t hc) ho hpT q) (ky hc)
  · subst hp; exact Go.up (fun t q => Jvm.Free.XS.ifNo W.here W.ex rfl (W.dec hd) rfl (Jvm.Free.XT.i0_lt_f hc) q) (kn hc)
theorem s_icmplt (W : Wk p l e R s m args below meth c Z a0 EL n0 own nm bytes maxL ret T vm0 h cells slots) {x y : Int32} {o : Int} {pcT : Nat} (hd : decode bytes pc = .ok (.if_icmp .lt o, 3)) (ho : 0 ≤ (pc : Int) + o) (hpT : ((pc : Int) + o).toNat = pcT) (hp : pc + 3 = pc') (ky : x < y → Go p e below s R Z EL n0 Q (T.setTop (mkF m pcT Ls st))) (kn : ¬ x < y → Go p e below s R Z EL n0 Q (T.setTop (mkF m pc' Ls st))) : Go p e below s R Z EL n0 Q (T.setTop (mkF m pc Ls (.int y :: .int x :: st))) := by
  by_cases hc : x < y
  · exact Go.up (fun t q => Jvm.Free.XS.icmpYes W.here W.ex rfl rfl (W.dec hd) rfl (Jvm.Free.XT.ii_lt_t hc) ho hpT q) (ky hc)
  · subst hp; exact Go.up (fun t q => Jvm.Free.XS.icmpNo W.here W.ex rfl (W.dec hd) rfl (Jvm.Free.XT.ii_lt_f hc) q) (kn hc)
theorem s_ifllt (W : Wk p l e R s m args below meth c Z a0 EL n0 own nm bytes maxL ret T vm0 h cells slots) {x y : Int64} {o : Int} {pcT : Nat} (hd : decode bytes pc = .ok (.ifCond .lt o, 3)) (ho : 0 ≤ (pc : Int) + o) (hpT : ((pc : Int) + o).toNat = pcT) (hp : pc + 3 = pc') (ky : x < y → Go p e below s R Z EL n0 Q (T.setTop (mkF m pcT Ls st))) (kn : ¬ x < y → Go p e below s R Z EL n0 Q (T.setTop (mkF m pc' Ls st))) : Go p e below s R Z EL n0 Q (T.setTop (mkF m pc Ls (.int (Jvm.Free.XT.cmpL x y) :: st))) := by
  by_cases hc : x < y
  · exact Go.up (fun t q => Jvm.Free.XS.ifYes W.here W.ex rfl rfl (W.dec hd) rfl (Jvm.Free.XT.ll_lt_t hc) ho hpT q) (ky hc)
  · subst hp; exact Go.up (fun t q => Jvm.Free.XS.ifNo W.here W.ex rfl (W.dec hd) rfl (Jvm.Free.XT.ll_lt_f hc) q) (kn hc)
theorem s_ifge (W : Wk p l e R s m args below meth c Z a0 EL n0 own nm bytes maxL ret T vm0 h cells slots) {x : Int32} {o : Int} {pcT : Nat} (hd : decode bytes pc = .ok (.ifCond .ge o, 3)) (ho : 0 ≤ (pc : Int) + o) (hpT : ((pc : Int) + o).toNat = pcT) (hp : pc + 3 = pc') (ky : ¬ x < 0 → Go p e below s R Z EL n0 Q (T.setTop (mkF m pcT Ls st))) (kn : x < 0 → Go p e below s R Z EL n0 Q (T.setTop (mkF m pc' Ls st))) : Go p e below s R Z EL n0 Q (T.setTop (mkF m pc Ls (.int x :: st))) := by
  by_cases hc : x < 0
  · subst hp; exact Go.up (fun t q => Jvm.Free.XS.ifNo W.here W.ex rfl (W.dec hd) rfl (Jvm.Free.XT.i0_ge_f hc) q) (kn hc)
  · exact Go.up (fun t q => Jvm.Free.XS.ifYes W.here W.ex rfl rfl (W.dec hd) rfl (Jvm.Free.XT.i0_ge_t hc) ho hpT q) (ky hc)
theorem s_icmpge (W : Wk p l e R s m args below meth c Z a0 EL n0 own nm bytes maxL ret T vm0 h cells slots) {x y : Int32} {o : Int} {pcT : Nat} (hd : decode bytes pc = .ok (.if_icmp .ge o, 3)) (ho : 0 ≤ (pc : Int) + o) (hpT : ((pc : Int) + o).toNat = pcT) (hp : pc + 3 = pc') (ky : ¬ x < y → Go p e below s R Z EL n0 Q (T.setTop (mkF m pcT Ls st))) (kn : x < y → Go p e below s R Z EL n0 Q (T.setTop (mkF m pc' Ls st))) : Go p e below s R Z EL n0 Q (T.setTop (mkF m pc Ls (.int y :: .int x :: st))) := by
  by_cases hc : x < y
  · subst hp; exact Go.up (fun t q => Jvm.Free.XS.icmpNo W.here W.ex rfl (W.dec hd) rfl (Jvm.Free.XT.ii_ge_f hc) q) (kn hc)
  · exact Go.up (fun t q => Jvm.Free.XS.icmpYes W.here W.ex rfl rfl (W.dec hd) rfl (Jvm.Free.XT.ii_ge_t hc) ho hpT q) (ky hc)
theorem s_iflge (W : Wk p l e R s m args below meth c Z a0 EL n0 own nm bytes maxL ret T vm0 h cells slots) {x y : Int64} {o : Int} {pcT : Nat} (hd : decode bytes pc = .ok (.ifCond .ge o, 3)) (ho : 0 ≤ (pc : Int) + o) (hpT : ((pc : Int) + o).toNat = pcT) (hp : pc + 3 = pc') (ky : ¬ x < y → Go p e below s R Z EL n0 Q (T.setTop (mkF m pcT Ls st))) (kn : x < y → Go p e below s R Z EL n0 Q (T.setTop (mkF m pc' Ls st))) : Go p e below s R Z EL n0 Q (T.setTop (mkF m pc Ls (.int (Jvm.Free.XT.cmpL x y) :: st))) := by
  by_cases hc : x < y
  · subst hp; exact Go.up (fun t q => Jvm.Free.XS.ifNo W.here W.ex rfl (W.dec hd) rfl (Jvm.Free.XT.ll_ge_f hc) q) (kn hc)
  · exact Go.up (fun t q => Jvm.Free.XS.ifYes W.here W.ex rfl rfl (W.dec hd) rfl (Jvm.Free.XT.ll_ge_t hc) ho hpT q) (ky hc)
theorem s_ifgt (W : Wk p l e R s m args below meth c Z a0 EL n0 own nm bytes maxL ret T vm0 h cells slots) {x : Int32} {o : Int} {pcT : Nat} (hd : decode bytes pc = .ok (.ifCond .gt o, 3)) (ho : 0 ≤ (pc : Int) + o) (hpT : ((pc : Int) + o).toNat = pcT) (hp : pc + 3 = pc') (ky : 0 < x → Go p e below s R Z EL n0 Q (T.setTop (mkF m pcT Ls st))) (kn : ¬ 0 < x → Go p e below s R Z EL n0 Q (T.setTop (mkF m pc' Ls st))) : Go p e below s R Z EL n0 Q (T.setTop (mkF m pc Ls (.int x :: st))) := by
  by_cases hc : 0 < x
  · exact Go.up (fun t q => Jvm.Free.XS.ifYes W.here W.ex rfl rfl (W.dec hd) rfl (Jvm.Free.XT.i0_gt_t hc) ho hpT q) (ky hc)
  · subst hp; exact Go.up (fun t q => Jvm.Free.XS.ifNo W.here W.ex rfl (W.dec hd) rfl (Jvm.Free.XT.i0_gt_f hc) q) (kn hc)
theorem s_icmpgt (W : Wk p l e R s m args below meth c Z a0 EL n0 own nm bytes maxL ret T vm0 h cells slots) {x y : Int32} {o : Int} {pcT : Nat} (hd : decode bytes pc = .ok (.if_icmp .gt o, 3)) (ho : 0 ≤ (pc : Int) + o) (hpT : ((pc : Int) + o).toNat = pcT) (hp : pc + 3 = pc') (ky : y < x → Go p e below s R Z EL n0 Q (T.setTop (mkF m pcT Ls st))) (kn : ¬ y < x → Go p e below s R Z EL n0 Q (T.setTop (mkF m pc' Ls st))) : Go p e below s R Z EL n0 Q (T.setTop (mkF m pc Ls (.int y :: .int x :: st))) := by
  by_cases hc : y < x
  · exact Go.up (fun t q => Jvm.Free.XS.icmpYes W.here W.ex rfl rfl (W.dec hd) rfl (Jvm.Free.XT.ii_gt_t hc) ho hpT q) (ky hc)
  · subst hp; exact Go.up (fun t q => Jvm.Free.XS.icmpNo W.here W.ex rfl (W.dec hd) rfl (Jvm.Free.XT.ii_gt_f hc) q) (kn hc)
theorem s_iflgt (W : Wk p l e R s m args below meth c Z a0 EL n0 own nm bytes maxL ret T vm0 h cells slots) {x y : Int64} {o : Int} {pcT : Nat} (hd : decode bytes pc = .ok (.ifCond .gt o, 3)) (ho : 0 ≤ (pc : Int) + o) (hpT : ((pc : Int) + o).toNat = pcT) (hp : pc + 3 = pc') (ky : y < x → Go p e below s R Z EL n0 Q (T.setTop (mkF m pcT Ls st))) (kn : ¬ y < x → Go p e below s R Z EL n0 Q (T.setTop (mkF m pc' Ls st))) : Go p e below s R Z EL n0 Q (T.setTop (mkF m pc Ls (.int (Jvm.Free.XT.cmpL x y) :: st))) := by
  by_cases hc : y < x
  · exact Go.up (fun t q => Jvm.Free.XS.ifYes W.here W.ex rfl rfl (W.dec hd) rfl (Jvm.Free.XT.ll_gt_t hc) ho hpT q) (ky hc)
  · subst hp; exact Go.up (fun t q => Jvm.Free.XS.ifNo W.here W.ex rfl (W.dec hd) rfl (Jvm.Free.XT.ll_gt_f hc) q) (kn hc)
theorem s_ifle (W : Wk p l e R s m args below meth c Z a0 EL n0 own nm bytes maxL ret T vm0 h cells slots) {x : Int32} {o : Int} {pcT : Nat} (hd : decode bytes pc = .ok (.ifCond .le o, 3)) (ho : 0 ≤ (pc : Int) + o) (hpT : ((pc : Int) + o).toNat = pcT) (hp : pc + 3 = pc') (ky : ¬ 0 < x → Go p e below s R Z EL n0 Q (T.setTop (mkF m pcT Ls st))) (kn : 0 < x → Go p e below s R Z EL n0 Q (T.setTop (mkF m pc' Ls st))) : Go p e below s R Z EL n0 Q (T.setTop (mkF m pc Ls (.int x :: st))) := by
  by_cases hc : 0 < x
  · subst hp; exact Go.up (fun t q => Jvm.Free.XS.ifNo W.here W.ex rfl (W.dec hd) rfl (Jvm.Free.XT.i0_le_f hc) q) (kn hc)
  · exact Go.up (fun t q => Jvm.Free.XS.ifYes W.here W.ex rfl rfl (W.dec hd) rfl (Jvm.Free.XT.i0_le_t hc) ho hpT q) (ky hc)
theorem s_icmple (W : Wk p l e R s m args below meth c Z a0 EL n0 own nm bytes maxL ret T vm0 h cells slots) {x y : Int32} {o : Int} {pcT : Nat} (hd : decode bytes pc = .ok (.if_icmp .le o, 3)) (ho : 0 ≤ (pc : Int) + o) (hpT : ((pc : Int) + o).toNat = pcT) (hp : pc + 3 = pc') (ky : ¬ y < x → Go p e below s R Z EL n0 Q (T.setTop (mkF m pcT Ls st))) (kn : y < x → Go p e below s R Z EL n0 Q (T.setTop (mkF m pc' Ls st))) : Go p e below s R Z EL n0 Q (T.setTop (mkF m pc Ls (.int y :: .int x :: st))) := by
  by_cases hc : y < x
  · subst hp; exact Go.up (fun t q => Jvm.Free.XS.icmpNo W.here W.ex rfl (W.dec hd) rfl (Jvm.Free.XT.ii_le_f hc) q) (kn hc)
  · exact Go.up (fun t q => Jvm.Free.XS.icmpYes W.here W.ex rfl rfl (W.dec hd) rfl (Jvm.Free.XT.ii_le_t hc) ho hpT q) (ky hc)
theorem s_iflle (W : Wk p l e R s m args below meth c Z a0 EL n0 own nm bytes maxL ret T vm0 h cells slots) {x y : Int64} {o : Int} {pcT : Nat} (hd : decode bytes pc = .ok (.ifCond .le o, 3)) (ho : 0 ≤ (pc : Int) + o) (hpT : ((pc : Int) + o).toNat = pcT) (hp : pc + 3 = pc') (ky : ¬ y < x → Go p e below s R Z EL n0 Q (T.setTop (mkF m pcT Ls st))) (kn : y < x → Go p e below s R Z EL n0 Q (T.setTop (mkF m pc' Ls st))) : Go p e below s R Z EL n0 Q (T.setTop (mkF m pc Ls (.int (Jvm.Free.XT.cmpL x y) :: st))) := by
  by_cases hc : y < x
  · subst hp; exact Go.up (fun t q => Jvm.Free.XS.ifNo W.here W.ex rfl (W.dec hd) rfl (Jvm.Free.XT.ll_le_f hc) q) (kn hc)
  · exact Go.up (fun t q => Jvm.Free.XS.ifYes W.here W.ex rfl rfl (W.dec hd) rfl (Jvm.Free.XT.ll_le_t hc) ho hpT q) (ky hc)
theorem s_ifnullY (W : Wk p l e R s m args below meth c Z a0 EL n0 own nm bytes maxL ret T vm0 h cells slots) {o : Int} {pcT : Nat} (hd : decode bytes pc = .ok (.ifnull o, 3)) (ho : 0 ≤ (pc : Int) + o) (hpT : ((pc : Int) + o).toNat = pcT) (k : Go p e below s R Z EL n0 Q (T.setTop (mkF m pcT Ls st))) : Go p e below s R Z EL n0 Q (T.setTop (mkF m pc Ls (.null :: st))) := Go.up (fun t q => Jvm.Free.XS.ifnullYes W.here W.ex rfl rfl (W.dec hd) rfl ho hpT q) k
theorem s_ifnullN (W : Wk p l e R s m args below meth c Z a0 EL n0 own nm bytes maxL ret T vm0 h cells slots) {o : Int} {b : Addr} (hd : decode bytes pc = .ok (.ifnull o, 3)) (hp : pc + 3 = pc') (k : Go p e below s R Z EL n0 Q (T.setTop (mkF m pc' Ls st))) : Go p e below s R Z EL n0 Q (T.setTop (mkF m pc Ls (.ref b :: st))) := by subst hp; exact Go.up (fun t q => Jvm.Free.XS.ifnullNo W.here W.ex rfl (W.dec hd) rfl q) k
theorem s_ifnonnullY (W : Wk p l e R s m args below meth c Z a0 EL n0 own nm bytes maxL ret T vm0 h cells slots) {o : Int} {b : Addr} {pcT : Nat} (hd : decode bytes pc = .ok (.ifnonnull o, 3)) (ho : 0 ≤ (pc : Int) + o) (hpT : ((pc : Int) + o).toNat = pcT) (k : Go p e below s R Z EL n0 Q (T.setTop (mkF m pcT Ls st))) : Go p e below s R Z EL n0 Q (T.setTop (mkF m pc Ls (.ref b :: st))) := Go.up (fun t q => Jvm.Free.XT.ifnonnullYes W.here W.ex rfl rfl (W.dec hd) rfl ho hpT q) k
theorem s_ifnonnullN (W : Wk p l e R s m args below meth c Z a0 EL n0 own nm bytes maxL ret T vm0 h cells slots) {o : Int} (hd : decode bytes pc = .ok (.ifnonnull o, 3)) (hp : pc + 3 = pc') (k : Go p e below s R Z EL n0 Q (T.setTop (mkF m pc' Ls st))) : Go p e below s R Z EL n0 Q (T.setTop (mkF m pc Ls (.null :: st))) := by subst hp; exact Go.up (fun t q => Jvm.Free.XT.ifnonnullNo W.here W.ex rfl (W.dec hd) rfl q) k
theorem s_acmpY (W : Wk p l e R s m args below meth c Z a0 EL n0 own nm bytes maxL ret T vm0 h cells slots) {cd : ClassFile.ACond} {x y : Value} {o : Int} {pcT : Nat} (hd : decode bytes pc = .ok (.if_acmp cd o, 3)) (hx : x.isRef = true) (hy : y.isRef = true) (hc : Jvm.Free.XT.acmp cd x y = true) (ho : 0 ≤ (pc : Int) + o) (hpT : ((pc : Int) + o).toNat = pcT) (k : Go p e below s R Z EL n0 Q (T.setTop (mkF m pcT Ls st))) : Go p e below s R Z EL n0 Q (T.setTop (mkF m pc Ls (y :: x :: st))) := Go.up (fun t q => Jvm.Free.XT.acmpYes W.here W.ex rfl rfl (W.dec hd) rfl hx hy hc ho hpT q) k
theorem s_acmpN (W : Wk p l e R s m args below meth c Z a0 EL n0 own nm bytes maxL ret T vm0 h cells slots) {cd : ClassFile.ACond} {x y : Value} {o : Int} (hd : decode bytes pc = .ok (.if_acmp cd o, 3)) (hx : x.isRef = true) (hy : y.isRef = true) (hc : Jvm.Free.XT.acmp cd x y = false) (hp : pc + 3 = pc') (k : Go p e below s R Z EL n0 Q (T.setTop (mkF m pc' Ls st))) : Go p e below s R Z EL n0 Q (T.setTop (mkF m pc Ls (y :: x :: st))) := by subst hp; exact Go.up (fun t q => Jvm.Free.XT.acmpNo W.here W.ex rfl (W.dec hd) rfl hx hy hc q) k
theorem s_ldcI (W : Wk p l e R s m args below meth c Z a0 EL n0 own nm bytes maxL ret T vm0 h cells slots) {index : Nat} {v : Int32} (w : (Cond.constant own index v).before a0 Z = true) (hd : decode bytes pc = .ok (.ldc index, 2)) (hp : pc + 2 = pc') (k : Go p e below s R Z EL n0 Q (T.setTop (mkF m pc' Ls (.int v :: st)))) : Go p e below s R Z EL n0 Q (T.setTop (mkF m pc Ls st)) := by
  obtain ⟨⟨k0, locs, X, hS, hk, N⟩, ⟨eT, hZ, hown, C⟩, hh⟩ := W
  subst hp
  exact Go.up (fun t q => Jvm.Stand.ldcI X hh.2.1 (own := own) hown (mv (s := s.setVm vm0) hZ w) rfl (hb hh.2.2.1 hd) q) k
theorem s_ldcWI (W : Wk p l e R s m args below meth c Z a0 EL n0 own nm bytes maxL ret T vm0 h cells slots) {index : Nat} {v : Int32} (w : (Cond.constant own index v).before a0 Z = true) (hd : decode bytes pc = .ok (.ldc_w index, 3)) (hp : pc + 3 = pc') (k : Go p e below s R Z EL n0 Q (T.setTop (mkF m pc' Ls (.int v :: st)))) : Go p e below s R Z EL n0 Q (T.setTop (mkF m pc Ls st)) := by
  obtain ⟨⟨k0, locs, X, hS, hk, N⟩, ⟨eT, hZ, hown, C⟩, hh⟩ := W
  subst hp
  exact Go.up (fun t q => Jvm.Stand.ldcWI X hh.2.1 (own := own) hown (mv (s := s.setVm vm0) hZ w) rfl (hb hh.2.2.1 hd) q) k
theorem s_ldc2J (W : Wk p l e R s m args below meth c Z a0 EL n0 own nm bytes maxL ret T vm0 h cells slots) {index : Nat} {v : Int64} (w : (Cond.constantLong own index v).before a0 Z = true) (hd : decode bytes pc = .ok (.ldc2_w index, 3)) (hp : pc + 3 = pc') (k : Go p e below s R Z EL n0 Q (T.setTop (mkF m pc' Ls (.long v :: st)))) : Go p e below s R Z EL n0 Q (T.setTop (mkF m pc Ls st)) := by
  obtain ⟨⟨k0, locs, X, hS, hk, N⟩, ⟨eT, hZ, hown, C⟩, hh⟩ := W
  subst hp
  exact Go.up (fun t q => Jvm.Stand.ldc2J X hh.2.1 (own := own) hown (mv (s := s.setVm vm0) hZ w) rfl (hb hh.2.2.1 hd) q) k
theorem s_getf (W : Wk p l e R s m args below meth c Z a0 EL n0 own nm bytes maxL ret T vm0 h cells slots) {R0 O n d : String} {index : Nat} (w : (Cond.fieldLink own index R0 n d).before a0 Z = true) (via : Via Z R0 O n d) {a : Addr} {v : Value} (F : Fld Z h a O n d v) (hd : decode bytes pc = .ok (.getfield index, 3)) (hp : pc + 3 = pc') (k : ∀ T', Wk p l e R s m args below meth c Z a0 EL n0 own nm bytes maxL ret T' vm0 h cells slots → Go p e below s R Z EL n0 Q (T'.setTop (mkF m pc' Ls (v :: st)))) : Go p e below s R Z EL n0 Q (T.setTop (mkF m pc Ls (.ref a :: st))) := by
  obtain ⟨⟨k0, locs, X, hS, hk, N⟩, ⟨eT, hZ, hown, C⟩, hh⟩ := W
  obtain ⟨T', X', e', st'⟩ := getF X hh.2.1 (show Z.Warmed39 (s.setVm vm0).vm from hZ) (own := own) (host := "") hown (Or.inl w) via eT F (g := mkF m pc Ls (.ref a :: st)) rfl rfl (hb hh.2.2.1 hd)
  subst hp
  exact Go.up st' (k T' ⟨⟨k0, locs, X', hS, hk, N⟩, ⟨e', hZ, hown, C⟩, hh⟩)
theorem s_getfN (W : Wk p l e R s m args below meth c Z a0 EL n0 own nm bytes maxL ret T vm0 h cells slots) {R0 O n d host : String} {index : Nat} (w : (Cond.fieldLinkNest own index R0 n d host).before a0 Z = true) (via : Via Z R0 O n d) {a : Addr} {v : Value} (F : Fld Z h a O n d v) (hd : decode bytes pc = .ok (.getfield index, 3)) (hp : pc + 3 = pc') (k : ∀ T', Wk p l e R s m args below meth c Z a0 EL n0 own nm bytes maxL ret T' vm0 h cells slots → Go p e below s R Z EL n0 Q (T'.setTop (mkF m pc' Ls (v :: st)))) : Go p e below s R Z EL n0 Q (T.setTop (mkF m pc Ls (.ref a :: st))) := by
  obtain ⟨⟨k0, locs, X, hS, hk, N⟩, ⟨eT, hZ, hown, C⟩, hh⟩ := W
  obtain ⟨T', X', e', st'⟩ := getF X hh.2.1 (show Z.Warmed39 (s.setVm vm0).vm from hZ) (own := own) (host := host) hown (Or.inr w) via eT F (g := mkF m pc Ls (.ref a :: st)) rfl rfl (hb hh.2.2.1 hd)
  subst hp
  exact Go.up st' (k T' ⟨⟨k0, locs, X', hS, hk, N⟩, ⟨e', hZ, hown, C⟩, hh⟩)
theorem s_gets (W : Wk p l e R s m args below meth c Z a0 EL n0 own nm bytes maxL ret T vm0 h cells slots) {R0 O n d : String} {index : Nat} (w : (Cond.fieldLink own index R0 n d).before a0 Z = true) (via : Via Z R0 O n d) {v : Value} (F : Sta Z Z.heap O n d v) (hd : decode bytes pc = .ok (.getstatic index, 3)) (hp : pc + 3 = pc') (k : ∀ T', Wk p l e R s m args below meth c Z a0 EL n0 own nm bytes maxL ret T' vm0 h cells slots → Go p e below s R Z EL n0 Q (T'.setTop (mkF m pc' Ls (v :: st)))) : Go p e below s R Z EL n0 Q (T.setTop (mkF m pc Ls st)) := by
  have O := W.old
  obtain ⟨⟨k0, locs, X, hS, hk, N⟩, ⟨eT, hZ, hown, C⟩, hh⟩ := W
  obtain ⟨T', X', e', st'⟩ := getS X hh.2.1 (show Z.Warmed39 (s.setVm vm0).vm from hZ) (own := own) (host := "") hown w via eT (F.ext O.2) (g := mkF m pc Ls st) rfl (hb hh.2.2.1 hd)
  subst hp
  exact Go.up st' (k T' ⟨⟨k0, locs, X', hS, hk, N⟩, ⟨e', hZ, hown, C⟩, hh⟩)
theorem s_cast (W : Wk p l e R s m args below meth c Z a0 EL n0 own nm bytes maxL ret T vm0 h cells slots) {K : String} {index : Nat} (w : (Cond.classLink own index K).before a0 Z = true) {a : Addr} (F : Ins Z h a K true) (hd : decode bytes pc = .ok (.checkcast index, 3)) (hp : pc + 3 = pc') (k : ∀ T', Wk p l e R s m args below meth c Z a0 EL n0 own nm bytes maxL ret T' vm0 h cells slots → Go p e below s R Z EL n0 Q (T'.setTop (mkF m pc' Ls (.ref a :: st)))) : Go p e below s R Z EL n0 Q (T.setTop (mkF m pc Ls (.ref a :: st))) := by
  obtain ⟨⟨k0, locs, X, hS, hk, N⟩, ⟨eT, hZ, hown, C⟩, hh⟩ := W
  obtain ⟨T', X', e', st'⟩ := castY X hh.2.1 (show Z.Warmed39 (s.setVm vm0).vm from hZ) (own := own) hown w eT F (g := mkF m pc Ls (.ref a :: st)) rfl rfl (hb hh.2.2.1 hd)
  subst hp
  exact Go.up st' (k T' ⟨⟨k0, locs, X', hS, hk, N⟩, ⟨e', hZ, hown, C⟩, hh⟩)
theorem s_inst (W : Wk p l e R s m args below meth c Z a0 EL n0 own nm bytes maxL ret T vm0 h cells slots) {K : String} {index : Nat} (w : (Cond.classLink own index K).before a0 Z = true) {a : Addr} (F : Ins Z h a K true) (hd : decode bytes pc = .ok (.instanceof index, 3)) (hp : pc + 3 = pc') (k : ∀ T', Wk p l e R s m args below meth c Z a0 EL n0 own nm bytes maxL ret T' vm0 h cells slots → Go p e below s R Z EL n0 Q (T'.setTop (mkF m pc' Ls (.int 1 :: st)))) : Go p e below s R Z EL n0 Q (T.setTop (mkF m pc Ls (.ref a :: st))) := by
  obtain ⟨⟨k0, locs, X, hS, hk, N⟩, ⟨eT, hZ, hown, C⟩, hh⟩ := W
  obtain ⟨T', X', e', st'⟩ := instY X hh.2.1 (show Z.Warmed39 (s.setVm vm0).vm from hZ) (own := own) hown w eT F (g := mkF m pc Ls (.ref a :: st)) rfl rfl (hb hh.2.2.1 hd)
  subst hp
  exact Go.up st' (k T' ⟨⟨k0, locs, X', hS, hk, N⟩, ⟨e', hZ, hown, C⟩, hh⟩)

theorem Wk.ext' {T' : State} {h' : Heap} {cells' slots' : Nat} (hZ : Z.Warmed39 vm0) (E : Ext h h') (H : CHv Z EL vm0 h) : CHr Z EL vm0 h vm0 h' ∧ Keep h h' [] := ⟨CHr.ext E H, (Keep.refl h []).ext E⟩

theorem s_new (W : Wk p l e R s m args below meth c Z a0 EL n0 own nm bytes maxL ret T vm0 h cells slots) {C : String} {index n : Nat} (w : (Cond.classLink own index C).before a0 Z = true) (wi : (Cond.instantiable C n).before a0 Z = true) (wz : (Cond.initialized C).before a0 Z = true) (hd : decode bytes pc = .ok (.new index, 3)) (hc : cells + 1 ≤ R.cells) (hl : slots + n ≤ R.slots) (hp : pc + 3 = pc')
    (k : ∀ b T' h', b = h.size → Wk p l e R s m args below meth c Z a0 EL n0 own nm bytes maxL ret T' vm0 h' (cells + 1) (slots + n) → Keep h h' [] → CHr Z EL vm0 h vm0 h' → Mine Z EL n0 vm0 h' b → Exa Z h' b C → (∀ {O nm d : String} {ty : FieldType}, Laid Z a0 C O nm d → parseFieldDescriptor d = some ty → Fld Z h' b O nm d (defaultValue ty)) → Unt h' b → Go p e below s R Z EL n0 Q (T'.setTop (mkF m pc' Ls (.ref b :: st)))) : Go p e below s R Z EL n0 Q (T.setTop (mkF m pc Ls st)) := by
  have n0h := W.n0le
  obtain ⟨⟨k0, locs, X, hS, hk, N⟩, ⟨eT, hZ, hown, C⟩, hh⟩ := W
  obtain ⟨T', h', X', e', E, A, D, U, st'⟩ := newO X hh.2.1 (show Z.Warmed39 (s.setVm vm0).vm from hZ) (own := own) hown w wi wz eT (g := mkF m pc Ls st) rfl (hb hh.2.2.1 hd) hc hl
  subst hp
  have Ch := CHr.ext E C.1
  exact Go.up st' (k h.size T' h' rfl ⟨⟨k0, locs, X', hS, Nat.le_trans hk E.1, N⟩, ⟨e', hZ, hown, C.trans Ch⟩, hh⟩ ((Keep.refl h []).ext E) Ch ⟨n0h, A.lt, Safe.ext E C.1 (Safe.new (Nat.le_refl _))⟩ A D U)
theorem s_newarr (W : Wk p l e R s m args below meth c Z a0 EL n0 own nm bytes maxL ret T vm0 h cells slots) {aty : ArrayType} {n : Int32} (cap : Nat) (ad : String) (had : "[" ++ (newarray.typeOf aty).toString = ad) (w : (Cond.arrayClass (newarray.typeOf aty)).before a0 Z = true) (hd : decode bytes pc = .ok (.newarray aty, 2)) (hn : ¬ n < 0) (hcap : n.toNatClampNeg ≤ cap) (hb8 : cap * 8 ≤ 536870912) (hc : cells + 1 ≤ R.cells) (hl : slots + cap ≤ R.slots) (hp : pc + 2 = pc')
    (k : ∀ b T' h' kA, b = h.size → Wk p l e R s m args below meth c Z a0 EL n0 own nm bytes maxL ret T' vm0 h' (cells + 1) (slots + cap) → Keep h h' [] → CHr Z EL vm0 h vm0 h' → Mine Z EL n0 vm0 h' b → Arv Z h' b kA (newarray.typeOf aty) n (List.replicate n.toNatClampNeg (defaultValue (newarray.typeOf aty))) (defaultValue (newarray.typeOf aty)) → Exa Z h' b ad → Go p e below s R Z EL n0 Q (T'.setTop (mkF m pc' Ls (.ref b :: st)))) : Go p e below s R Z EL n0 Q (T.setTop (mkF m pc Ls (.int n :: st))) := by
  have n0h := W.n0le
  obtain ⟨⟨k0, locs, X, hS, hk, N⟩, ⟨eT, hZ, hown, C⟩, hh⟩ := W
  obtain ⟨T', h', kA, X', e', E, A, EX, st'⟩ := newPE X hh.2.1 (show Z.Warmed39 (s.setVm vm0).vm from hZ) w eT (g := mkF m pc Ls (.int n :: st)) rfl (hb hh.2.2.1 hd) rfl hn hcap hb8 hc hl had
  subst hp
  have Ch := CHr.ext E C.1
  have V := (Arv.new A hn).pad (vs' := [] ++ List.replicate n.toNatClampNeg (defaultValue (newarray.typeOf aty))) (pad_rep _ _ _)
  exact Go.up st' (k h.size T' h' kA rfl ⟨⟨k0, locs, X', hS, Nat.le_trans hk E.1, N⟩, ⟨e', hZ, hown, C.trans Ch⟩, hh⟩ ((Keep.refl h []).ext E) Ch ⟨n0h, A.lt, Safe.ext E C.1 (Safe.new (Nat.le_refl _))⟩ V EX)
theorem s_clone (W : Wk p l e R s m args below meth c Z a0 EL n0 own nm bytes maxL ret T vm0 h cells slots) {index : Nat} {ad : String} (w1 : (Cond.methodLink own index ⟨ad, "clone", "()Ljava/lang/Object;"⟩).before a0 Z = true) (w2 : (Cond.sameMethod ad "java/lang/Object" "clone" "()Ljava/lang/Object;").before a0 Z = true) (w3 : (Cond.native ⟨"java/lang/Object", "clone", "()Ljava/lang/Object;"⟩).before a0 Z = true) (w4 : (Cond.instanceMethod ⟨"java/lang/Object", "clone", "()Ljava/lang/Object;"⟩).before a0 Z = true) (w5 : (Cond.selects ad ⟨ad, "clone", "()Ljava/lang/Object;"⟩ ⟨"java/lang/Object", "clone", "()Ljava/lang/Object;"⟩).before a0 Z = true) (w6 : (Cond.castable ad "java/lang/Cloneable").before a0 Z = true) {a : Addr} {kA : ClassId} {ty : FieldType} {z : Int32} {vs : List Value} {dv : Value} (V : Arv Z h a kA ty z vs dv) (E : Exa Z h a ad) (cap : Nat) (hcap : z.toNatClampNeg ≤ cap) (hsz : Ls.size = maxL) (hd : decode bytes pc = .ok (.invokevirtual index, 3)) (Wd : Nat) (hWd : (st.map fun v => v.category).sum ≤ Wd) (hf : 1 ≤ R.frames) (hlo : Wd + 14 ≤ R.locals) (hc : cells + 1 ≤ R.cells) (hl : slots + cap ≤ R.slots) (hp : pc + 3 = pc')
    (k : ∀ b T' h', b = h.size → Wk p l e R s m args below meth c Z a0 EL n0 own nm bytes maxL ret T' vm0 h' (cells + 1) (slots + cap) → Keep h h' [] → CHr Z EL vm0 h vm0 h' → Mine Z EL n0 vm0 h' b → Arv Z h' b kA ty z vs dv → Exa Z h' b ad → Go p e below s R Z EL n0 Q (T'.setTop (mkF m pc' Ls (.ref b :: st)))) : Go p e below s R Z EL n0 Q (T.setTop (mkF m pc Ls (.ref a :: st))) := by
  have n0h := W.n0le
  obtain ⟨⟨k0, locs, X, hS, hk, N⟩, ⟨eT, hZ, hown, C⟩, hh⟩ := W
  have V' : Arh Z h a kA ty z [] vs dv := V
  obtain ⟨T', h', X', e', ex, A', EX, st'⟩ := cloneH X hh.2.1 (show Z.Warmed39 (s.setVm vm0).vm from hZ) (own := own) hown w1 w2 w3 w4 w5 w6 eT V' E (g := mkF m pc Ls (.ref a :: st)) rfl (hsz.trans hh.2.2.2.1.symm) rfl (hb hh.2.2.1 hd) hf (W := Wd) (by show 2 * 0 + _ ≤ _; omega) hlo hcap hc hl
  subst hp
  have Ch := CHr.ext ex C.1
  have A2 : Arv Z h' h.size kA ty z vs dv := A'
  exact Go.up st' (k h.size T' h' rfl ⟨⟨k0, locs, X', hS, Nat.le_trans hk ex.1, N⟩, ⟨e', hZ, hown, C.trans Ch⟩, hh⟩ ((Keep.refl h []).ext ex) Ch ⟨n0h, A2.lt, Safe.ext ex C.1 (Safe.new (Nat.le_refl _))⟩ A2 EX)
theorem s_anew (W : Wk p l e R s m args below meth c Z a0 EL n0 own nm bytes maxL ret T vm0 h cells slots) {C : String} {index : Nat} {n : Int32} (cap : Nat) (w : (Cond.classLink own index C).before a0 Z = true) (w2 : (Cond.arrayOver (.object C)).before a0 Z = true) (hd : decode bytes pc = .ok (.anewarray index, 3)) (hn : ¬ n < 0) (hcap : n.toNatClampNeg ≤ cap) (hb8 : cap * 8 ≤ 536870912) (hc : cells + 1 ≤ R.cells) (hl : slots + cap ≤ R.slots) (hp : pc + 3 = pc')
    (k : ∀ b T' h' kA, b = h.size → Wk p l e R s m args below meth c Z a0 EL n0 own nm bytes maxL ret T' vm0 h' (cells + 1) (slots + cap) → Keep h h' [] → CHr Z EL vm0 h vm0 h' → Mine Z EL n0 vm0 h' b → Arv Z h' b kA (.object C) n (List.replicate n.toNatClampNeg .null) .null → Ovr Z kA C → Go p e below s R Z EL n0 Q (T'.setTop (mkF m pc' Ls (.ref b :: st)))) : Go p e below s R Z EL n0 Q (T.setTop (mkF m pc Ls (.int n :: st))) := by
  have n0h := W.n0le
  obtain ⟨⟨k0, locs, X, hS, hk, N⟩, ⟨eT, hZ, hown, C⟩, hh⟩ := W
  obtain ⟨T', h', kA, X', e', E, A, O, st'⟩ := newR X hh.2.1 (show Z.Warmed39 (s.setVm vm0).vm from hZ) (own := own) hown w w2 eT (g := mkF m pc Ls (.int n :: st)) rfl (hb hh.2.2.1 hd) rfl hn hcap hb8 hc hl
  subst hp
  have Ch := CHr.ext E C.1
  have V := (Arv.new A hn).pad (vs' := [] ++ List.replicate n.toNatClampNeg .null) (pad_rep _ _ _)
  exact Go.up st' (k h.size T' h' kA rfl ⟨⟨k0, locs, X', hS, Nat.le_trans hk E.1, N⟩, ⟨e', hZ, hown, C.trans Ch⟩, hh⟩ ((Keep.refl h []).ext E) Ch ⟨n0h, A.lt, Safe.ext E C.1 (Safe.new (Nat.le_refl _))⟩ V O)
theorem s_putf (W : Wk p l e R s m args below meth c Z a0 EL n0 own nm bytes maxL ret T vm0 h cells slots) {R0 O n d C : String} {index kk : Nat} {ty : FieldType} (w : (Cond.fieldLink own index R0 n d).before a0 Z = true) (via : Via Z R0 O n d) {a : Addr} {v old : Value} (F : Fld Z h a O n d old) (E : Exa Z h a C) (M : Mine Z EL n0 vm0 h a) (L : (Cond.lays C O n d).before a0 Z = true ∨ ((Cond.laysFinal C O n d).before a0 Z = true ∧ own = O ∧ nm = "<init>")) (wi : (Cond.instantiable C kk).before a0 Z = true) (hty : parseFieldDescriptor d = some ty) (hn : narrow ty v = v) (hf : fits ty v = true) (hd : decode bytes pc = .ok (.putfield index, 3)) (hp : pc + 3 = pc')
    (k : ∀ T' h', Wk p l e R s m args below meth c Z a0 EL n0 own nm bytes maxL ret T' vm0 h' cells slots → Keep h h' [a] → CHr Z EL vm0 h vm0 h' → Wr h h' a (Jvm.RoadKit.slotOf Z O n d) v → Fld Z h' a O n d v → Go p e below s R Z EL n0 Q (T'.setTop (mkF m pc' Ls st))) : Go p e below s R Z EL n0 Q (T.setTop (mkF m pc Ls (v :: .ref a :: st))) := by
  have hnm := W.name
  obtain ⟨⟨k0, locs, X, hS, hk, N⟩, ⟨eT, hZ, hown, C⟩, hh⟩ := W
  subst hnm
  obtain ⟨T', h', X', e', Wr', st'⟩ := putF X hh.2.1 (show Z.Warmed39 (s.setVm vm0).vm from hZ) (own := own) (host := "") hown (Or.inl w) via eT F E L wi hty hn hf (g := mkF m pc Ls (v :: .ref a :: st)) rfl rfl (hb hh.2.2.1 hd)
  subst hp
  have Ch := CHr.wr Wr' M.2.2 C.1
  exact Go.up st' (k T' h' ⟨⟨k0, _, X', hS, Nat.le_trans hk Ch.2.1, Fr.snoc X' N M.1⟩, ⟨e', hZ, hown, C.trans Ch⟩, hh⟩ (Keep.of_wr Wr') Ch Wr' (F.same Wr'))
theorem s_putfn (W : Wk p l e R s m args below meth c Z a0 EL n0 own nm bytes maxL ret T vm0 h cells slots) {R0 O n d C : String} {index kk : Nat} {ty : FieldType} (w : (Cond.fieldLink own index R0 n d).before a0 Z = true) (via : Via Z R0 O n d) {a : Addr} {v v' old : Value} (F : Fld Z h a O n d old) (E : Exa Z h a C) (M : Mine Z EL n0 vm0 h a) (L : (Cond.lays C O n d).before a0 Z = true ∨ ((Cond.laysFinal C O n d).before a0 Z = true ∧ own = O ∧ nm = "<init>")) (wi : (Cond.instantiable C kk).before a0 Z = true) (hty : parseFieldDescriptor d = some ty) (hn : narrow ty v = v') (hf : fits ty v' = true) (hd : decode bytes pc = .ok (.putfield index, 3)) (hp : pc + 3 = pc')
    (k : ∀ T' h', Wk p l e R s m args below meth c Z a0 EL n0 own nm bytes maxL ret T' vm0 h' cells slots → Keep h h' [a] → CHr Z EL vm0 h vm0 h' → Wr h h' a (Jvm.RoadKit.slotOf Z O n d) v' → Fld Z h' a O n d v' → Go p e below s R Z EL n0 Q (T'.setTop (mkF m pc' Ls st))) : Go p e below s R Z EL n0 Q (T.setTop (mkF m pc Ls (v :: .ref a :: st))) := by
  have hnm := W.name
  obtain ⟨⟨k0, locs, X, hS, hk, N⟩, ⟨eT, hZ, hown, C⟩, hh⟩ := W
  subst hnm
  obtain ⟨T', h', X', e', Wr', st'⟩ := putFN X hh.2.1 (show Z.Warmed39 (s.setVm vm0).vm from hZ) (own := own) hown w via eT F E L wi hty hn hf (g := mkF m pc Ls (v :: .ref a :: st)) rfl rfl (hb hh.2.2.1 hd)
  subst hp
  have Ch := CHr.wr Wr' M.2.2 C.1
  exact Go.up st' (k T' h' ⟨⟨k0, _, X', hS, Nat.le_trans hk Ch.2.1, Fr.snoc X' N M.1⟩, ⟨e', hZ, hown, C.trans Ch⟩, hh⟩ (Keep.of_wr Wr') Ch Wr' (F.same Wr'))
theorem s_castore (W : Wk p l e R s m args below meth c Z a0 EL n0 own nm bytes maxL ret T vm0 h cells slots) {a : Addr} {kA : ClassId} {z j : Int32} {vs : List Value} {dv : Value} {x : Int32} (i : Nat) (V : Arv Z h a kA .char z vs dv) (M : Mine Z EL n0 vm0 h a) (hj : j.toNatClampNeg = i) (h0 : ¬ j < 0) (hz : j < z) (hi : i < vs.length) (hd : decode bytes pc = .ok (.castore, 1)) (hp : pc + 1 = pc')
    (k : ∀ T' h', Wk p l e R s m args below meth c Z a0 EL n0 own nm bytes maxL ret T' vm0 h' cells slots → Keep h h' [a] → CHr Z EL vm0 h vm0 h' → Arv Z h' a kA .char z (vs.set i (.int (nar .char x))) dv → Go p e below s R Z EL n0 Q (T'.setTop (mkF m pc' Ls st))) : Go p e below s R Z EL n0 Q (T.setTop (mkF m pc Ls (.int x :: .int j :: .ref a :: st))) := by
  obtain ⟨⟨k0, locs, X, hS, hk, N⟩, ⟨eT, hZ, hown, C⟩, hh⟩ := W
  obtain ⟨cl, A, q1, S, q3, H, G⟩ := V
  have hin : ¬ (j < 0 ∨ cl.slots.size ≤ j.toNatClampNeg) := inb_of S ⟨h0, hz⟩
  obtain ⟨T', h', X', e', Wr', st'⟩ := stC X hh.2.1 (show Z.Warmed39 (s.setVm vm0).vm from hZ) eT A hin (g := mkF m pc Ls (.int x :: .int j :: .ref a :: st)) rfl rfl (hb hh.2.2.1 hd)
  subst hp
  have Ch := CHr.wr Wr' M.2.2 C.1
  exact Go.up st' (k T' h' ⟨⟨k0, _, X', hS, Nat.le_trans hk Ch.2.1, Fr.snoc X' N M.1⟩, ⟨e', hZ, hown, C.trans Ch⟩, hh⟩ (Keep.of_wr Wr') Ch (Arv.set A q1 S q3 H G (fits_nar_char x) Wr' i hj hi))
theorem s_iastore (W : Wk p l e R s m args below meth c Z a0 EL n0 own nm bytes maxL ret T vm0 h cells slots) {a : Addr} {kA : ClassId} {z j : Int32} {vs : List Value} {dv : Value} {x : Int32} (i : Nat) (V : Arv Z h a kA .int z vs dv) (M : Mine Z EL n0 vm0 h a) (hj : j.toNatClampNeg = i) (h0 : ¬ j < 0) (hz : j < z) (hi : i < vs.length) (hd : decode bytes pc = .ok (.iastore, 1)) (hp : pc + 1 = pc')
    (k : ∀ T' h', Wk p l e R s m args below meth c Z a0 EL n0 own nm bytes maxL ret T' vm0 h' cells slots → Keep h h' [a] → CHr Z EL vm0 h vm0 h' → Arv Z h' a kA .int z (vs.set i (.int x)) dv → Go p e below s R Z EL n0 Q (T'.setTop (mkF m pc' Ls st))) : Go p e below s R Z EL n0 Q (T.setTop (mkF m pc Ls (.int x :: .int j :: .ref a :: st))) := by
  obtain ⟨⟨k0, locs, X, hS, hk, N⟩, ⟨eT, hZ, hown, C⟩, hh⟩ := W
  obtain ⟨cl, A, q1, S, q3, H, G⟩ := V
  have hin : ¬ (j < 0 ∨ cl.slots.size ≤ j.toNatClampNeg) := inb_of S ⟨h0, hz⟩
  obtain ⟨T', h', X', e', Wr', st'⟩ := stI X hh.2.1 (show Z.Warmed39 (s.setVm vm0).vm from hZ) eT A hin (g := mkF m pc Ls (.int x :: .int j :: .ref a :: st)) rfl rfl (hb hh.2.2.1 hd)
  subst hp
  have Ch := CHr.wr Wr' M.2.2 C.1
  exact Go.up st' (k T' h' ⟨⟨k0, _, X', hS, Nat.le_trans hk Ch.2.1, Fr.snoc X' N M.1⟩, ⟨e', hZ, hown, C.trans Ch⟩, hh⟩ (Keep.of_wr Wr') Ch (Arv.set A q1 S q3 H G rfl Wr' i hj hi))
theorem s_bastore (W : Wk p l e R s m args below meth c Z a0 EL n0 own nm bytes maxL ret T vm0 h cells slots) {a : Addr} {kA : ClassId} {z j : Int32} {vs : List Value} {dv : Value} {x : Int32} (i : Nat) (V : Arv Z h a kA .byte z vs dv) (M : Mine Z EL n0 vm0 h a) (hj : j.toNatClampNeg = i) (h0 : ¬ j < 0) (hz : j < z) (hi : i < vs.length) (hd : decode bytes pc = .ok (.bastore, 1)) (hp : pc + 1 = pc')
    (k : ∀ T' h', Wk p l e R s m args below meth c Z a0 EL n0 own nm bytes maxL ret T' vm0 h' cells slots → Keep h h' [a] → CHr Z EL vm0 h vm0 h' → Arv Z h' a kA .byte z (vs.set i (.int x.toInt8.toInt32)) dv → Go p e below s R Z EL n0 Q (T'.setTop (mkF m pc' Ls st))) : Go p e below s R Z EL n0 Q (T.setTop (mkF m pc Ls (.int x :: .int j :: .ref a :: st))) := by
  obtain ⟨⟨k0, locs, X, hS, hk, N⟩, ⟨eT, hZ, hown, C⟩, hh⟩ := W
  obtain ⟨cl, A, q1, S, q3, H, G⟩ := V
  have hin : ¬ (j < 0 ∨ cl.slots.size ≤ j.toNatClampNeg) := inb_of S ⟨h0, hz⟩
  obtain ⟨T', h', X', e', Wr', st'⟩ := stB X hh.2.1 (show Z.Warmed39 (s.setVm vm0).vm from hZ) eT A hin (g := mkF m pc Ls (.int x :: .int j :: .ref a :: st)) rfl rfl (hb hh.2.2.1 hd)
  subst hp
  have Ch := CHr.wr Wr' M.2.2 C.1
  exact Go.up st' (k T' h' ⟨⟨k0, _, X', hS, Nat.le_trans hk Ch.2.1, Fr.snoc X' N M.1⟩, ⟨e', hZ, hown, C.trans Ch⟩, hh⟩ (Keep.of_wr Wr') Ch (Arv.set A q1 S q3 H G (fits_nar_byte x) Wr' i hj hi))
theorem s_lastore (W : Wk p l e R s m args below meth c Z a0 EL n0 own nm bytes maxL ret T vm0 h cells slots) {a : Addr} {kA : ClassId} {z j : Int32} {vs : List Value} {dv : Value} {x : Int64} (i : Nat) (V : Arv Z h a kA .long z vs dv) (M : Mine Z EL n0 vm0 h a) (hj : j.toNatClampNeg = i) (h0 : ¬ j < 0) (hz : j < z) (hi : i < vs.length) (hd : decode bytes pc = .ok (.lastore, 1)) (hp : pc + 1 = pc')
    (k : ∀ T' h', Wk p l e R s m args below meth c Z a0 EL n0 own nm bytes maxL ret T' vm0 h' cells slots → Keep h h' [a] → CHr Z EL vm0 h vm0 h' → Arv Z h' a kA .long z (vs.set i (.long x)) dv → Go p e below s R Z EL n0 Q (T'.setTop (mkF m pc' Ls st))) : Go p e below s R Z EL n0 Q (T.setTop (mkF m pc Ls (.long x :: .int j :: .ref a :: st))) := by
  obtain ⟨⟨k0, locs, X, hS, hk, N⟩, ⟨eT, hZ, hown, C⟩, hh⟩ := W
  obtain ⟨cl, A, q1, S, q3, H, G⟩ := V
  have hin : ¬ (j < 0 ∨ cl.slots.size ≤ j.toNatClampNeg) := inb_of S ⟨h0, hz⟩
  obtain ⟨T', h', X', e', Wr', st'⟩ := stJ X hh.2.1 (show Z.Warmed39 (s.setVm vm0).vm from hZ) eT A hin (g := mkF m pc Ls (.long x :: .int j :: .ref a :: st)) rfl rfl (hb hh.2.2.1 hd)
  subst hp
  have Ch := CHr.wr Wr' M.2.2 C.1
  exact Go.up st' (k T' h' ⟨⟨k0, _, X', hS, Nat.le_trans hk Ch.2.1, Fr.snoc X' N M.1⟩, ⟨e', hZ, hown, C.trans Ch⟩, hh⟩ (Keep.of_wr Wr') Ch (Arv.set A q1 S q3 H G rfl Wr' i hj hi))
theorem s_aastore (W : Wk p l e R s m args below meth c Z a0 EL n0 own nm bytes maxL ret T vm0 h cells slots) {a : Addr} {kA : ClassId} {z j : Int32} {vs : List Value} {dv v : Value} {ty : FieldType} (i : Nat) (V : Arv Z h a kA ty z vs dv) (hty : ty.isReference = true) (hv : fits ty v = true) (F : Sto Z h a v) (M : Mine Z EL n0 vm0 h a) (hj : j.toNatClampNeg = i) (h0 : ¬ j < 0) (hz : j < z) (hi : i < vs.length) (hd : decode bytes pc = .ok (.aastore, 1)) (hp : pc + 1 = pc')
    (k : ∀ T' h', Wk p l e R s m args below meth c Z a0 EL n0 own nm bytes maxL ret T' vm0 h' cells slots → Keep h h' [a] → CHr Z EL vm0 h vm0 h' → Arv Z h' a kA ty z (vs.set i v) dv → Go p e below s R Z EL n0 Q (T'.setTop (mkF m pc' Ls st))) : Go p e below s R Z EL n0 Q (T.setTop (mkF m pc Ls (v :: .int j :: .ref a :: st))) := by
  obtain ⟨⟨k0, locs, X, hS, hk, N⟩, ⟨eT, hZ, hown, C⟩, hh⟩ := W
  obtain ⟨cl, A, q1, S, q3, H, G⟩ := V
  have hin : ¬ (j < 0 ∨ cl.slots.size ≤ j.toNatClampNeg) := inb_of S ⟨h0, hz⟩
  obtain ⟨T', h', X', e', Wr', st'⟩ := stR X hh.2.1 (show Z.Warmed39 (s.setVm vm0).vm from hZ) eT A hin hty F (g := mkF m pc Ls (v :: .int j :: .ref a :: st)) rfl rfl (hb hh.2.2.1 hd)
  subst hp
  have Ch := CHr.wr Wr' M.2.2 C.1
  exact Go.up st' (k T' h' ⟨⟨k0, _, X', hS, Nat.le_trans hk Ch.2.1, Fr.snoc X' N M.1⟩, ⟨e', hZ, hown, C.trans Ch⟩, hh⟩ (Keep.of_wr Wr') Ch (Arv.set A q1 S q3 H G hv Wr' i hj hi))
theorem s_iaload (W : Wk p l e R s m args below meth c Z a0 EL n0 own nm bytes maxL ret T vm0 h cells slots) {a : Addr} {kA : ClassId} {z j : Int32} {vs : List Value} {dv : Value} (v : Value) (V : Arv Z h a kA .int z vs dv) (h0 : ¬ j < 0) (hz : j < z) (hv : vs.getD j.toNatClampNeg dv = v) (hd : decode bytes pc = .ok (.iaload, 1)) (hp : pc + 1 = pc') (k : Go p e below s R Z EL n0 Q (T.setTop (mkF m pc' Ls (v :: st)))) : Go p e below s R Z EL n0 Q (T.setTop (mkF m pc Ls (.int j :: .ref a :: st))) := by
  obtain ⟨⟨k0, locs, X, hS, hk, N⟩, ⟨eT, hZ, hown, C⟩, hh⟩ := W
  obtain ⟨cl, A, q1, S, q3, H, G⟩ := V
  have hin : ¬ (j < 0 ∨ cl.slots.size ≤ j.toNatClampNeg) := inb_of S ⟨h0, hz⟩
  subst hp
  exact Go.up (fun t q => X.iaload hh.2.1 (j := j) (v := v) (by rw [eT]; exact A.1) (State.isArrayOf_alike (show Z.vm.Alike (s.setVm vm0).vm from hZ.alike) A.2.1) A.2.2 hin (H.at hin hv) (g := mkF m pc Ls (.int j :: .ref a :: st)) rfl rfl (hb hh.2.2.1 hd) t q) k
theorem s_caload (W : Wk p l e R s m args below meth c Z a0 EL n0 own nm bytes maxL ret T vm0 h cells slots) {a : Addr} {kA : ClassId} {z j : Int32} {vs : List Value} {dv : Value} (v : Value) (V : Arv Z h a kA .char z vs dv) (h0 : ¬ j < 0) (hz : j < z) (hv : vs.getD j.toNatClampNeg dv = v) (hd : decode bytes pc = .ok (.caload, 1)) (hp : pc + 1 = pc') (k : Go p e below s R Z EL n0 Q (T.setTop (mkF m pc' Ls (v :: st)))) : Go p e below s R Z EL n0 Q (T.setTop (mkF m pc Ls (.int j :: .ref a :: st))) := by
  obtain ⟨⟨k0, locs, X, hS, hk, N⟩, ⟨eT, hZ, hown, C⟩, hh⟩ := W
  obtain ⟨cl, A, q1, S, q3, H, G⟩ := V
  have hin : ¬ (j < 0 ∨ cl.slots.size ≤ j.toNatClampNeg) := inb_of S ⟨h0, hz⟩
  subst hp
  exact Go.up (fun t q => X.caload hh.2.1 (j := j) (v := v) (by rw [eT]; exact A.1) (State.isArrayOf_alike (show Z.vm.Alike (s.setVm vm0).vm from hZ.alike) A.2.1) A.2.2 hin (H.at hin hv) (g := mkF m pc Ls (.int j :: .ref a :: st)) rfl rfl (hb hh.2.2.1 hd) t q) k
theorem s_baload (W : Wk p l e R s m args below meth c Z a0 EL n0 own nm bytes maxL ret T vm0 h cells slots) {a : Addr} {kA : ClassId} {z j : Int32} {vs : List Value} {dv : Value} (v : Value) (V : Arv Z h a kA .byte z vs dv) (h0 : ¬ j < 0) (hz : j < z) (hv : vs.getD j.toNatClampNeg dv = v) (hd : decode bytes pc = .ok (.baload, 1)) (hp : pc + 1 = pc') (k : Go p e below s R Z EL n0 Q (T.setTop (mkF m pc' Ls (v :: st)))) : Go p e below s R Z EL n0 Q (T.setTop (mkF m pc Ls (.int j :: .ref a :: st))) := by
  obtain ⟨⟨k0, locs, X, hS, hk, N⟩, ⟨eT, hZ, hown, C⟩, hh⟩ := W
  obtain ⟨cl, A, q1, S, q3, H, G⟩ := V
  have hin : ¬ (j < 0 ∨ cl.slots.size ≤ j.toNatClampNeg) := inb_of S ⟨h0, hz⟩
  subst hp
  exact Go.up (fun t q => X.baloadBytes hh.2.1 (j := j) (v := v) (by rw [eT]; exact A.1) (State.isArrayOf_alike (show Z.vm.Alike (s.setVm vm0).vm from hZ.alike) A.2.1) A.2.2 hin (H.at hin hv) (g := mkF m pc Ls (.int j :: .ref a :: st)) rfl rfl (hb hh.2.2.1 hd) t q) k
theorem s_laload (W : Wk p l e R s m args below meth c Z a0 EL n0 own nm bytes maxL ret T vm0 h cells slots) {a : Addr} {kA : ClassId} {z j : Int32} {vs : List Value} {dv : Value} (v : Value) (V : Arv Z h a kA .long z vs dv) (h0 : ¬ j < 0) (hz : j < z) (hv : vs.getD j.toNatClampNeg dv = v) (hd : decode bytes pc = .ok (.laload, 1)) (hp : pc + 1 = pc') (k : Go p e below s R Z EL n0 Q (T.setTop (mkF m pc' Ls (v :: st)))) : Go p e below s R Z EL n0 Q (T.setTop (mkF m pc Ls (.int j :: .ref a :: st))) := by
  obtain ⟨⟨k0, locs, X, hS, hk, N⟩, ⟨eT, hZ, hown, C⟩, hh⟩ := W
  obtain ⟨cl, A, q1, S, q3, H, G⟩ := V
  have hin : ¬ (j < 0 ∨ cl.slots.size ≤ j.toNatClampNeg) := inb_of S ⟨h0, hz⟩
  subst hp
  exact Go.up (fun t q => X.laload hh.2.1 (j := j) (v := v) (by rw [eT]; exact A.1) (State.isArrayOf_alike (show Z.vm.Alike (s.setVm vm0).vm from hZ.alike) A.2.1) A.2.2 hin (H.at hin hv) (g := mkF m pc Ls (.int j :: .ref a :: st)) rfl rfl (hb hh.2.2.1 hd) t q) k
theorem s_aaload (W : Wk p l e R s m args below meth c Z a0 EL n0 own nm bytes maxL ret T vm0 h cells slots) {a : Addr} {kA : ClassId} {z j : Int32} {vs : List Value} {dv : Value} {ty : FieldType} (v : Value) (V : Arv Z h a kA ty z vs dv) (hty : ty.isReference = true) (h0 : ¬ j < 0) (hz : j < z) (hv : vs.getD j.toNatClampNeg dv = v) (hd : decode bytes pc = .ok (.aaload, 1)) (hp : pc + 1 = pc') (k : Go p e below s R Z EL n0 Q (T.setTop (mkF m pc' Ls (v :: st)))) : Go p e below s R Z EL n0 Q (T.setTop (mkF m pc Ls (.int j :: .ref a :: st))) := by
  obtain ⟨⟨k0, locs, X, hS, hk, N⟩, ⟨eT, hZ, hown, C⟩, hh⟩ := W
  obtain ⟨cl, A, q1, S, q3, H, G⟩ := V
  have hin : ¬ (j < 0 ∨ cl.slots.size ≤ j.toNatClampNeg) := inb_of S ⟨h0, hz⟩
  subst hp
  exact Go.up (fun t q => X.aaload hh.2.1 (j := j) (v := v) (by rw [eT]; exact A.1) (State.isArrayOf_alike (show Z.vm.Alike (s.setVm vm0).vm from hZ.alike) A.2.1) hty A.2.2 hin (H.at hin hv) (g := mkF m pc Ls (.int j :: .ref a :: st)) rfl rfl (hb hh.2.2.1 hd) t q) k
theorem s_alen (W : Wk p l e R s m args below meth c Z a0 EL n0 own nm bytes maxL ret T vm0 h cells slots) {a : Addr} {kA : ClassId} {z : Int32} {vs : List Value} {dv : Value} {ty : FieldType} (V : Arv Z h a kA ty z vs dv) (hd : decode bytes pc = .ok (.arraylength, 1)) (hp : pc + 1 = pc') (k : Go p e below s R Z EL n0 Q (T.setTop (mkF m pc' Ls (.int z :: st)))) : Go p e below s R Z EL n0 Q (T.setTop (mkF m pc Ls (.ref a :: st))) := by
  obtain ⟨⟨k0, locs, X, hS, hk, N⟩, ⟨eT, hZ, hown, C⟩, hh⟩ := W
  obtain ⟨cl, A, q1, S, q3, H, G⟩ := V
  subst hp
  have ez := len_of S q3
  refine Go.up (fun t q => X.arraylength hh.2.1 (by rw [eT]; exact A.1) (State.isArrayOf_alike (show Z.vm.Alike (s.setVm vm0).vm from hZ.alike) A.2.1) (g := mkF m pc Ls (.ref a :: st)) rfl rfl (hb hh.2.2.1 hd) t q) ?_
  rw [ez]; exact k
theorem s_objinit (W : Wk p l e R s m args below meth c Z a0 EL n0 own nm bytes maxL ret T vm0 h cells slots) {idx : Nat} (w1 : (Cond.methodLink own idx Lib.objectInit).before a0 Z = true) (w2 : (Cond.instanceMethod Lib.objectInit).before a0 Z = true) (w3 : (Cond.code Lib.objectInit ⟨#[0xb1]⟩ 1 none).before a0 Z = true) {a : Addr} (hsz : Ls.size = maxL) (hd : decode bytes pc = .ok (.invokespecial idx, 3)) (Wd : Nat) (hWd : (st.map fun v => v.category).sum ≤ Wd) (hf : 1 ≤ R.frames) (hl : Wd + 12 ≤ R.locals) (hp : pc + 3 = pc') (k : ∀ T', Wk p l e R s m args below meth c Z a0 EL n0 own nm bytes maxL ret T' vm0 h cells slots → Go p e below s R Z EL n0 Q (T'.setTop (mkF m pc' Ls st))) : Go p e below s R Z EL n0 Q (T.setTop (mkF m pc Ls (.ref a :: st))) := by
  obtain ⟨⟨k0, locs, X, hS, hk, N⟩, ⟨eT, hZ, hown, C⟩, hh⟩ := W
  obtain ⟨T', X', e', st'⟩ := initO X hh.2.1 (show Z.Warmed39 (s.setVm vm0).vm from hZ) (own := own) hown w1 w2 w3 eT (g := mkF m pc Ls (.ref a :: st)) rfl (hsz.trans hh.2.2.2.1.symm) rfl (hb hh.2.2.1 hd) hf (W := Wd) (by show 2 * 0 + _ ≤ _; omega) hl
  subst hp
  exact Go.up st' (k T' ⟨⟨k0, locs, X', hS, hk, N⟩, ⟨e', hZ, hown, C⟩, hh⟩)

theorem s_ldcS (W : Wk p l e R s m args below meth c Z a0 EL n0 own nm bytes maxL ret T vm0 h cells slots) {index : Nat} {text : String} (n : Nat) (w : (Cond.stringLink own index text).before a0 Z = true) (wS : ∀ a ∈ Bundle.stringAtoms, a.before a0 Z = true) (hmem : (own, index) ∈ EL) {vs : List Value} {z : Int32} (ht : (∀ c ∈ text.toList, c.toNat < 256) ∧ text.toList.map (fun c => Value.int (Jvm.Lit.byteI c.toNat.toUInt16)) = vs) (hz : ¬ z < 0) (hlz : z.toNatClampNeg = vs.length) (hd : decode bytes pc = .ok (.ldc index, 2)) (hn : 4 * text.toList.length ≤ n) (hbig : n ≤ 536870912) (hc : cells + 2 ≤ R.cells) (hl' : slots + (n + 4) ≤ R.slots) (hp : pc + 2 = pc')
    (k : ∀ a b kB T' vm' h', Wk p l e R s m args below meth c Z a0 EL n0 own nm bytes maxL ret T' vm' h' (cells + 2) (slots + (n + 4)) → Keep h h' [] → CHr Z EL vm0 h vm' h' → Exa Z h' a "java/lang/String" → Fld Z h' a "java/lang/String" "coder" "B" (.int 0) → Fld Z h' a "java/lang/String" "value" "[B" (.ref b) → Arv Z h' b kB .byte z vs (.int 0) → (∀ x, Safe Z EL vm' h' x → x ≠ a ∧ x ≠ b) → Go p e below s R Z EL n0 Q (T'.setTop (mkF m pc' Ls (.ref a :: st)))) : Go p e below s R Z EL n0 Q (T.setTop (mkF m pc Ls st)) := by
  obtain ⟨⟨k0, locs, X, hS, hk, N⟩, ⟨eT, hZ, hown, C⟩, hh⟩ := W
  obtain ⟨a, T', h', k1, b, kB, X', e', E, hS', hk', hZ', hown', x1, x2, x3, x4, -, -, Ch, -, hne, st'⟩ := ldcCH X hh.2.1 hZ (own := own) hown w wS eT hS.1 hk hh.2.2.2.2.2.2.2 hmem C.1 ht hz hlz (g := mkF m pc Ls st) rfl (hb hh.2.2.1 hd) hn hbig hc hl'
  subst hp
  exact Go.up st' (k a b kB T' T'.vm h' ⟨⟨k1, locs, X', ⟨hS', fun q => absurd q (by decide)⟩, hk', N⟩, ⟨e', hZ', hown', C.trans Ch⟩, hh⟩ ((Keep.refl h []).ext E) Ch x1 x2 x3 x4 hne)
theorem s_ldcO (W : Wk p l e R s m args below meth c Z a0 EL n0 own nm bytes maxL ret T vm0 h cells slots) {index : Nat} {text : String} (n : Nat) (w : (Cond.stringLink own index text).before a0 Z = true) (wS : ∀ a ∈ Bundle.stringAtoms, a.before a0 Z = true) (hd : decode bytes pc = .ok (.ldc index, 2)) (hn : 4 * text.toList.length ≤ n) (hbig : n ≤ 536870912) (hc : cells + 2 ≤ R.cells) (hl' : slots + (n + 4) ≤ R.slots) (hp : pc + 2 = pc')
    (k : ∀ a T' vm' h', Wk p l e R s m args below meth c Z a0 EL n0 own nm bytes maxL ret T' vm' h' (cells + 2) (slots + (n + 4)) → Keep h h' [] → CHr Z EL vm0 h vm' h' → Go p e below s R Z EL n0 Q (T'.setTop (mkF m pc' Ls (.ref a :: st)))) : Go p e below s R Z EL n0 Q (T.setTop (mkF m pc Ls st)) := by
  obtain ⟨⟨k0, locs, X, hS, hk, N⟩, ⟨eT, hZ, hown, C⟩, hh⟩ := W
  obtain ⟨a, T', h', k1, X', e', E, hS', hk', hZ', hown', Ch, -, st'⟩ := ldcOH X hh.2.1 hZ (own := own) hown w wS eT hS.1 hk hh.2.2.2.2.2.2.2 C.1 (g := mkF m pc Ls st) rfl (hb hh.2.2.1 hd) hn hbig hc hl'
  subst hp
  exact Go.up st' (k a T' T'.vm h' ⟨⟨k1, locs, X', ⟨hS', fun q => absurd q (by decide)⟩, hk', N⟩, ⟨e', hZ', hown', C.trans Ch⟩, hh⟩ ((Keep.refl h []).ext E) Ch)


theorem Con.back {y : MethodName} {bytes' : ByteArray} {maxL' : Nat} {ret' : Option FieldType} {rm : Room} {len W : Nat} {as' : Array Value} {S : List Addr} {Q' : Option Value → Vm → Heap → Prop}
    (hM : Con l Z EL n0 y bytes' maxL' ret' [] rm as' h S Q') (hZ : Z.Warmed39 vm0) (wc : (Cond.code y bytes' maxL' ret').before a0 Z = true) (wz : (Cond.initialized y.cls).before a0 Z = true) (hf : rm.frames + 1 ≤ R.frames) (hl : W + (maxL' + 11) + rm.locals ≤ R.locals) (hEL : EW Z a0 EL) (H : CHv Z EL vm0 h) (hS : ∀ x ∈ S, x < h.size ∧ Safe Z EL vm0 h x) :
    BackS l R p e below (s.setVm vm0) args y len W (fun A a => a = as' ∧ A.U.heap = h ∧ A.cells + rm.cells ≤ R.cells ∧ A.slots + rm.slots ≤ R.slots)
      (fun A _ v B => ∃ L, Q' v B.U.vm B.U.heap ∧ Fr n0 L ∧ B.locs = A.locs ++ L ∧ B.cells = A.cells + rm.cells ∧ B.slots = A.slots + rm.slots ∧ CHr Z EL vm0 h B.U.vm B.U.heap ∧ (NW = true → (s.setVm vm0).WarmedH B.U.vm)) :=
  BackS.of_freeW (bytes := bytes') (maxL := maxL') (ret := ret') (E := fun _ first o t L k n => k = rm.cells ∧ n = rm.slots ∧ (∃ v, o = .returned v ∧ Q' v t.vm t.heap) ∧ Fr n0 L ∧ CHr Z EL first.vm first.heap t.vm t.heap ∧ (NW = true → first.WarmedH t.vm)) hM hf hl
    (fun m meth c A a Y hp => have hU : Z.Warmed39 A.U.vm := wtrans (s := s.setVm vm0) hZ Y.warmed
      ⟨by show (Cond.and _ .tt).before a A.U = true; rw [Cond.before_and, mv hU wc]; rfl, mv hU wc, mv hU wz, hp.2.2.1, hp.2.2.2⟩)
    (fun m meth c A a g mk Y hp => ⟨hp.1, wtrans (s := s.setVm vm0) hZ Y.warmed, hp.2.1, (CHv.at Y hZ hEL H).1, fun x hx => (CHv.at Y hZ hEL H).safe (hS x hx).1 (hS x hx).2⟩) (fun _ _ _ _ _ _ _ _ _ => trivial)
    (fun _ _ _ _ ⟨v, L, h1, h2, h3, h4, h5⟩ => ⟨L, _, _, h5.1, rfl, rfl, ⟨v, h1, h2⟩, h3, h4, h5.2⟩)
    (fun m meth c A a g mk v t L k n Y hp _ _ ⟨e1, e2, ⟨v', e3, e4⟩, e5, e6, e7⟩ => by
      cases e3; subst e1 e2
      refine ⟨L, e4, e5, rfl, rfl, rfl, (CHv.at Y hZ hEL H).trans ?_, fun q => State.WarmedH.trans (t := A.U) Y.warmed (e7 q)⟩
      rw [← hp.2.1]; exact e6)
theorem Con.of {y : MethodName} {bytes' : ByteArray} {maxL' : Nat} {ret' : Option FieldType} {ws : List Cond} {rm : Room} {as' : Array Value} {S : List Addr} {Q' : Option Value → Vm → Heap → Prop} (hpl : plainFor y = true) (O : Old Z n0 h) (hEL : EW Z a0 EL)
    (hbody : ∀ p e s m below meth c T, Wk p l e rm s m as' below meth c Z a0 EL n0 y.cls y.name bytes' maxL' ret' T s.vm h 0 0 → s.heap = h → (∀ x ∈ S, Safe Z EL s.vm h x) → Go p e below s rm Z EL n0 Q' (T.setTop (entryFrame m as' maxL'))) :
    Con l Z EL n0 y bytes' maxL' ret' ws rm as' h S Q' := by
  refine MetFree.of_bodySF hpl hisR ?_
  intro p e s m args below meth c s₁ Bd hml hP hK
  obtain ⟨rfl, hZ, rfl, hC, hSafe⟩ := hP
  have hown : s.vm.findClass y.cls = some m.cls := findClass_of_methodNamed Bd.named
  have hnm := (name_of_methodNamed Bd.named Bd.method).1
  have X0 : Stand p l e rm s m args below meth c s₁ [] 0 0 := Stand.of_body Bd
  have e0 : s₁.heap = s.heap := by rw [Bd.state]; rfl
  exact hbody p e s m below meth c s₁ ⟨⟨0, [], X0, ⟨(State.WarmedH.refl s).since 0, fun _ => State.WarmedH.refl s⟩, Nat.zero_le _, Fr.nil n0⟩, ⟨e0, hZ, hown, CHr.refl hC⟩, O, Bd.exec, Bd.bytes, hml, Bd.returns, Bd.notSynchronized, hnm, hEL⟩ rfl hSafe

theorem nf_mv {y : MethodName} (hZ : Z.Warmed39 vm0) (wf : NotFace Z y) : NotFace (s.setVm vm0) y := fun r0 h0 => by
  have q : (Z.setVm vm0).methodNamed? y = Z.methodNamed? y := State.methodNamed?_setVm hZ.alike y
  have h0' : Z.methodNamed? y = some r0 := q.symm.trans h0
  obtain ⟨kr, hkr, hn⟩ := wf r0 h0'
  obtain ⟨k', q1, q2⟩ := hZ.alike.2.2 _ _ hkr
  exact ⟨k', q1, by rw [q2]; exact hn⟩
theorem PrivateAt.of_word {y : MethodName} {args : Array Value} {s : State} (w : (Cond.privateMethod y).before args s = true) : s.PrivateAt y := Cond.privateMethod_at w
theorem s_static (W : Wk p l e R s m args below meth c Z a0 EL n0 own nm bytes maxL ret T vm0 h cells slots) {index : Nat} {y : MethodName} {bytes' : ByteArray} {maxL' : Nat} {ret' : Option FieldType} {rm : Room} {S : List Addr} {Q' : Option Value → Vm → Heap → Prop} (w1 : (Cond.methodLink own index y).before a0 Z = true) (w2 : (Cond.static y).before a0 Z = true) (wz : (Cond.initialized y.cls).before a0 Z = true) (wc : (Cond.code y bytes' maxL' ret').before a0 Z = true) (hy : y.cls ≠ "java/lang/invoke/MethodHandle" ∧ y.cls ≠ "java/lang/invoke/VarHandle") {ps : List FieldType} {r : Option FieldType} (pd : parseMethodDescriptor y.desc = some ⟨ps, r⟩) (argsL : List Value) (hln : argsL.length = ps.length) (hM : Con l Z EL n0 y bytes' maxL' ret' [] rm argsL.toArray h S Q') (hSf : ∀ x ∈ S, x < h.size ∧ Safe Z EL vm0 h x) (hsz : Ls.size = maxL) (hd : decode bytes pc = .ok (.invokestatic index, 3)) (Wd : Nat) (hWd : (st.map fun v => v.category).sum ≤ Wd) (hf : rm.frames + 1 ≤ R.frames) (hlo : Wd + (maxL' + 11) + rm.locals ≤ R.locals) (hc : cells + rm.cells ≤ R.cells) (hl : slots + rm.slots ≤ R.slots) (hp : pc + 3 = pc')
    (k : ∀ v T' vm' h', Wk p l e R s m args below meth c Z a0 EL n0 own nm bytes maxL ret T' vm' h' (cells + rm.cells) (slots + rm.slots) → CHr Z EL vm0 h vm' h' → Q' v vm' h' → Go p e below s R Z EL n0 Q (T'.setTop (mkF m pc' Ls (v.toList ++ st)))) : Go p e below s R Z EL n0 Q (T.setTop (mkF m pc Ls (argsL.reverse ++ st))) := by
  obtain ⟨⟨k0, locs, X, hS, hk, N⟩, ⟨eT, hZ, hown, C⟩, hh⟩ := W
  obtain ⟨v, vm1, ⟨U, L1, c1, n1⟩, hW1, X', hS1, hgr, ⟨L, hQ, hF, hL, hcc, hnn, hC, hNW⟩, hsteps⟩ := callSS X hh.2.1 (own := own) (index := index) (y := y) (bytes := bytes') (maxL := maxL') (ret := ret') hown (mv (s := s.setVm vm0) hZ w1) (mv (s := s.setVm vm0) hZ w2) (mv (s := s.setVm vm0) hZ wz) (mv (s := s.setVm vm0) hZ wc) hy (hM.back (p := p) (e := e) (below := below) (args := args) (len := 3) (R := R) (s := s) (W := Wd) hZ wc wz hf hlo hh.2.2.2.2.2.2.2 C.1 hSf) (g := mkF m pc Ls (argsL.reverse ++ st)) rfl (hsz.trans hh.2.2.2.1.symm) (argsL := argsL) (rest := st) (lenOf pd hln) rfl (by show 2 * 0 + _ ≤ _; omega) (hb hh.2.2.1 hd) (fun _ _ => ⟨rfl, eT, hc, hl⟩)
  dsimp only [Pt.U, Pt.locs, Pt.cells, Pt.slots] at X' hS1 hgr hQ hL hcc hnn hC hNW hsteps
  subst hL hcc hnn hp
  have hZ' : Z.Warmed39 U.vm := State.Warmed39.trans (t := s.setVm vm0) hZ hS1.1
  have hown' : U.vm.findClass own = some m.cls := (hS1.1.alike.findClass _ _).trans hown
  rw [eT] at hgr
  exact Go.up (fun t q => hsteps.trans q) (k v U U.vm U.heap ⟨⟨_, _, X', ⟨hS.1.trans hS1 (Nat.le_trans hk hgr), fun q => State.WarmedH.trans (t := s.setVm vm0) (hS.2 q) (hNW q)⟩, Nat.le_refl _, N.app hF⟩, ⟨rfl, hZ', hown', C.trans hC⟩, hh⟩ hC hQ)
theorem s_init (W : Wk p l e R s m args below meth c Z a0 EL n0 own nm bytes maxL ret T vm0 h cells slots) {index : Nat} {y : MethodName} {bytes' : ByteArray} {maxL' : Nat} {rm : Room} {S : List Addr} {Q' : Option Value → Vm → Heap → Prop} (hy1 : y.name = "<init>") (w1 : (Cond.methodLink own index y).before a0 Z = true) (w2 : (Cond.instanceMethod y).before a0 Z = true) (wz : (Cond.initialized y.cls).before a0 Z = true) (wc : (Cond.code y bytes' maxL' none).before a0 Z = true) (hy : y.cls ≠ "java/lang/invoke/MethodHandle" ∧ y.cls ≠ "java/lang/invoke/VarHandle") {ps : List FieldType} {r : Option FieldType} (pd : parseMethodDescriptor y.desc = some ⟨ps, r⟩) (argsL : List Value) (hln : argsL.length = ps.length) {a : Addr} (hM : Con l Z EL n0 y bytes' maxL' none [] rm (.ref a :: argsL).toArray h S Q') (hSf : ∀ x ∈ S, x < h.size ∧ Safe Z EL vm0 h x) (hsz : Ls.size = maxL) (hd : decode bytes pc = .ok (.invokespecial index, 3)) (Wd : Nat) (hWd : (st.map fun v => v.category).sum ≤ Wd) (hf : rm.frames + 1 ≤ R.frames) (hlo : Wd + (maxL' + 11) + rm.locals ≤ R.locals) (hc : cells + rm.cells ≤ R.cells) (hl : slots + rm.slots ≤ R.slots) (hp : pc + 3 = pc')
    (k : ∀ v T' vm' h', Wk p l e R s m args below meth c Z a0 EL n0 own nm bytes maxL ret T' vm' h' (cells + rm.cells) (slots + rm.slots) → CHr Z EL vm0 h vm' h' → Q' v vm' h' → Go p e below s R Z EL n0 Q (T'.setTop (mkF m pc' Ls (v.toList ++ st)))) : Go p e below s R Z EL n0 Q (T.setTop (mkF m pc Ls (argsL.reverse ++ .ref a :: st))) := by
  obtain ⟨⟨k0, locs, X, hS, hk, N⟩, ⟨eT, hZ, hown, C⟩, hh⟩ := W
  obtain ⟨v, vm1, ⟨U, L1, c1, n1⟩, hW1, X', hS1, hgr, ⟨L, hQ, hF, hL, hcc, hnn, hC, hNW⟩, hsteps⟩ := X.specialBackS hh.2.1 (own := own) (index := index) (y := y) hy1 hown (mv (s := s.setVm vm0) hZ w1) (mv (s := s.setVm vm0) hZ w2) (bytes := bytes') (maxL := maxL') (mv (s := s.setVm vm0) hZ wc) hy (hM.back (p := p) (e := e) (below := below) (args := args) (len := 3) (R := R) (s := s) (W := Wd) hZ wc wz hf hlo hh.2.2.2.2.2.2.2 C.1 hSf) (g := mkF m pc Ls (argsL.reverse ++ .ref a :: st)) rfl (hsz.trans hh.2.2.2.1.symm) (Steps.refl _) (a := a) (argsL := argsL) (rest := st) (lenOf pd hln) rfl (by show 2 * 0 + _ ≤ _; omega) (hb hh.2.2.1 hd) (fun _ _ => ⟨rfl, eT, hc, hl⟩)
  dsimp only [Pt.U, Pt.locs, Pt.cells, Pt.slots] at X' hS1 hgr hQ hL hcc hnn hC hNW hsteps
  subst hL hcc hnn hp
  have hZ' : Z.Warmed39 U.vm := State.Warmed39.trans (t := s.setVm vm0) hZ hS1.1
  have hown' : U.vm.findClass own = some m.cls := (hS1.1.alike.findClass _ _).trans hown
  rw [eT] at hgr
  exact Go.up (fun t q => hsteps.trans q) (k v U U.vm U.heap ⟨⟨_, _, X', ⟨hS.1.trans hS1 (Nat.le_trans hk hgr), fun q => State.WarmedH.trans (t := s.setVm vm0) (hS.2 q) (hNW q)⟩, Nat.le_refl _, N.app hF⟩, ⟨rfl, hZ', hown', C.trans hC⟩, hh⟩ hC hQ)
theorem s_virt (W : Wk p l e R s m args below meth c Z a0 EL n0 own nm bytes maxL ret T vm0 h cells slots) {index : Nat} {C0 : String} {y z : MethodName} {bytes' : ByteArray} {maxL' : Nat} {ret' : Option FieldType} {rm : Room} {S : List Addr} {Q' : Option Value → Vm → Heap → Prop} (w1 : (Cond.methodLink own index y).before a0 Z = true) (w2 : (Cond.declares y).before a0 Z = true) (w3 : (Cond.selects C0 y z).before a0 Z = true) (w4 : (Cond.instanceMethod z).before a0 Z = true) (wz : (Cond.initialized z.cls).before a0 Z = true) (wc : (Cond.code z bytes' maxL' ret').before a0 Z = true) (wf : NotFace Z y) (hy : y.cls ≠ "java/lang/invoke/MethodHandle" ∧ y.cls ≠ "java/lang/invoke/VarHandle") {ps : List FieldType} {r : Option FieldType} (pd : parseMethodDescriptor y.desc = some ⟨ps, r⟩) (argsL : List Value) (hln : argsL.length = ps.length) {a : Addr} (E : Exa Z h a C0) (hM : Con l Z EL n0 z bytes' maxL' ret' [] rm (.ref a :: argsL).toArray h S Q') (hSf : ∀ x ∈ S, x < h.size ∧ Safe Z EL vm0 h x) (hsz : Ls.size = maxL) (hd : decode bytes pc = .ok (.invokevirtual index, 3)) (Wd : Nat) (hWd : (st.map fun v => v.category).sum ≤ Wd) (hf : rm.frames + 1 ≤ R.frames) (hlo : Wd + (maxL' + 11) + rm.locals ≤ R.locals) (hc : cells + rm.cells ≤ R.cells) (hl : slots + rm.slots ≤ R.slots) (hp : pc + 3 = pc')
    (k : ∀ v T' vm' h', Wk p l e R s m args below meth c Z a0 EL n0 own nm bytes maxL ret T' vm' h' (cells + rm.cells) (slots + rm.slots) → CHr Z EL vm0 h vm' h' → Q' v vm' h' → Go p e below s R Z EL n0 Q (T'.setTop (mkF m pc' Ls (v.toList ++ st)))) : Go p e below s R Z EL n0 Q (T.setTop (mkF m pc Ls (argsL.reverse ++ .ref a :: st))) := by
  obtain ⟨⟨k0, locs, X, hS, hk, N⟩, ⟨eT, hZ, hown, C⟩, hh⟩ := W
  obtain ⟨cq, kq, qa, qb, qc⟩ := isOf (show Z.Warmed39 (s.setVm vm0).vm from hZ) eT E
  have wf' : NotFace (s.setVm vm0) y := nf_mv hZ wf
  obtain ⟨v, vm1, ⟨U, L1, c1, n1⟩, hW1, X', hS1, hgr, ⟨L, hQ, hF, hL, hcc, hnn, hC, hNW⟩, hsteps⟩ := X.virtualBackS hh.2.1 (own := own) (C := C0) (index := index) (y := y) (z := z) hown (mv (s := s.setVm vm0) hZ w1) (mv (s := s.setVm vm0) hZ w2) wf' (mv (s := s.setVm vm0) hZ w3) (mv (s := s.setVm vm0) hZ w4) hy (hM.back (p := p) (e := e) (below := below) (args := args) (len := 3) (R := R) (s := s) (W := Wd) hZ wc wz hf hlo hh.2.2.2.2.2.2.2 C.1 hSf) qa qc (g := mkF m pc Ls (argsL.reverse ++ .ref a :: st)) rfl (hsz.trans hh.2.2.2.1.symm) (Steps.refl _) (argsL := argsL) (rest := st) (lenOf pd hln) rfl (by show 2 * 0 + _ ≤ _; omega) (hb hh.2.2.1 hd) (fun _ _ => ⟨rfl, eT, hc, hl⟩)
  dsimp only [Pt.U, Pt.locs, Pt.cells, Pt.slots] at X' hS1 hgr hQ hL hcc hnn hC hNW hsteps
  subst hL hcc hnn hp
  have hZ' : Z.Warmed39 U.vm := State.Warmed39.trans (t := s.setVm vm0) hZ hS1.1
  have hown' : U.vm.findClass own = some m.cls := (hS1.1.alike.findClass _ _).trans hown
  rw [eT] at hgr
  exact Go.up (fun t q => hsteps.trans q) (k v U U.vm U.heap ⟨⟨_, _, X', ⟨hS.1.trans hS1 (Nat.le_trans hk hgr), fun q => State.WarmedH.trans (t := s.setVm vm0) (hS.2 q) (hNW q)⟩, Nat.le_refl _, N.app hF⟩, ⟨rfl, hZ', hown', C.trans hC⟩, hh⟩ hC hQ)
theorem s_face (W : Wk p l e R s m args below meth c Z a0 EL n0 own nm bytes maxL ret T vm0 h cells slots) {index count : Nat} {C0 : String} {y z : MethodName} {bytes' : ByteArray} {maxL' : Nat} {ret' : Option FieldType} {rm : Room} {S : List Addr} {Q' : Option Value → Vm → Heap → Prop} (w1 : (Cond.methodLink own index y).before a0 Z = true) (w2 : (Cond.declares y).before a0 Z = true) (w5 : (Cond.interfaceMethod y.cls y.cls y.name y.desc).before a0 Z = true) (w3 : (Cond.selects C0 y z).before a0 Z = true) (w4 : (Cond.instanceMethod z).before a0 Z = true) (w6 : (Cond.publicMethod z).before a0 Z = true) (w7 : (Cond.unhidden C0 y.name y.desc).before a0 Z = true) (w8 : (Cond.castable C0 y.cls).before a0 Z = true) (wz : (Cond.initialized z.cls).before a0 Z = true) (wc : (Cond.code z bytes' maxL' ret').before a0 Z = true) (hy : y.cls ≠ "java/lang/invoke/MethodHandle" ∧ y.cls ≠ "java/lang/invoke/VarHandle") {ps : List FieldType} {r : Option FieldType} (pd : parseMethodDescriptor y.desc = some ⟨ps, r⟩) (argsL : List Value) (hln : argsL.length = ps.length) {a : Addr} (E : Exa Z h a C0) (hM : Con l Z EL n0 z bytes' maxL' ret' [] rm (.ref a :: argsL).toArray h S Q') (hSf : ∀ x ∈ S, x < h.size ∧ Safe Z EL vm0 h x) (hsz : Ls.size = maxL) (hd : decode bytes pc = .ok (.invokeinterface index count, 5)) (Wd : Nat) (hWd : (st.map fun v => v.category).sum ≤ Wd) (hf : rm.frames + 1 ≤ R.frames) (hlo : Wd + (maxL' + 11) + rm.locals ≤ R.locals) (hc : cells + rm.cells ≤ R.cells) (hl : slots + rm.slots ≤ R.slots) (hp : pc + 5 = pc')
    (k : ∀ v T' vm' h', Wk p l e R s m args below meth c Z a0 EL n0 own nm bytes maxL ret T' vm' h' (cells + rm.cells) (slots + rm.slots) → CHr Z EL vm0 h vm' h' → Q' v vm' h' → Go p e below s R Z EL n0 Q (T'.setTop (mkF m pc' Ls (v.toList ++ st)))) : Go p e below s R Z EL n0 Q (T.setTop (mkF m pc Ls (argsL.reverse ++ .ref a :: st))) := by
  obtain ⟨⟨k0, locs, X, hS, hk, N⟩, ⟨eT, hZ, hown, C⟩, hh⟩ := W
  obtain ⟨cq, kq, qa, qb, qc⟩ := isOf (show Z.Warmed39 (s.setVm vm0).vm from hZ) eT E
  obtain ⟨v, vm1, ⟨U, L1, c1, n1⟩, hW1, X', hS1, hgr, ⟨L, hQ, hF, hL, hcc, hnn, hC, hNW⟩, hsteps⟩ := X.interfaceBackS hh.2.1 (own := own) (C := C0) (index := index) (count := count) (xi := y) (y := z) hown (mv (s := s.setVm vm0) hZ w1) (mv (s := s.setVm vm0) hZ w2) (mv (s := s.setVm vm0) hZ w5 (by simp [Cond.onTables, Cond.keepsFace, Cond.faceAtom, Cond.keeps, Cond.steady]; exact hy)) (mv (s := s.setVm vm0) hZ w3) (mv (s := s.setVm vm0) hZ w4) (mv (s := s.setVm vm0) hZ w6) (mv (s := s.setVm vm0) hZ w7) (mv (s := s.setVm vm0) hZ w8) hy (hM.back (p := p) (e := e) (below := below) (args := args) (len := 5) (R := R) (s := s) (W := Wd) hZ wc wz hf hlo hh.2.2.2.2.2.2.2 C.1 hSf) qa qb qc (g := mkF m pc Ls (argsL.reverse ++ .ref a :: st)) rfl (hsz.trans hh.2.2.2.1.symm) (Steps.refl _) (argsL := argsL) (rest := st) (lenOf pd hln) rfl (by show 2 * 0 + _ ≤ _; omega) (hb hh.2.2.1 hd) (fun _ _ => ⟨rfl, eT, hc, hl⟩)
  dsimp only [Pt.U, Pt.locs, Pt.cells, Pt.slots] at X' hS1 hgr hQ hL hcc hnn hC hNW hsteps
  subst hL hcc hnn hp
  have hZ' : Z.Warmed39 U.vm := State.Warmed39.trans (t := s.setVm vm0) hZ hS1.1
  have hown' : U.vm.findClass own = some m.cls := (hS1.1.alike.findClass _ _).trans hown
  rw [eT] at hgr
  exact Go.up (fun t q => hsteps.trans q) (k v U U.vm U.heap ⟨⟨_, _, X', ⟨hS.1.trans hS1 (Nat.le_trans hk hgr), fun q => State.WarmedH.trans (t := s.setVm vm0) (hS.2 q) (hNW q)⟩, Nat.le_refl _, N.app hF⟩, ⟨rfl, hZ', hown', C.trans hC⟩, hh⟩ hC hQ)
theorem s_super (W : Wk p l e R s m args below meth c Z a0 EL n0 own nm bytes maxL ret T vm0 h cells slots) {index : Nat} {K : String} {y : MethodName} {bytes' : ByteArray} {maxL' : Nat} {ret' : Option FieldType} {rm : Room} {S : List Addr} {Q' : Option Value → Vm → Heap → Prop} (w1 : (Cond.methodLink own index y).before a0 Z = true) (w2 : (Cond.sameMethod y.cls y.cls y.name y.desc).before a0 Z = true) (w3 : (Cond.instanceMethod y).before a0 Z = true) (w4 : (Cond.superclass own y.cls).before a0 Z = true) (wz : (Cond.initialized y.cls).before a0 Z = true) (wc : (Cond.code y bytes' maxL' ret').before a0 Z = true) (hn0 : y.name ≠ "<init>") {ps : List FieldType} {r : Option FieldType} (pd : parseMethodDescriptor y.desc = some ⟨ps, r⟩) (argsL : List Value) (hln : argsL.length = ps.length) {a : Addr} (E : Ins Z h a K true) (hM : Con l Z EL n0 y bytes' maxL' ret' [] rm (.ref a :: argsL).toArray h S Q') (hSf : ∀ x ∈ S, x < h.size ∧ Safe Z EL vm0 h x) (hsz : Ls.size = maxL) (hd : decode bytes pc = .ok (.invokespecial index, 3)) (Wd : Nat) (hWd : (st.map fun v => v.category).sum ≤ Wd) (hf : rm.frames + 1 ≤ R.frames) (hlo : Wd + (maxL' + 11) + rm.locals ≤ R.locals) (hc : cells + rm.cells ≤ R.cells) (hl : slots + rm.slots ≤ R.slots) (hp : pc + 3 = pc')
    (k : ∀ v T' vm' h', Wk p l e R s m args below meth c Z a0 EL n0 own nm bytes maxL ret T' vm' h' (cells + rm.cells) (slots + rm.slots) → CHr Z EL vm0 h vm' h' → Q' v vm' h' → Go p e below s R Z EL n0 Q (T'.setTop (mkF m pc' Ls (v.toList ++ st)))) : Go p e below s R Z EL n0 Q (T.setTop (mkF m pc Ls (argsL.reverse ++ .ref a :: st))) := by
  obtain ⟨⟨k0, locs, X, hS, hk, N⟩, ⟨eT, hZ, hown, C⟩, hh⟩ := W
  obtain ⟨v, vm1, ⟨U, L1, c1, n1⟩, hW1, X', hS1, hgr, ⟨L, hQ, hF, hL, hcc, hnn, hC, hNW⟩, hsteps⟩ := superBackS X hh.2.1 (show Z.Warmed39 (s.setVm vm0).vm from hZ) (own := own) (K := K) (index := index) (y := y) hown w1 w2 w3 w4 hn0 (hM.back (p := p) (e := e) (below := below) (args := args) (len := 3) (R := R) (s := s) (W := Wd) hZ wc wz hf hlo hh.2.2.2.2.2.2.2 C.1 hSf) eT E (g := mkF m pc Ls (argsL.reverse ++ .ref a :: st)) rfl (hsz.trans hh.2.2.2.1.symm) (bytes := bytes') (maxL := maxL') (ret := ret') wc (argsL := argsL) (rest := st) (lenOf pd hln) rfl (by show 2 * 0 + _ ≤ _; omega) (hb hh.2.2.1 hd) (fun _ _ => ⟨rfl, eT, hc, hl⟩)
  dsimp only [Pt.U, Pt.locs, Pt.cells, Pt.slots] at X' hS1 hgr hQ hL hcc hnn hC hNW hsteps
  subst hL hcc hnn hp
  have hZ' : Z.Warmed39 U.vm := State.Warmed39.trans (t := s.setVm vm0) hZ hS1.1
  have hown' : U.vm.findClass own = some m.cls := (hS1.1.alike.findClass _ _).trans hown
  rw [eT] at hgr
  exact Go.up (fun t q => hsteps.trans q) (k v U U.vm U.heap ⟨⟨_, _, X', ⟨hS.1.trans hS1 (Nat.le_trans hk hgr), fun q => State.WarmedH.trans (t := s.setVm vm0) (hS.2 q) (hNW q)⟩, Nat.le_refl _, N.app hF⟩, ⟨rfl, hZ', hown', C.trans hC⟩, hh⟩ hC hQ)
theorem s_priv (W : Wk p l e R s m args below meth c Z a0 EL n0 own nm bytes maxL ret T vm0 h cells slots) {index : Nat} {C0 : String} {y : MethodName} {bytes' : ByteArray} {maxL' : Nat} {ret' : Option FieldType} {rm : Room} {S : List Addr} {Q' : Option Value → Vm → Heap → Prop} (w1 : (Cond.methodLink own index y).before a0 Z = true) (w2 : (Cond.instanceMethod y).before a0 Z = true) (w3 : (Cond.selects y.cls y y).before a0 Z = true) (w4 : (Cond.privateMethod y).before a0 Z = true) (wz : (Cond.initialized y.cls).before a0 Z = true) (wc : (Cond.code y bytes' maxL' ret').before a0 Z = true) (hy : y.cls ≠ "java/lang/invoke/MethodHandle" ∧ y.cls ≠ "java/lang/invoke/VarHandle") {ps : List FieldType} {r : Option FieldType} (pd : parseMethodDescriptor y.desc = some ⟨ps, r⟩) (argsL : List Value) (hln : argsL.length = ps.length) {a : Addr} (E : Exa Z h a C0) (hM : Con l Z EL n0 y bytes' maxL' ret' [] rm (.ref a :: argsL).toArray h S Q') (hSf : ∀ x ∈ S, x < h.size ∧ Safe Z EL vm0 h x) (hsz : Ls.size = maxL) (hd : decode bytes pc = .ok (.invokevirtual index, 3)) (Wd : Nat) (hWd : (st.map fun v => v.category).sum ≤ Wd) (hf : rm.frames + 1 ≤ R.frames) (hlo : Wd + (maxL' + 11) + rm.locals ≤ R.locals) (hc : cells + rm.cells ≤ R.cells) (hl : slots + rm.slots ≤ R.slots) (hp : pc + 3 = pc')
    (k : ∀ v T' vm' h', Wk p l e R s m args below meth c Z a0 EL n0 own nm bytes maxL ret T' vm' h' (cells + rm.cells) (slots + rm.slots) → CHr Z EL vm0 h vm' h' → Q' v vm' h' → Go p e below s R Z EL n0 Q (T'.setTop (mkF m pc' Ls (v.toList ++ st)))) : Go p e below s R Z EL n0 Q (T.setTop (mkF m pc Ls (argsL.reverse ++ .ref a :: st))) := by
  obtain ⟨⟨k0, locs, X, hS, hk, N⟩, ⟨eT, hZ, hown, C⟩, hh⟩ := W
  obtain ⟨cell, hcell, hobj⟩ := E.cell
  obtain ⟨v, vm1, ⟨U, L1, c1, n1⟩, hW1, X', hS1, hgr, ⟨L, hQ, hF, hL, hcc, hnn, hC, hNW⟩, hsteps⟩ := X.privateBackS hh.2.1 (own := own) (index := index) (y := y) (bytes := bytes') (maxL := maxL') (ret := ret') hown (mv (s := s.setVm vm0) hZ w1) (mv (s := s.setVm vm0) hZ w2) (mv (s := s.setVm vm0) hZ w3) (PrivateAt.of_word (mvP (s := s.setVm vm0) (args := args) hZ w4)) (mv (s := s.setVm vm0) hZ wc) hy (hM.back (p := p) (e := e) (below := below) (args := args) (len := 3) (R := R) (s := s) (W := Wd) hZ wc wz hf hlo hh.2.2.2.2.2.2.2 C.1 hSf) (g := mkF m pc Ls (argsL.reverse ++ .ref a :: st)) rfl (hsz.trans hh.2.2.2.1.symm) (Steps.refl _) (a := a) (cell := cell) (by rw [eT]; exact hcell) hobj (argsL := argsL) (rest := st) (lenOf pd hln) rfl (by show 2 * 0 + _ ≤ _; omega) (hb hh.2.2.1 hd) (fun _ _ => ⟨rfl, eT, hc, hl⟩)
  dsimp only [Pt.U, Pt.locs, Pt.cells, Pt.slots] at X' hS1 hgr hQ hL hcc hnn hC hNW hsteps
  subst hL hcc hnn hp
  have hZ' : Z.Warmed39 U.vm := State.Warmed39.trans (t := s.setVm vm0) hZ hS1.1
  have hown' : U.vm.findClass own = some m.cls := (hS1.1.alike.findClass _ _).trans hown
  rw [eT] at hgr
  exact Go.up (fun t q => hsteps.trans q) (k v U U.vm U.heap ⟨⟨_, _, X', ⟨hS.1.trans hS1 (Nat.le_trans hk hgr), fun q => State.WarmedH.trans (t := s.setVm vm0) (hS.2 q) (hNW q)⟩, Nat.le_refl _, N.app hF⟩, ⟨rfl, hZ', hown', C.trans hC⟩, hh⟩ hC hQ)
theorem s_copy (W : Wk p l e R s m args below meth c Z a0 EL n0 own nm bytes maxL ret T vm0 h cells slots) {index : Nat} (w1 : (Cond.methodLink own index Jvm.Stand.acN).before a0 Z = true) (w2 : (Cond.native Jvm.Stand.acN).before a0 Z = true) (w3 : (Cond.static Jvm.Stand.acN).before a0 Z = true) (w4 : (Cond.initialized "java/lang/System").before a0 Z = true) {a b : Addr} {k1 k2 : ClassId} {ty : FieldType} {z z' sp dp nn : Int32} {vs vd : List Value} {dv dd : Value} (A : Arv Z h a k1 ty z vs dv) (B : Arv Z h b k2 ty z' vd dd) (hty : refKind ty = false) (h1 : ¬ sp < 0) (h2 : ¬ dp < 0) (h3 : ¬ nn < 0) (h4 : sp.toNatClampNeg + nn.toNatClampNeg ≤ z.toNatClampNeg) (h5 : dp.toNatClampNeg + nn.toNatClampNeg ≤ z'.toNatClampNeg) (hlv : dp.toNatClampNeg + nn.toNatClampNeg ≤ vd.length) (M : Mine Z EL n0 vm0 h b) (hsz : Ls.size = maxL) (hd : decode bytes pc = .ok (.invokestatic index, 3)) (Wd : Nat) (hWd : (st.map fun v => v.category).sum ≤ Wd) (hf : 1 ≤ R.frames) (hlo : Wd + (nativeFrameWords "java/lang/System" "arraycopy" 5 + 11) ≤ R.locals) (hp : pc + 3 = pc')
    (k : ∀ T' h', Wk p l e R s m args below meth c Z a0 EL n0 own nm bytes maxL ret T' vm0 h' cells slots → Keep h h' [b] → CHr Z EL vm0 h vm0 h' → Arv Z h' b k2 ty z' (vd.take dp.toNatClampNeg ++ ((List.range nn.toNatClampNeg).map fun i => vs.getD (sp.toNatClampNeg + i) dv) ++ vd.drop (dp.toNatClampNeg + nn.toNatClampNeg)) dd → Go p e below s R Z EL n0 Q (T'.setTop (mkF m pc' Ls st))) : Go p e below s R Z EL n0 Q (T.setTop (mkF m pc Ls (.int nn :: .int dp :: .ref b :: .int sp :: .ref a :: st))) := by
  obtain ⟨⟨k0, locs, X, hS, hk, N⟩, ⟨eT, hZ, hown, C⟩, hh⟩ := W
  obtain ⟨T', h', L, X', e', N', K, V, st'⟩ := cpA X hh.2.1 (show Z.Warmed39 (s.setVm vm0).vm from hZ) (own := own) hown w1 w2 w3 w4 eT A B (Or.inl ⟨rfl, hty⟩) h1 h2 h3 h4 h5 rfl hlv N M.1 (g := mkF m pc Ls (.int nn :: .int dp :: .ref b :: .int sp :: .ref a :: st)) rfl (hsz.trans hh.2.2.2.1.symm) rfl (hb hh.2.2.1 hd) hf (W := Wd) (by show 2 * 0 + _ ≤ _; omega) hlo
  subst hp
  have Ch : CHr Z EL vm0 h vm0 h' := CHr.keep K (fun x hx => by cases List.mem_singleton.mp hx; exact M.2.2) C.1
  exact Go.up st' (k T' h' ⟨⟨k0, L, X', hS, Nat.le_trans hk Ch.2.1, N'⟩, ⟨e', hZ, hown, C.trans Ch⟩, hh⟩ K Ch V)
theorem s_ret (W : Wk p l e R s m args below meth c Z a0 EL n0 own nm bytes maxL ret T vm0 h cells slots) (hret : ret = none) (hd : decode bytes pc = .ok (.return_, 1)) (hc : cells ≤ R.cells) (hl : slots ≤ R.slots) (hq : ∀ vm', CHr Z EL vm0 h vm' h → Q (none) vm' h) : Go p e below s R Z EL n0 Q (T.setTop (mkF m pc Ls [])) := by
  have hrt := W.rt
  have hlk := W.lk
  obtain ⟨⟨k0, locs, X, hS, hk, N⟩, ⟨eT, hZ, hown, C⟩, hh⟩ := W
  obtain ⟨fs, hr, hrun, hended, hE⟩ := X.leaveW (v := none) hS.1 (eT ▸ hk) (fun _ => rfl) hlk
  have Ca := CHv.at X hZ hh.2.2.2.2.2.2.2 C.1
  refine ⟨T.setFrames fs, _, ?_, hrun, hended, _, locs, rfl, ?_, N, ?_, ⟨hE.1, hE.2.1, hE.2.2.1, hE.2.2.2.mono hc hl⟩, fun q => State.WarmedH.trans (t := s.setVm vm0) (hS.2 q) X.warmed⟩
  · exact X.returnOut hh.2.1 (hrt.trans hret) (hb hh.2.2.1 hd) hr
  · have : (T.setFrames fs).heap = h := eT
    rw [this]; exact hq _ Ca
  · have : (T.setFrames fs).heap = h := eT
    rw [this]; exact C.trans Ca
theorem s_ireturn (W : Wk p l e R s m args below meth c Z a0 EL n0 own nm bytes maxL ret T vm0 h cells slots) {z : Int32} (hret : ret = some .int) (hd : decode bytes pc = .ok (.ireturn, 1)) (hc : cells ≤ R.cells) (hl : slots ≤ R.slots) (hq : ∀ vm', CHr Z EL vm0 h vm' h → Q (some (.int z)) vm' h) : Go p e below s R Z EL n0 Q (T.setTop (mkF m pc Ls (.int z :: st))) := by
  have hrt := W.rt
  have hlk := W.lk
  obtain ⟨⟨k0, locs, X, hS, hk, N⟩, ⟨eT, hZ, hown, C⟩, hh⟩ := W
  obtain ⟨fs, hr, hrun, hended, hE⟩ := X.leaveW (v := some (.int z)) hS.1 (eT ▸ hk) (fun q => by rw [hrt, hret] at q; cases q) hlk
  have Ca := CHv.at X hZ hh.2.2.2.2.2.2.2 C.1
  refine ⟨T.setFrames fs, _, ?_, hrun, hended, _, locs, rfl, ?_, N, ?_, ⟨hE.1, hE.2.1, hE.2.2.1, hE.2.2.2.mono hc hl⟩, fun q => State.WarmedH.trans (t := s.setVm vm0) (hS.2 q) X.warmed⟩
  · exact retOut X hh.2.1 (t := .int) (i := .ireturn) (hrt.trans hret) rfl (Or.inl ⟨rfl, Or.inl rfl, _, rfl⟩) (hb hh.2.2.1 hd) hr
  · have : (T.setFrames fs).heap = h := eT
    rw [this]; exact hq _ Ca
  · have : (T.setFrames fs).heap = h := eT
    rw [this]; exact C.trans Ca
theorem s_nreturn (W : Wk p l e R s m args below meth c Z a0 EL n0 own nm bytes maxL ret T vm0 h cells slots) {z : Int32} {t : FieldType} (hret : ret = some t) (ht : t = .boolean ∨ t = .byte ∨ t = .char ∨ t = .short) (hd : decode bytes pc = .ok (.ireturn, 1)) (hc : cells ≤ R.cells) (hl : slots ≤ R.slots) (hq : ∀ vm', CHr Z EL vm0 h vm' h → Q (some (.int (nar t z))) vm' h) : Go p e below s R Z EL n0 Q (T.setTop (mkF m pc Ls (.int z :: st))) := by
  have hrt := W.rt
  have hlk := W.lk
  obtain ⟨⟨k0, locs, X, hS, hk, N⟩, ⟨eT, hZ, hown, C⟩, hh⟩ := W
  obtain ⟨fs, hr, hrun, hended, hE⟩ := X.leaveW (v := some (.int (nar t z))) hS.1 (eT ▸ hk) (fun q => by rw [hrt, hret] at q; cases q) hlk
  have Ca := CHv.at X hZ hh.2.2.2.2.2.2.2 C.1
  refine ⟨T.setFrames fs, _, ?_, hrun, hended, _, locs, rfl, ?_, N, ?_, ⟨hE.1, hE.2.1, hE.2.2.1, hE.2.2.2.mono hc hl⟩, fun q => State.WarmedH.trans (t := s.setVm vm0) (hS.2 q) X.warmed⟩
  · exact retN X hh.2.1 (t := t) (hrt.trans hret) ht (hb hh.2.2.1 hd) hr
  · have : (T.setFrames fs).heap = h := eT
    rw [this]; exact hq _ Ca
  · have : (T.setFrames fs).heap = h := eT
    rw [this]; exact C.trans Ca
theorem s_lreturn (W : Wk p l e R s m args below meth c Z a0 EL n0 own nm bytes maxL ret T vm0 h cells slots) {z : Int64} (hret : ret = some .long) (hd : decode bytes pc = .ok (.lreturn, 1)) (hc : cells ≤ R.cells) (hl : slots ≤ R.slots) (hq : ∀ vm', CHr Z EL vm0 h vm' h → Q (some (.long z)) vm' h) : Go p e below s R Z EL n0 Q (T.setTop (mkF m pc Ls (.long z :: st))) := by
  have hrt := W.rt
  have hlk := W.lk
  obtain ⟨⟨k0, locs, X, hS, hk, N⟩, ⟨eT, hZ, hown, C⟩, hh⟩ := W
  obtain ⟨fs, hr, hrun, hended, hE⟩ := X.leaveW (v := some (.long z)) hS.1 (eT ▸ hk) (fun q => by rw [hrt, hret] at q; cases q) hlk
  have Ca := CHv.at X hZ hh.2.2.2.2.2.2.2 C.1
  refine ⟨T.setFrames fs, _, ?_, hrun, hended, _, locs, rfl, ?_, N, ?_, ⟨hE.1, hE.2.1, hE.2.2.1, hE.2.2.2.mono hc hl⟩, fun q => State.WarmedH.trans (t := s.setVm vm0) (hS.2 q) X.warmed⟩
  · exact retOut X hh.2.1 (t := .long) (i := .lreturn) (hrt.trans hret) rfl (Or.inr (Or.inl ⟨rfl, rfl, _, rfl⟩)) (hb hh.2.2.1 hd) hr
  · have : (T.setFrames fs).heap = h := eT
    rw [this]; exact hq _ Ca
  · have : (T.setFrames fs).heap = h := eT
    rw [this]; exact C.trans Ca
theorem s_areturn (W : Wk p l e R s m args below meth c Z a0 EL n0 own nm bytes maxL ret T vm0 h cells slots) {z : Value} {t : FieldType} (hret : ret = some t) (ht : t.isReference = true) (hz : z.isRef = true) (hd : decode bytes pc = .ok (.areturn, 1)) (hc : cells ≤ R.cells) (hl : slots ≤ R.slots) (hq : ∀ vm', CHr Z EL vm0 h vm' h → Q (some z) vm' h) : Go p e below s R Z EL n0 Q (T.setTop (mkF m pc Ls (z :: st))) := by
  have hrt := W.rt
  have hlk := W.lk
  obtain ⟨⟨k0, locs, X, hS, hk, N⟩, ⟨eT, hZ, hown, C⟩, hh⟩ := W
  obtain ⟨fs, hr, hrun, hended, hE⟩ := X.leaveW (v := some z) hS.1 (eT ▸ hk) (fun q => by rw [hrt, hret] at q; cases q) hlk
  have Ca := CHv.at X hZ hh.2.2.2.2.2.2.2 C.1
  refine ⟨T.setFrames fs, _, ?_, hrun, hended, _, locs, rfl, ?_, N, ?_, ⟨hE.1, hE.2.1, hE.2.2.1, hE.2.2.2.mono hc hl⟩, fun q => State.WarmedH.trans (t := s.setVm vm0) (hS.2 q) X.warmed⟩
  · exact retOut X hh.2.1 (t := t) (i := .areturn) (hrt.trans hret) (by cases t <;> first | rfl | (cases ht; done) | (cases z <;> rfl)) (Or.inr (Or.inr (Or.inr (Or.inr ⟨rfl, ht, hz⟩)))) (hb hh.2.2.1 hd) hr
  · have : (T.setFrames fs).heap = h := eT
    rw [this]; exact hq _ Ca
  · have : (T.setFrames fs).heap = h := eT
    rw [this]; exact C.trans Ca
end
end Jvm.OwnK
namespace Jvm.OwnK
open Sem ClassFile Op Lib Bundle Jvm.Free Jvm.Stand Jvm.LawKit Jvm.RoadKit
section Nums
theorem n_toInt {i : Nat} (h : i < 2147483648) : (Int32.ofNat i).toInt = i := Int32.toInt_ofNat_small h
theorem n_clamp {i : Nat} (h : i < 2147483648) : (Int32.ofNat i).toNatClampNeg = i := by simp only [Int32.toNatClampNeg, n_toInt h]; rfl
theorem n_nn {i : Nat} (h : i < 2147483648) : ¬ Int32.ofNat i < 0 := by
  rw [Int32.lt_iff_toInt_lt, n_toInt h]; show ¬ (i : Int) < 0; omega
theorem n_lt {i n : Nat} (hi : i < n) (h : n < 2147483648) : Int32.ofNat i < Int32.ofNat n := by
  rw [Int32.lt_iff_toInt_lt, n_toInt h, n_toInt (by omega)]; omega
theorem n_ge {i n : Nat} (hi : n ≤ i) (h : i < 2147483648) : ¬ Int32.ofNat i < Int32.ofNat n := by
  rw [Int32.lt_iff_toInt_lt, n_toInt h, n_toInt (by omega)]; omega
theorem n_succ (i : Nat) : Int32.ofNat i + (1 : Int32) = Int32.ofNat (i + 1) := by
  rw [Int32.ofNat_add]; rfl
theorem n_inj {i j : Nat} (hi : i < 2147483648) (hj : j < 2147483648) (h : Int32.ofNat i = Int32.ofNat j) : i = j := by
  have := congrArg Int32.toInt h
  rw [n_toInt hi, n_toInt hj] at this; omega
theorem lt_iff (x y : Int32) : x < y ↔ x.toInt < y.toInt := Int32.lt_iff_toInt_lt
theorem nar_char {x : Int32} (h0 : ¬ x < 0) (h1 : ¬ 65535 < x) : nar .char x = x := by
  rw [lt_iff] at h0 h1
  have e0 : (0 : Int32).toInt = 0 := rfl
  have e1 : (65535 : Int32).toInt = 65535 := rfl
  have q := c_i2c x
  apply Int32.toInt_inj.mp
  show (x.toUInt32.toUInt16.toUInt32.toInt32).toInt = x.toInt
  omega
theorem nar_bool {x : Int32} (h : x = 0 ∨ x = 1) : nar .boolean x = x := by rcases h with rfl | rfl <;> decide
theorem nar_byte {x : Int32} (h0 : ¬ x < -128) (h1 : ¬ 127 < x) : nar .byte x = x := by
  rw [lt_iff] at h0 h1
  have e0 : (-128 : Int32).toInt = -128 := rfl
  have e1 : (127 : Int32).toInt = 127 := rfl
  have q := c_i2b x
  apply Int32.toInt_inj.mp
  show (x.toInt8.toInt32).toInt = x.toInt
  omega
/-- a Latin-1 char -/
def L1 (c : Int32) : Prop := ¬ c < 0 ∧ ¬ 255 < c
theorem L1.rng {c : Int32} (h : L1 c) : 0 ≤ c.toInt ∧ c.toInt ≤ 255 := by
  obtain ⟨h0, h1⟩ := h
  rw [lt_iff] at h0 h1
  have e0 : (0 : Int32).toInt = 0 := rfl
  have e1 : (255 : Int32).toInt = 255 := rfl
  omega
theorem L1.of {c : Int32} (h0 : 0 ≤ c.toInt) (h1 : c.toInt ≤ 255) : L1 c := by
  refine ⟨?_, ?_⟩ <;> rw [lt_iff]
  · show ¬ c.toInt < 0; omega
  · show ¬ (255 : Int) < c.toInt; omega
theorem L1.mask (x : Int32) : L1 (x &&& 255) := by
  have := c_and x 255 (by decide)
  exact L1.of this.1 this.2
theorem L1.nar {c : Int32} (h : L1 c) : nar .char c = c := nar_char h.1 (fun q => h.2 (by
  rw [lt_iff] at q ⊢
  have e0 : (65535 : Int32).toInt = 65535 := rfl
  have e1 : (255 : Int32).toInt = 255 := rfl
  omega))
theorem L1.i2c {c : Int32} (h : L1 c) : c.toUInt32.toUInt16.toUInt32.toInt32 = c := h.nar
theorem L1.char (x : Int32) : L1 ((x &&& 255).toUInt32.toUInt16.toUInt32.toInt32) := by rw [(L1.mask x).i2c]; exact L1.mask x
/-- the byte a char is kept as, and back -/
theorem L1.back {c : Int32} (h : L1 c) : c.toInt8.toInt32 &&& 255 = c := by
  have r := h.rng
  have q := c_i2b c
  have m := c_mask c.toInt8.toInt32 255 8 (by decide) (by decide)
  apply Int32.toInt_inj.mp
  rw [m]
  show c.toInt8.toInt32.toInt % 256 = c.toInt
  omega
theorem L1.inj {c d : Int32} (h : L1 c) (g : L1 d) (e : c.toInt8.toInt32 = d.toInt8.toInt32) : c = d := by rw [← h.back, ← g.back, e]
theorem bb (c : Int32) : c.toInt8.toInt32.toInt8.toInt32 = c.toInt8.toInt32 := by rw [Int8.toInt8_toInt32]
theorem shr0 (x : Int32) : x >>> ((0 : Int32) &&& 31) = x := Int32.toInt_inj.mp (by rw [c_ishr x 0 0 (by decide)]; show x.toInt / 1 = x.toInt; exact Int.ediv_one _)
theorem shl0 (x : Int32) : x <<< ((0 : Int32) &&& 31) = x := by
  apply Int32.toInt_inj.mp
  have q := c_ishl x 0 0 (by decide)
  have r1 := rng32 x
  have r2 := rng32 (x <<< ((0 : Int32) &&& 31))
  simp only [Nat.pow_zero, Int.natCast_one, Int.mul_one] at q
  omega
theorem sub_self32 (x : Int32) : x - x = 0 := by
  apply Int32.toInt_inj.mp
  have q := c_isub x x
  have r2 := rng32 (x - x)
  have e0 : (0 : Int32).toInt = 0 := rfl
  omega
end Nums
section Lists
def bv (c : Int32) : Value := .int c.toInt8.toInt32
def cv (c : Int32) : Value := .int c
theorem bv_getD (cs : List Int32) (i : Nat) : (cs.map bv).getD i (.int 0) = .int (cs.getD i 0).toInt8.toInt32 := by
  induction cs generalizing i with
  | nil => rfl
  | cons c cs ih => cases i with
    | zero => rfl
    | succ i => exact ih i
theorem cv_getD (cs : List Int32) (i : Nat) : (cs.map cv).getD i (.int 0) = .int (cs.getD i 0) := by
  induction cs generalizing i with
  | nil => rfl
  | cons c cs ih => cases i with
    | zero => rfl
    | succ i => exact ih i
theorem set_step {cs : List Int32} {n i : Nat} {x : Value} (hn : cs.length = n) (hi : i < n) (hx : x = bv (cs.getD i 0)) : ((cs.take i).map bv ++ List.replicate (n - i) (Value.int 0)).set i x = (cs.take (i + 1)).map bv ++ List.replicate (n - (i + 1)) (Value.int 0) := by
  subst hx
  have e1 : n - i = (n - (i + 1)) + 1 := by omega
  have e2 : ((cs.take i).map bv).length = i := by simp; omega
  rw [e1, List.replicate_succ, List.set_append_right _ _ (by omega), e2, Nat.sub_self, List.set_cons_zero]
  have e3 : cs.take (i + 1) = cs.take i ++ [cs.getD i 0] := by
    rw [List.take_add_one]
    congr 1
    rw [List.getD_eq_getElem?_getD, List.getElem?_eq_getElem (by omega)]; rfl
  rw [e3, List.map_append, List.append_assoc]; rfl
theorem mem_getD {cs : List Int32} {i : Nat} (hi : i < cs.length) : cs.getD i 0 ∈ cs := by
  rw [List.getD_eq_getElem?_getD, List.getElem?_eq_getElem hi]; exact List.getElem_mem hi
theorem mem_take_succ {cs : List Int32} {i : Nat} (hi : i < cs.length) {P : Int32 → Prop} (h : ∀ c ∈ cs.take i, P c) (hx : P (cs.getD i 0)) : ∀ c ∈ cs.take (i + 1), P c := by
  have e3 : cs.take (i + 1) = cs.take i ++ [cs.getD i 0] := by
    rw [List.take_add_one]
    congr 1
    rw [List.getD_eq_getElem?_getD, List.getElem?_eq_getElem (by omega)]; rfl
  intro c hc
  rw [e3] at hc
  rcases List.mem_append.mp hc with q | q
  · exact h c q
  · cases List.mem_singleton.mp q; exact hx
theorem len_mid {cs : List Int32} {n i : Nat} (hn : cs.length = n) (hi : i ≤ n) : ((cs.take i).map bv ++ List.replicate (n - i) (.int 0 : Value)).length = n := by
  simp; omega
end Lists
section Strs
/-- compact strings are on -/
def CS (Z : State) : Prop := ∃ v : Int32, Sta Z Z.heap "java/lang/String" "COMPACT_STRINGS" "Z" (.int v) ∧ ¬ v = 0
variable {Z : State} {h h' : Heap} {a b : Addr} {k : ClassId} {cs : List Int32}
/-- a Latin-1 String whose chars are cs; b its byte[] -/
def LatB (Z : State) (h : Heap) (a b : Addr) (k : ClassId) (cs : List Int32) : Prop :=
  Exa Z h a "java/lang/String" ∧ Fld Z h a "java/lang/String" "coder" "B" (.int 0) ∧ Fld Z h a "java/lang/String" "value" "[B" (.ref b) ∧ Arv Z h b k .byte (Int32.ofNat cs.length) (cs.map bv) (.int 0) ∧ (∀ c ∈ cs, L1 c) ∧ cs.length < 2147483648
def Lat (Z : State) (h : Heap) (a : Addr) (cs : List Int32) : Prop := ∃ b k, LatB Z h a b k cs
theorem LatB.keep {ws : List Addr} (F : LatB Z h a b k cs) (K : Keep h h' ws) (q1 : a ∉ ws) (q2 : b ∉ ws) : LatB Z h' a b k cs := ⟨F.1.keep K, F.2.1.keep K q1, F.2.2.1.keep K q1, F.2.2.2.1.keep K q2, F.2.2.2.2⟩
theorem LatB.kp (F : LatB Z h a b k cs) (K : Keep h h' []) (_ : a ∉ ([] : List Addr)) : LatB Z h' a b k cs := F.keep K nin0 nin0
theorem Lat.kp (F : Lat Z h a cs) (K : Keep h h' []) (_ : a ∉ ([] : List Addr)) : Lat Z h' a cs := by obtain ⟨b, k, F⟩ := F; exact ⟨b, k, F.keep K nin0 nin0⟩
theorem Lat.lt (F : Lat Z h a cs) : a < h.size := by obtain ⟨b, k, F⟩ := F; exact F.1.lt
theorem LatB.lt (F : LatB Z h a b k cs) : a < h.size := F.1.lt
theorem LatB.ltb (F : LatB Z h a b k cs) : b < h.size := F.2.2.2.1.lt
end Strs
section Words
variable {Z : State} {a0 : Array Value}
theorem decl_of {y : MethodName} {bytes : ByteArray} {maxL : Nat} {ret : Option FieldType} (wi : (Cond.instanceMethod y).before a0 Z = true) (wc : (Cond.code y bytes maxL ret).before a0 Z = true) : (Cond.declares y).before a0 Z = true := by
  obtain ⟨m, meth, h1, h2, h3, -⟩ := Cond.instanceMethod_spec wi
  obtain ⟨meth', c, g1, -, -, -, -, -, -, g2⟩ := Cond.code_spec h1 wc
  cases h2.symm.trans g1
  simp [Cond.before, Cond.holds, Cond.value, h1, h2, h3, g2]
theorem nf_of {C : String} {y y' : MethodName} (hc : y'.cls = y.cls) (w : (Cond.selects C y' y').before a0 Z = true) : NotFace Z y := fun r0 h0 => by
  obtain ⟨c2, r2, m2, q1, q2, q3, q4, kP, hkP, hkPi⟩ := Cond.selects_spec w
  have e1 := findClass_of_methodNamed h0
  have e2 := findClass_of_methodNamed q3
  rw [hc] at e2
  have e : r0.cls = m2.cls := Option.some.inj (e1.symm.trans e2)
  exact ⟨kP, by rw [e]; exact hkP, hkPi⟩
theorem same_of {y : MethodName} (hy : y.cls ≠ "java/lang/invoke/MethodHandle" ∧ y.cls ≠ "java/lang/invoke/VarHandle") (wi : (Cond.instanceMethod y).before a0 Z = true) (nf : NotFace Z y) : (Cond.sameMethod y.cls y.cls y.name y.desc).before a0 Z = true := by
  obtain ⟨m, meth, h1, h2, h3, -⟩ := Cond.instanceMethod_spec wi
  obtain ⟨k, hk, hn⟩ := nf m h1
  have e1 := findClass_of_methodNamed h1
  have e2 := State.methodFound?_of_named h1 hy
  have h1' : Z.methodNamed? ⟨y.cls, y.name, y.desc⟩ = some m := h1
  simp [Cond.before, Cond.holds, Cond.value, e1, e2, h1', hk, hn]
end Words
theorem nfw : nativeFrameWords "java/lang/System" "arraycopy" 5 = 7 := by decide +kernel
end Jvm.OwnK
namespace Jvm.OwnK
open Sem ClassFile Op Lib Bundle Jvm.Free Jvm.Stand Jvm.LawKit Jvm.RoadKit
section Sb
variable {Z : State} {h h' : Heap} {a b : Addr} {k : ClassId} {cap : Nat} {cs : List Int32}
/-- a StringBuilder whose chars are cs; b its byte[] of cap places -/
def SBd (Z : State) (h : Heap) (a b : Addr) (k : ClassId) (cap : Nat) (cs : List Int32) : Prop :=
  Exa Z h a "java/lang/StringBuilder" ∧ Fld Z h a "java/lang/AbstractStringBuilder" "coder" "B" (.int 0) ∧ Fld Z h a "java/lang/AbstractStringBuilder" "count" "I" (.int (Int32.ofNat cs.length)) ∧ Fld Z h a "java/lang/AbstractStringBuilder" "value" "[B" (.ref b) ∧
  (∃ rest : List Value, cs.length + rest.length = cap ∧ Arv Z h b k .byte (Int32.ofNat cap) (cs.map bv ++ rest) (.int 0)) ∧ (∀ c ∈ cs, L1 c) ∧ cap ≤ 4096 ∧ Exa Z h b "[B"
theorem SBd.keep {ws : List Addr} (F : SBd Z h a b k cap cs) (K : Keep h h' ws) (q1 : a ∉ ws) (q2 : b ∉ ws) : SBd Z h' a b k cap cs := by
  obtain ⟨f1, f2, f3, f4, ⟨r, hr, A⟩, f6⟩ := F
  exact ⟨f1.keep K, f2.keep K q1, f3.keep K q1, f4.keep K q1, ⟨r, hr, A.keep K q2⟩, f6.1, f6.2.1, f6.2.2.keep K⟩
theorem SBd.le (F : SBd Z h a b k cap cs) : cs.length ≤ cap := by obtain ⟨-, -, -, -, ⟨r, hr, -⟩, -⟩ := F; omega
theorem SBd.lt (F : SBd Z h a b k cap cs) : a < h.size := F.1.lt
theorem SBd.ltb (F : SBd Z h a b k cap cs) : b < h.size := by obtain ⟨-, -, -, -, ⟨r, hr, A⟩, -⟩ := F; exact A.lt
theorem range_getD (ds : List Int32) (n : Nat) (hn : ds.length = n) : ((List.range n).map fun i => (ds.map bv).getD (0 + i) (.int 0)) = ds.map bv := by
  subst hn
  apply List.ext_getElem
  · simp
  · intro i h1 h2
    simp only [List.length_map, List.length_range] at h1
    simp [List.getElem_map, List.getD_eq_getElem?_getD, h1]
theorem sub_le0 {m n : Nat} (h : m ≤ n) (hn : n ≤ 4096) : ¬ 0 < Int32.ofNat m - (Int32.ofNat n >>> ((0 : Int32) &&& 31)) := by
  rw [shr0, lt_iff]
  have q := c_isub (Int32.ofNat m) (Int32.ofNat n)
  rw [n_toInt (by omega), n_toInt (by omega)] at q
  have r := rng32 (Int32.ofNat m - Int32.ofNat n)
  have e0 : (0 : Int32).toInt = 0 := rfl
  omega
theorem n_add (i j : Nat) : Int32.ofNat i + Int32.ofNat j = Int32.ofNat (i + j) := by rw [Int32.ofNat_add]
end Sb
end Jvm.OwnK
namespace Jvm.OwnK
open Sem ClassFile Op Lib Bundle Jvm.Free Jvm.Stand Jvm.LawKit Jvm.RoadKit
theorem put_eq {cs ds : List Int32} {r : List Value} : (cs.map bv ++ r).take cs.length ++ ds.map bv ++ (cs.map bv ++ r).drop (cs.length + ds.length) = (cs ++ ds).map bv ++ r.drop ds.length := by
  have e : (cs.map bv).length = cs.length := by simp
  rw [← e, List.take_left, List.drop_append, List.map_append, List.drop_eq_nil_of_le (by omega), List.nil_append, Nat.add_sub_cancel_left]
end Jvm.OwnK
namespace Jvm.OwnK
open Sem ClassFile Op Lib Bundle Jvm.Free Jvm.Stand Jvm.LawKit Jvm.RoadKit
section U16
/-- a char -/
def C16 (c : Int32) : Prop := ¬ c < 0 ∧ ¬ 65535 < c
theorem C16.rng {c : Int32} (h : C16 c) : 0 ≤ c.toInt ∧ c.toInt ≤ 65535 := by
  obtain ⟨h0, h1⟩ := h
  rw [lt_iff] at h0 h1
  have e0 : (0 : Int32).toInt = 0 := rfl
  have e1 : (65535 : Int32).toInt = 65535 := rfl
  omega
theorem C16.of {c : Int32} (h0 : 0 ≤ c.toInt) (h1 : c.toInt ≤ 65535) : C16 c := by
  refine ⟨?_, ?_⟩ <;> rw [lt_iff]
  · show ¬ c.toInt < 0; omega
  · show ¬ (65535 : Int) < c.toInt; omega
theorem C16.i2c (x : Int32) : C16 x.toUInt32.toUInt16.toUInt32.toInt32 := by
  have q := c_i2c x
  exact C16.of q.2.1 (by omega)
theorem C16.nar {c : Int32} (h : C16 c) : nar .char c = c := nar_char h.1 h.2
def hb8 (c : Int32) : Int32 := (c >>> ((8 : Int32) &&& 31)).toInt8.toInt32
def u2b : List Int32 → List Value
  | [] => []
  | c :: cs => .int c.toInt8.toInt32 :: .int (hb8 c) :: u2b cs
theorem u2b_len (cs : List Int32) : (u2b cs).length = 2 * cs.length := by
  induction cs with
  | nil => rfl
  | cons c cs ih => simp only [u2b, List.length_cons, ih]; omega
theorem u2b_app (cs ds : List Int32) : u2b (cs ++ ds) = u2b cs ++ u2b ds := by
  induction cs with
  | nil => rfl
  | cons c cs ih => simp only [u2b, List.cons_append, ih]
theorem u2b_lo (cs : List Int32) (i : Nat) (hi : i < cs.length) : (u2b cs).getD (2 * i) (.int 0) = .int (cs.getD i 0).toInt8.toInt32 := by
  induction cs generalizing i with
  | nil => simp at hi
  | cons c cs ih => cases i with
    | zero => rfl
    | succ i =>
      have : 2 * (i + 1) = (2 * i) + 1 + 1 := by omega
      rw [this]; exact ih i (by simpa using hi)
theorem u2b_hi (cs : List Int32) (i : Nat) (hi : i < cs.length) : (u2b cs).getD (2 * i + 1) (.int 0) = .int (hb8 (cs.getD i 0)) := by
  induction cs generalizing i with
  | nil => simp at hi
  | cons c cs ih => cases i with
    | zero => rfl
    | succ i =>
      have : 2 * (i + 1) + 1 = (2 * i + 1) + 1 + 1 := by omega
      rw [this]; exact ih i (by simpa using hi)
theorem u2b_step {cs : List Int32} {n i : Nat} (hn : cs.length = n) (hi : i < n) : ((u2b (cs.take i) ++ List.replicate (2 * (n - i)) (Value.int 0)).set (2 * i) (Value.int (cs.getD i 0).toInt8.toInt32)).set (2 * i + 1) (Value.int (hb8 (cs.getD i 0))) = u2b (cs.take (i + 1)) ++ List.replicate (2 * (n - (i + 1))) (Value.int 0) := by
  have e1 : 2 * (n - i) = 2 * (n - (i + 1)) + 1 + 1 := by omega
  have e2 : (u2b (cs.take i)).length = 2 * i := by rw [u2b_len, List.length_take]; omega
  rw [e1, List.replicate_succ, List.replicate_succ, List.set_append_right _ _ (by omega), e2, Nat.sub_self, List.set_cons_zero, List.set_append_right _ _ (by omega), e2, show 2 * i + 1 - 2 * i = 0 + 1 by omega, List.set_cons_succ, List.set_cons_zero]
  have e3 : cs.take (i + 1) = cs.take i ++ [cs.getD i 0] := by
    rw [List.take_add_one]
    congr 1
    rw [List.getD_eq_getElem?_getD, List.getElem?_eq_getElem (by omega)]; rfl
  rw [e3, u2b_app, List.append_assoc]; rfl
theorem n_shl1 {n : Nat} (h : n ≤ 4096) : Int32.ofNat n <<< ((1 : Int32) &&& 31) = Int32.ofNat (2 * n) := by
  apply Int32.toInt_inj.mp
  have q := c_ishl (Int32.ofNat n) 1 1 (by decide)
  rw [n_toInt (by omega)] at q
  have r := rng32 (Int32.ofNat n <<< ((1 : Int32) &&& 31))
  rw [n_toInt (i := 2 * n) (by omega)]
  have e2 : ((2 ^ 1 : Nat) : Int) = 2 := rfl
  rw [e2] at q
  omega
theorem n_shr1 {n : Nat} (h : n ≤ 4096) : Int32.ofNat (2 * n) >>> ((1 : Int32) &&& 31) = Int32.ofNat n := by
  apply Int32.toInt_inj.mp
  rw [c_ishr _ 1 1 (by decide), n_toInt (by omega), n_toInt (by omega)]
  show ((2 * n : Nat) : Int) / 2 = n
  omega
theorem coder1 {n : Nat} (h : n ≤ 4096) (h0 : 0 < n) : (Jvm.Free.XT.ushr (Int32.ofNat n - Int32.ofNat (2 * n)) (31 : Int32)).toInt8.toInt32 = 1 := by
  have e : Jvm.Free.XT.ushr (Int32.ofNat n - Int32.ofNat (2 * n)) (31 : Int32) = 1 := by
    apply Int32.toInt_inj.mp
    have q := c_iushr (Int32.ofNat n - Int32.ofNat (2 * n)) 31 31 (by decide) (by decide)
    have s := c_isub (Int32.ofNat n) (Int32.ofNat (2 * n))
    rw [n_toInt (by omega), n_toInt (by omega)] at s
    have r := rng32 (Int32.ofNat n - Int32.ofNat (2 * n))
    show (Int32.toUInt32 (Int32.ofNat n - Int32.ofNat (2 * n)) >>> ((31 : Int32) &&& 31).toUInt32).toInt32.toInt = (1 : Int32).toInt
    rw [q]
    have e1 : (1 : Int32).toInt = 1 := rfl
    have e2 : ((2 ^ 31 : Nat) : Int) = 2147483648 := rfl
    rw [e1, e2]
    omega
  rw [e]; rfl
theorem u16back {c : Int32} (h : C16 c) : (((c.toInt8.toInt32 &&& 255) <<< ((0 : Int32) &&& 31)) ||| ((hb8 c &&& 255) <<< ((8 : Int32) &&& 31))).toUInt32.toUInt16.toUInt32.toInt32 = c := by
  rw [shl0]
  have r := h.rng
  have b0 := c_i2b c
  have m0 : (c.toInt8.toInt32 &&& 255).toInt = c.toInt8.toInt32.toInt % 256 := c_mask c.toInt8.toInt32 255 8 (by decide) (by decide)
  have s1 : (c >>> ((8 : Int32) &&& 31)).toInt = c.toInt / 256 := c_ishr c 8 8 (by decide)
  have b1 := c_i2b (c >>> ((8 : Int32) &&& 31))
  have m1 : (hb8 c &&& 255).toInt = (hb8 c).toInt % 256 := c_mask (hb8 c) 255 8 (by decide) (by decide)
  have b1' : ((hb8 c).toInt - c.toInt / 256) % 256 = 0 := by rw [← s1]; exact b1.1
  have sh := c_ishl (hb8 c &&& 255) 8 8 (by decide)
  have e256 : ((2 ^ 8 : Nat) : Int) = 256 := rfl
  rw [e256] at sh
  have rs := rng32 ((hb8 c &&& 255) <<< ((8 : Int32) &&& 31))
  have o := c_or' (c.toInt8.toInt32 &&& 255) ((hb8 c &&& 255) <<< ((8 : Int32) &&& 31)) 8 (by decide) 256 (by decide) (by omega) (by omega) (by omega)
  have ic := c_i2c ((c.toInt8.toInt32 &&& 255) ||| ((hb8 c &&& 255) <<< ((8 : Int32) &&& 31)))
  apply Int32.toInt_inj.mp
  omega
variable {Z : State} {h h' : Heap} {a b : Addr} {k : ClassId} {cs : List Int32}
/-- a UTF-16 String whose chars are cs; b its byte[] -/
def U16B (Z : State) (h : Heap) (a b : Addr) (k : ClassId) (cs : List Int32) : Prop :=
  Exa Z h a "java/lang/String" ∧ Fld Z h a "java/lang/String" "coder" "B" (.int 1) ∧ Fld Z h a "java/lang/String" "value" "[B" (.ref b) ∧ Arv Z h b k .byte (Int32.ofNat (2 * cs.length)) (u2b cs) (.int 0) ∧ (∀ c ∈ cs, C16 c) ∧ cs.length ≤ 4096 ∧ 0 < cs.length
theorem U16B.kp (F : U16B Z h a b k cs) (K : Keep h h' []) (_ : a ∉ ([] : List Addr)) : U16B Z h' a b k cs := ⟨F.1.keep K, F.2.1.keep K nin0, F.2.2.1.keep K nin0, F.2.2.2.1.keep K nin0, F.2.2.2.2⟩
/-- StringUTF16's statics -/
def U16S (Z : State) : Prop := Sta Z Z.heap "java/lang/StringUTF16" "$assertionsDisabled" "Z" (.int 1) ∧ Sta Z Z.heap "java/lang/StringUTF16" "HI_BYTE_SHIFT" "I" (.int 0) ∧ Sta Z Z.heap "java/lang/StringUTF16" "LO_BYTE_SHIFT" "I" (.int 8)
/-- the formatter that checkIndex is handed -/
def Fmt (Z : State) : Prop := ∃ v : Value, Sta Z Z.heap "jdk/internal/util/Preconditions" "SIOOBE_FORMATTER" "Ljava/util/function/BiFunction;" v ∧ v.isRef = true
end U16
end Jvm.OwnK
namespace Jvm.OwnK
open Sem ClassFile Op Lib Bundle Jvm.Free Jvm.Stand Jvm.LawKit Jvm.RoadKit
section Dec
/-- n has d decimal digits -/
def isDig (n d : Nat) : Prop := 1 ≤ d ∧ n < 10 ^ d ∧ (d = 1 ∨ 10 ^ (d - 1) ≤ n)
theorem isDig.unique {n d d' : Nat} (h : isDig n d) (g : isDig n d') : d = d' := by
  obtain ⟨h1, h2, h3⟩ := h
  obtain ⟨g1, g2, g3⟩ := g
  rcases Nat.lt_trichotomy d d' with q | q | q
  · rcases g3 with g3 | g3
    · omega
    · have := Nat.pow_le_pow_right (n := 10) (by decide) (show d ≤ d' - 1 by omega)
      omega
  · exact q
  · rcases h3 with h3 | h3
    · omega
    · have := Nat.pow_le_pow_right (n := 10) (by decide) (show d' ≤ d - 1 by omega)
      omega
theorem isDig.down {n d : Nat} (h : isDig n d) (hn : 100 ≤ n) : 3 ≤ d ∧ isDig (n / 100) (d - 2) := by
  obtain ⟨h1, h2, h3⟩ := h
  have hd : 3 ≤ d := by
    rcases Nat.lt_or_ge d 3 with q | q
    · have : d = 1 ∨ d = 2 := by omega
      rcases this with rfl | rfl <;> simp at h2 <;> omega
    · exact q
  refine ⟨hd, by omega, ?_, ?_⟩
  · have e : 10 ^ d = 10 ^ (d - 2) * 100 := by rw [show d = (d - 2) + 2 by omega, Nat.pow_add]; simp
    rw [e] at h2
    exact Nat.div_lt_of_lt_mul (by rw [Nat.mul_comm]; exact h2)
  · rcases Nat.eq_or_lt_of_le hd with q | q
    · exact Or.inl (by omega)
    · refine Or.inr ?_
      have h3' : 10 ^ (d - 1) ≤ n := by rcases h3 with h3 | h3; omega; exact h3
      have e : 10 ^ (d - 1) = 10 ^ (d - 2 - 1) * 100 := by rw [show d - 1 = (d - 2 - 1) + 2 by omega, Nat.pow_add]
      rw [e] at h3'
      exact (Nat.le_div_iff_mul_le (by decide)).mpr h3'
theorem ltN {y p : Int32} {n P : Nat} (hy : y.toInt = -(n : Int)) (hp : p.toInt = -(P : Int)) : p < y ↔ n < P := by
  rw [lt_iff, hy, hp]; omega
def dch (n j : Nat) : Int32 := Int32.ofNat (48 + n / 10 ^ j % 10)
def decs (n d : Nat) : List Int32 := (List.range d).map fun k => dch n (d - 1 - k)
theorem decs_len (n d : Nat) : (decs n d).length = d := by simp [decs]
theorem decs_getD {n d k : Nat} (hk : k < d) : (decs n d).getD k 0 = dch n (d - 1 - k) := by
  rw [List.getD_eq_getElem?_getD, List.getElem?_eq_getElem (by rw [decs_len]; exact hk)]
  simp [decs]
theorem dch_L1 (n j : Nat) : L1 (dch n j) := by
  have : n / 10 ^ j % 10 < 10 := Nat.mod_lt _ (by decide)
  refine L1.of ?_ ?_ <;> rw [dch, n_toInt (by omega)] <;> omega
theorem nb {m : Nat} (h : m < 128) : (Int32.ofNat m).toInt8.toInt32 = Int32.ofNat m := by
  apply Int32.toInt_inj.mp
  have q := c_i2b (Int32.ofNat m)
  rw [n_toInt (by omega)] at q ⊢
  omega
theorem dch_b (n j : Nat) : (dch n j).toInt8.toInt32 = dch n j := nb (by have : n / 10 ^ j % 10 < 10 := Nat.mod_lt _ (by decide); omega)
theorem getD_set_eq {vs : List Value} {i : Nat} {x d : Value} (h : i < vs.length) : (vs.set i x).getD i d = x := by
  rw [List.getD_eq_getElem?_getD, List.getElem?_set_self h]; rfl
theorem getD_set_ne {vs : List Value} {i j : Nat} {x d : Value} (h : i ≠ j) : (vs.set i x).getD j d = vs.getD j d := by
  rw [List.getD_eq_getElem?_getD, List.getElem?_set_ne h, List.getD_eq_getElem?_getD]
/-- the digits of n stand behind p, the sign ahead of them -/
def Wrote (vs vs' : List Value) (p n d sg : Nat) : Prop :=
  vs'.length = vs.length ∧ (∀ j, j < d → vs'.getD (p - 1 - j) (.int 0) = .int (dch n j)) ∧ (sg = 1 → vs'.getD (p - 1 - d) (.int 0) = .int 45) ∧ ∀ i, i < p - (d + sg) ∨ p ≤ i → vs'.getD i (.int 0) = vs.getD i (.int 0)
theorem Wrote.two {vs vs' : List Value} {p n d sg : Nat} {x y : Value} (hx : x = .int (dch n 0)) (hy : y = .int (dch n 1)) (h3 : 3 ≤ d) (hp : d + sg ≤ p) (hl : p ≤ vs.length) (W : Wrote ((vs.set (p - 1) x).set (p - 2) y) vs' (p - 2) (n / 100) (d - 2) sg) : Wrote vs vs' p n d sg := by
  subst hx hy
  obtain ⟨w1, w2, w3, w4⟩ := W
  refine ⟨by rw [w1]; simp, fun j hj => ?_, fun hs => ?_, fun i hi => ?_⟩
  · rcases Nat.lt_or_ge j 2 with q | q
    · have e : j = 0 ∨ j = 1 := by omega
      rcases e with rfl | rfl
      · rw [w4 _ (Or.inr (by omega)), getD_set_ne (by omega), show p - 1 - 0 = p - 1 by omega, getD_set_eq (by omega)]
      · rw [w4 _ (Or.inr (by omega)), show p - 1 - 1 = p - 2 by omega, getD_set_eq (by rw [List.length_set]; omega)]
    · have e := w2 (j - 2) (by omega)
      rw [show p - 2 - 1 - (j - 2) = p - 1 - j by omega] at e
      rw [e]
      have e2 : n / 100 / 10 ^ (j - 2) = n / 10 ^ j := by
        rw [Nat.div_div_eq_div_mul, show (100 : Nat) = 10 ^ 2 by decide, ← Nat.pow_add, show 2 + (j - 2) = j by omega]
      rw [dch, dch, e2]
  · have e := w3 hs
    rw [show p - 2 - 1 - (d - 2) = p - 1 - d by omega] at e
    exact e
  · rw [w4 i (by omega), getD_set_ne (by omega), getD_set_ne (by omega)]
theorem Wrote.list {cs : List Int32} {rest vs' : List Value} {n d sg cap : Nat} (hr : cs.length + rest.length = cap) (hs : sg = 0 ∨ sg = 1) (hd : cs.length + (d + sg) ≤ cap) (W : Wrote (cs.map bv ++ rest) vs' (cs.length + (d + sg)) n d sg) : vs' = (cs ++ ((if sg = 1 then [45] else []) ++ decs n d)).map bv ++ vs'.drop (cs.length + (d + sg)) := by
  obtain ⟨w1, w2, w3, w4⟩ := W
  have hl : vs'.length = cap := by rw [w1]; simp; omega
  have hlen : (cs ++ ((if sg = 1 then [45] else []) ++ decs n d)).length = cs.length + (d + sg) := by
    rcases hs with rfl | rfl <;> simp [decs_len] <;> omega
  have key : ∀ i, i < cs.length + (d + sg) → vs'.getD i (.int 0) = .int ((cs ++ ((if sg = 1 then [45] else []) ++ decs n d)).getD i 0).toInt8.toInt32 := by
    intro i hi
    rcases Nat.lt_or_ge i cs.length with q | q
    · rw [w4 i (Or.inl (by omega))]
      have e1 : (cs.map bv ++ rest).getD i (.int 0) = (cs.map bv).getD i (.int 0) := by
        rw [List.getD_eq_getElem?_getD, List.getElem?_append_left (by simpa using q), List.getD_eq_getElem?_getD]
      have e2 : (cs ++ ((if sg = 1 then [45] else []) ++ decs n d)).getD i 0 = cs.getD i 0 := by
        rw [List.getD_eq_getElem?_getD, List.getElem?_append_left q, List.getD_eq_getElem?_getD]
      rw [e1, e2, bv_getD]
    · have e2 : (cs ++ ((if sg = 1 then [45] else []) ++ decs n d)).getD i 0 = ((if sg = 1 then [45] else []) ++ decs n d).getD (i - cs.length) 0 := by
        rw [List.getD_eq_getElem?_getD, List.getElem?_append_right q, List.getD_eq_getElem?_getD]
      rw [e2]
      rcases hs with rfl | rfl
      · simp only [show ¬ (0 : Nat) = 1 by decide, if_false, List.nil_append]
        rw [decs_getD (by omega), dch_b]
        have := w2 (d - 1 - (i - cs.length)) (by omega)
        rw [show cs.length + (d + 0) - 1 - (d - 1 - (i - cs.length)) = i by omega] at this
        exact this
      · simp only [if_true]
        rcases Nat.eq_or_lt_of_le q with q | q
        · rw [← q, Nat.sub_self]
          have := w3 rfl
          rw [show cs.length + (d + 1) - 1 - d = cs.length by omega] at this
          exact this
        · have e3 : ([45] ++ decs n d : List Int32).getD (i - cs.length) 0 = (decs n d).getD (i - cs.length - 1) 0 := by
            rw [List.getD_eq_getElem?_getD, List.getElem?_append_right (by simp; omega), List.getD_eq_getElem?_getD]; rfl
          rw [e3, decs_getD (by omega), dch_b]
          have := w2 (d - 1 - (i - cs.length - 1)) (by omega)
          rw [show cs.length + (d + 1) - 1 - (d - 1 - (i - cs.length - 1)) = i by omega] at this
          exact this
  apply List.ext_getElem
  · rw [List.length_append, List.length_map, hlen, List.length_drop, hl]; omega
  · intro i h1 h2
    rcases Nat.lt_or_ge i (cs.length + (d + sg)) with q | q
    · rw [List.getElem_append_left (by rw [List.length_map, hlen]; exact q), List.getElem_map]
      have := key i q
      rw [List.getD_eq_getElem?_getD, List.getElem?_eq_getElem h1, List.getD_eq_getElem?_getD, List.getElem?_eq_getElem (by rw [hlen]; exact q)] at this
      exact this
    · rw [List.getElem_append_right (by rw [List.length_map, hlen]; exact q), List.getElem_drop]
      congr 1
      rw [List.length_map, hlen]; omega
theorem Wrote.b10 {vs : List Value} {p n : Nat} (hp : 1 ≤ p) (hl : p ≤ vs.length) : Wrote vs (vs.set (p - 1) (.int (dch n 0))) p n 1 0 := by
  refine ⟨by simp, fun j hj => ?_, fun hs => by omega, fun i hi => getD_set_ne (by omega)⟩
  obtain rfl : j = 0 := by omega
  exact getD_set_eq (by omega)
theorem Wrote.b11 {vs : List Value} {p n : Nat} (hp : 2 ≤ p) (hl : p ≤ vs.length) : Wrote vs ((vs.set (p - 1) (.int (dch n 0))).set (p - 2) (.int 45)) p n 1 1 := by
  refine ⟨by simp, fun j hj => ?_, fun _ => ?_, fun i hi => by rw [getD_set_ne (by omega), getD_set_ne (by omega)]⟩
  · obtain rfl : j = 0 := by omega
    rw [getD_set_ne (by omega)]
    exact getD_set_eq (by omega)
  · rw [show p - 1 - 1 = p - 2 by omega]
    exact getD_set_eq (by rw [List.length_set]; omega)
theorem Wrote.b20 {vs : List Value} {p n : Nat} (hp : 2 ≤ p) (hl : p ≤ vs.length) : Wrote vs ((vs.set (p - 1) (.int (dch n 0))).set (p - 2) (.int (dch n 1))) p n 2 0 := by
  refine ⟨by simp, fun j hj => ?_, fun hs => by omega, fun i hi => by rw [getD_set_ne (by omega), getD_set_ne (by omega)]⟩
  have e : j = 0 ∨ j = 1 := by omega
  rcases e with rfl | rfl
  · rw [getD_set_ne (by omega)]
    exact getD_set_eq (by omega)
  · rw [show p - 1 - 1 = p - 2 by omega]
    exact getD_set_eq (by rw [List.length_set]; omega)
theorem Wrote.b21 {vs : List Value} {p n : Nat} (hp : 3 ≤ p) (hl : p ≤ vs.length) : Wrote vs (((vs.set (p - 1) (.int (dch n 0))).set (p - 2) (.int (dch n 1))).set (p - 3) (.int 45)) p n 2 1 := by
  refine ⟨by simp, fun j hj => ?_, fun _ => ?_, fun i hi => by rw [getD_set_ne (by omega), getD_set_ne (by omega), getD_set_ne (by omega)]⟩
  · rw [getD_set_ne (by omega)]
    have e : j = 0 ∨ j = 1 := by omega
    rcases e with rfl | rfl
    · rw [getD_set_ne (by omega)]
      exact getD_set_eq (by omega)
    · rw [show p - 1 - 1 = p - 2 by omega]
      exact getD_set_eq (by rw [List.length_set]; omega)
  · rw [show p - 1 - 2 = p - 3 by omega]
    exact getD_set_eq (by rw [List.length_set, List.length_set]; omega)
theorem ones_eq (n : Nat) : Int32.ofNat (48 + n % 100 % 10) = dch n 0 := by
  unfold dch; rw [Nat.pow_zero, Nat.div_one]; congr 1; omega
theorem tens_eq (n : Nat) : Int32.ofNat (48 + n % 100 / 10) = dch n 1 := by
  unfold dch; rw [Nat.pow_one]; congr 1; omega
/-- Integer's two tables -/
def Dg (Z : State) : Prop := ∃ (a1 a2 : Addr) (k1 k2 : ClassId), Sta Z Z.heap "java/lang/Integer" "DigitOnes" "[B" (.ref a1) ∧ Sta Z Z.heap "java/lang/Integer" "DigitTens" "[B" (.ref a2) ∧
  Arv Z Z.heap a1 k1 .byte 100 ((List.range 100).map fun i => .int (Int32.ofNat (48 + i % 10))) (.int 0) ∧ Arv Z Z.heap a2 k2 .byte 100 ((List.range 100).map fun i => .int (Int32.ofNat (48 + i / 10))) (.int 0)
theorem tab_getD (f : Nat → Value) {i : Nat} (hi : i < 100) : ((List.range 100).map f).getD i (.int 0) = f i := by
  rw [List.getD_eq_getElem?_getD, List.getElem?_eq_getElem (by simpa using hi)]; simp
theorem neg_toInt {x : Int32} {n : Nat} (hx : x.toInt = -(n : Int)) (hn : n < 2147483648) : -x = Int32.ofNat n := by
  apply Int32.toInt_inj.mp
  have q := c_ineg x
  have r := rng32 (-x)
  rw [n_toInt hn]
  omega
theorem pos_neg {x : Int32} {n : Nat} (hx : x.toInt = (n : Int)) : (-x).toInt = -(n : Int) := by
  have q := c_ineg x
  have r := rng32 (-x)
  have r2 := rng32 x
  omega
theorem gc_q {y : Int32} {n : Nat} (hy : y.toInt = -(n : Int)) : (y / (100 : Int32)).toInt = -((n / 100 : Nat) : Int) := by
  have q := c_idiv y 100 100 rfl (by decide)
  rcases Nat.eq_zero_or_pos n with z | z
  · subst z
    rw [q.1 (by omega)]; rw [hy]; rfl
  · rw [q.2 (by omega), hy]; omega
theorem gc_r {y : Int32} {n : Nat} (hy : y.toInt = -(n : Int)) : (y / (100 : Int32)) * (100 : Int32) - y = Int32.ofNat (n % 100) := by
  apply Int32.toInt_inj.mp
  have hq := gc_q hy
  have m := c_imul (y / (100 : Int32)) 100
  have e100 : (100 : Int32).toInt = 100 := rfl
  have s := c_isub ((y / (100 : Int32)) * (100 : Int32)) y
  have r1 := rng32 ((y / (100 : Int32)) * (100 : Int32))
  have r2 := rng32 ((y / (100 : Int32)) * (100 : Int32) - y)
  have ry := rng32 y
  rw [n_toInt (by omega)]
  rw [hq, e100] at m
  omega
theorem n_pred {p : Nat} (h : 0 < p) : Int32.ofNat p + (-1 : Int32) = Int32.ofNat (p - 1) := by
  apply Int32.toInt_inj.mp
  have e : Int32.ofNat p = Int32.ofNat (p - 1) + 1 := by rw [n_succ]; congr 1; omega
  rw [e]
  have q := c_iadd (Int32.ofNat (p - 1)) 1
  have q2 := c_iadd (Int32.ofNat (p - 1) + 1) (-1)
  have e1 : (1 : Int32).toInt = 1 := rfl
  have e2 : (-1 : Int32).toInt = -1 := rfl
  have r1 := rng32 (Int32.ofNat (p - 1))
  have r2 := rng32 (Int32.ofNat (p - 1) + 1 + -1)
  omega
end Dec
end Jvm.OwnK
namespace Jvm.OwnK
open Sem ClassFile Op Lib Bundle Jvm.Free Jvm.Stand Jvm.LawKit Jvm.RoadKit
section Dec2
theorem sub0 (x : Int32) : x - (0 : Int32) = x := by
  apply Int32.toInt_inj.mp
  have q := c_isub x 0
  have r := rng32 (x - 0)
  have r2 := rng32 x
  have e0 : (0 : Int32).toInt = 0 := rfl
  omega
theorem range_getD' (cs : List Int32) (rest : List Value) (n : Nat) (hn : cs.length = n) : ((List.range n).map fun i => (cs.map bv ++ rest).getD (0 + i) (.int 0)) = cs.map bv := by
  subst hn
  apply List.ext_getElem
  · simp
  · intro i h1 h2
    simp only [List.length_map, List.length_range] at h1
    simp [List.getElem_map, List.getD_eq_getElem?_getD, h1, List.getElem?_append_left]
theorem j_toInt {i : Nat} (h : i < 9223372036854775808) : (Int64.ofNat i).toInt = i := Int64.toInt_ofNat_of_lt h
/-- (char) ('0' + (int) ((v / p) % 10)) -/
theorem digit_eq {v p : Int64} {n e : Nat} (hv : v.toInt = (n : Int)) (hp : p.toInt = ((10 ^ e : Nat) : Int)) (h1 : p ≠ -1) : (((48 : Int32) + ((v / p) % (10 : Int64)).toInt32).toUInt32.toUInt16.toUInt32.toInt32) = dch n e := by
  have q := (c_ldiv v p _ hp h1).1 (by omega)
  rw [hv] at q
  have q2 : (v / p).toInt = ((n / 10 ^ e : Nat) : Int) := by rw [q]; exact (Int.natCast_ediv _ _).symm ▸ rfl
  have m := (c_lrem (v / p) 10 10 rfl).1 (by rw [q2]; exact Int.natCast_nonneg _)
  rw [lrem_mod, q2] at m
  have hm : n / 10 ^ e % 10 < 10 := Nat.mod_lt _ (by decide)
  have m2 : ((v / p) % (10 : Int64)).toInt = ((n / 10 ^ e % 10 : Nat) : Int) := by rw [m]; exact (Int.natCast_emod _ _).symm ▸ rfl
  have l := c_l2i ((v / p) % (10 : Int64))
  have rl := rng32 ((v / p) % (10 : Int64)).toInt32
  rw [m2] at l
  have a := c_iadd (48 : Int32) ((v / p) % (10 : Int64)).toInt32
  have e48 : (48 : Int32).toInt = 48 := rfl
  have ra := rng32 ((48 : Int32) + ((v / p) % (10 : Int64)).toInt32)
  have c := c_i2c ((48 : Int32) + ((v / p) % (10 : Int64)).toInt32)
  apply Int32.toInt_inj.mp
  rw [dch, n_toInt (by omega)]
  omega
end Dec2
end Jvm.OwnK
namespace Jvm.OwnK
open Sem ClassFile Op Lib Bundle Jvm.Free Jvm.Stand Jvm.LawKit Jvm.RoadKit
theorem ltJ {v p : Int64} {n P : Nat} (hv : v.toInt = (n : Int)) (hp : p.toInt = (P : Int)) : v < p ↔ n < P := by
  rw [Int64.lt_iff_toInt_lt, hv, hp]; omega
theorem n_sub {i j : Nat} (h : j ≤ i) : Int32.ofNat i - Int32.ofNat j = Int32.ofNat (i - j) := by
  apply Int32.toInt_inj.mp
  have e : Int32.ofNat i = Int32.ofNat (i - j) + Int32.ofNat j := by rw [n_add]; congr 1; omega
  rw [e]
  have q := c_iadd (Int32.ofNat (i - j)) (Int32.ofNat j)
  have q2 := c_isub (Int32.ofNat (i - j) + Int32.ofNat j) (Int32.ofNat j)
  have r1 := rng32 (Int32.ofNat (i - j))
  have r2 := rng32 (Int32.ofNat (i - j) + Int32.ofNat j - Int32.ofNat j)
  omega
theorem arrayAt_cell {Z : State} {a : Addr} {SA : Cell} (h : Z.arrayAt? a = some SA) : Z.heap[a]? = some SA ∧ SA.vm ≠ .unknown := by
  simp only [State.arrayAt?, Option.bind_eq_bind, Option.bind_eq_some_iff] at h
  obtain ⟨c, h1, k, h2, h3⟩ := h
  split at h3
  · cases h3
  · rename_i hn
    split at h3
    · cases h3; exact ⟨h1, fun q => hn (Or.inl q)⟩
    · cases h3
theorem fits_b {n : Nat} (h : n < 128) : fits .byte (.int (Int32.ofNat n)) = true := by
  have e := n_toInt (i := n) (by omega)
  have e1 : (-128 : Int32).toInt = -128 := rfl
  have e2 : (127 : Int32).toInt = 127 := rfl
  have k : fits .byte (.int (Int32.ofNat n)) = (decide ((-128 : Int32) ≤ Int32.ofNat n) && decide (Int32.ofNat n ≤ (127 : Int32))) := rfl
  rw [k, Bool.and_eq_true, decide_eq_true_eq, decide_eq_true_eq, Int32.le_iff_toInt_le, Int32.le_iff_toInt_le, e, e1, e2]
  omega
/-- a table of bytes that stood at the start -/
theorem tab_of {Z : State} {args a0 : Array Value} {t F : Term} {f : Nat → Int32} (wa : (Cond.arrayClass .byte).before a0 Z = true) (ht : ∀ idx, t.eval args Z none idx Z = t.eval args Z none [] Z)
    (wx : (Cond.exactly t "[B").value args Z none Z [] = some true) (wl : (Cond.eq (.length t) (.int 100)).value args Z none Z [] = some true) (wt : (Cond.all t (.eq (.elem t (.index 0)) F)).value args Z none Z [] = some true)
    (hF : ∀ j, j < 100 → F.eval args Z none [j] Z = some (.int (f j))) (hf : ∀ j, j < 100 → fits .byte (.int (f j)) = true) :
    ∃ a k, t.eval args Z none [] Z = some (.ref a) ∧ Arv Z Z.heap a k .byte 100 ((List.range 100).map fun i => .int (f i)) (.int 0) := by
  obtain ⟨a3, c3, cell3, k3, e1, e2, e3, e4, e5, e6, -⟩ := Cond.exactly_spec (Cond.before_iff.mpr wx)
  have hlen := eqv_i (Term.int_eval 100) wl
  obtain ⟨sd, SA, hev, harrAt, -⟩ := Term.length_spec hlen
  cases hev.symm.trans e1
  have h31 := SBG.length_lt hev harrAt hlen
  have hsz : SA.slots.size = 100 := by
    have e : (Term.length t).eval args Z none [] Z = some (.int (Int32.ofNat SA.slots.size)) := by simp [Term.eval, hev, harrAt, h31]
    have h2 : Int32.ofNat SA.slots.size = (100 : Int32) := by simpa using Option.some.inj (e.symm.trans hlen)
    have := congrArg Int32.toInt h2
    rw [Int32.toInt_ofNat_small h31] at this
    have e100 : (100 : Int32).toInt = 100 := rfl
    omega
  have hcell := arrayAt_cell harrAt
  have hSA : SA = cell3 := Option.some.inj (hcell.1.symm.trans e3)
  subst hSA
  obtain ⟨c4, k4, comp, f1, f2, f3⟩ := Cond.arrayClass_spec wa
  cases (show Z.vm.findClass "[B" = some c4 from f1).symm.trans e2
  have hA : Z.isArrayOf SA .byte := ⟨(fun q r => by rw [r] at e5; cases e5), k4, by rw [e6]; exact f2, comp, f3⟩
  have A : Arr Z Z.heap a3 SA .byte := ⟨hcell.1, hA, hcell.2⟩
  have el : ∀ j, j < 100 → SA.slots[j]? = some (.int (f j)) := fun j hj => by
    have u := Cond.all_elim hev (A.fin (Vm.Alike.refl _)) wt j (by omega)
    have v := eqv_i (hF j hj) u
    have hj31 : j < 2147483648 := by omega
    have nn := n_nn hj31
    have cl := n_clamp hj31
    have ix : (Term.index 0).eval args Z none [(Int32.ofNat j).toNatClampNeg] Z = some (.int (Int32.ofNat j)) := idx_at nn
    have w := elem_f (t := t) ((ht _).trans hev) ix (A.fin (Vm.Alike.refl _)) nn
    rw [cl] at w
    exact w.symm.trans v
  refine ⟨a3, SA.cls, hev, SA, A, rfl, by rw [hsz]; rfl, by decide, fun j hj => ?_, fun j hj => ?_⟩
  · rw [hsz] at hj
    rw [el j hj, tab_getD _ hj]
  · rw [hsz] at hj
    rw [tab_getD _ hj]; exact hf j hj
end Jvm.OwnK
namespace Jvm.OwnK
open Sem ClassFile Op Lib Bundle Jvm.Free Jvm.Stand Jvm.LawKit Jvm.RoadKit
/-- what a StringBuilder of cap places holds after it was asked for m -/
def gcap (cap m : Nat) : Nat := if m ≤ cap then cap else cap + max (m - cap) (cap + 2)
theorem gcap_le {cap m : Nat} (h : m ≤ cap) : gcap cap m = cap := if_pos h
theorem gcap_gt {cap m : Nat} (h : cap < m) : gcap cap m = cap + max (m - cap) (cap + 2) := if_neg (by omega)
theorem gcap_ge (cap m : Nat) : m ≤ gcap cap m ∧ cap ≤ gcap cap m := by unfold gcap; split <;> omega
theorem gcap_dbl {cap m : Nat} (h : m ≤ 2 * cap + 2) : gcap cap m = cap ∨ gcap cap m = 2 * cap + 2 := by unfold gcap; split <;> omega
theorem gcap_mono (cap : Nat) {m m' : Nat} (h : m ≤ m') : gcap cap m ≤ gcap cap m' := by unfold gcap; split <;> split <;> omega
theorem n_max {g p : Nat} (hg : g < 2147483648) (hp : p < 2147483648) : (if Int32.ofNat g < Int32.ofNat p then Int32.ofNat p else Int32.ofNat g) = Int32.ofNat (max g p) := by
  rcases Nat.lt_or_ge g p with q | q
  · rw [if_pos (n_lt q hp)]; congr 1; omega
  · rw [if_neg (n_ge q hg)]; congr 1; omega
theorem range_vs (vs : List Value) (n : Nat) (hn : vs.length = n) : ((List.range n).map fun i => vs.getD (0 + i) (.int 0)) = vs := by
  subst hn
  apply List.ext_getElem
  · simp
  · intro i h1 h2
    simp only [List.length_map, List.length_range] at h1
    simp [List.getD_eq_getElem?_getD, h1]
theorem sub_gt0 {m n : Nat} (h : n < m) (hm : m ≤ 4096) : 0 < Int32.ofNat m - Int32.ofNat n := by
  rw [n_sub (by omega)]; exact n_lt (i := 0) (by omega) (by omega)
theorem sub_le0' {m n : Nat} (h : m ≤ n) (hn : n ≤ 4096) : ¬ 0 < Int32.ofNat m - Int32.ofNat n := by
  have q := sub_le0 h hn
  rw [shr0] at q; exact q
theorem mid_getD {A B C : List Int32} {j : Nat} (hj : j < B.length) : (A ++ (B ++ C)).getD (A.length + j) 0 = B.getD j 0 := by
  rw [List.getD_eq_getElem?_getD, List.getElem?_append_right (by omega), show A.length + j - A.length = j by omega, List.getElem?_append_left hj, List.getD_eq_getElem?_getD]
theorem gcap_set {cp m : Nat} (h : cp = 16 ∨ cp = 34) (hm : m ≤ 34) : gcap cp m = 16 ∨ gcap cp m = 34 := by
  unfold gcap; rcases h with rfl | rfl <;> split <;> omega
theorem seg {cs A B C : List Int32} {o : Nat} (e : cs = A ++ (B ++ C)) (ho : A.length = o) : ∀ j, j < B.length → cs.getD (o + j) 0 = B.getD j 0 := by
  subst e ho; intro j hj; exact mid_getD hj
theorem seg_len {cs A B C : List Int32} {o : Nat} (e : cs = A ++ (B ++ C)) (ho : A.length = o) : o + B.length ≤ cs.length := by
  subst e ho; simp only [List.length_append]; omega
end Jvm.OwnK

namespace Jvm.RoadKit
open Sem ClassFile Op Lib Jvm.Stand Jvm.Free Jvm.LawKit Bundle
theorem Unt.keepk {h h' : Heap} {a : Addr} {ws : List Addr} (U : Unt h a) (K : Keep h h' ws) (hn : a ∉ ws) : Unt h' a := by obtain ⟨c, h1, r⟩ := U; exact ⟨c, K.2.1 _ _ h1 hn, r⟩
theorem known_keep {h h' : Heap} {a : Addr} {ws : List Addr} (K : Keep h h' ws) (U : Unt h a) : ∃ cell : Cell, h'[a]? = some cell ∧ cell.vm ≠ .unknown := by
  obtain ⟨c0, u1, u2, -⟩ := U
  obtain ⟨c', k1, -, k3, -⟩ := K.2.2 _ _ u1
  exact ⟨c', k1, by rw [k3, u2]; simp⟩
end Jvm.RoadKit
namespace Jvm.OwnK
open Sem ClassFile Op Lib Bundle Jvm.Free Jvm.Stand Jvm.LawKit Jvm.RoadKit
/-- a callee's contract that asks that the tables' methods and the frames beneath are known -/
def ConK (l : Launch) (Z : State) (EL : List (String × Nat)) (n0 : Nat) (y : MethodName) (bytes : ByteArray) (maxL : Nat) (ret : Option FieldType) (ws : List Cond) (rm : Room) (as' : Array Value) (h : Heap) (S : List Addr) (Q : Option Value → Vm → Heap → Prop) : Prop :=
  MetFree l y (head1 (Cond.code y bytes maxL ret :: ws) rm) (fun a U => a = as' ∧ Z.Warmed39 U.vm ∧ U.heap = h ∧ CHv Z EL U.vm h ∧ ∀ x ∈ S, Safe Z EL U.vm h x) (fun _ _ bl s _ => s.vm.MethodsKnown ∧ s.vm.FramesKnown bl)
    (fun _ U o U' => ∃ v L, o = .returned v ∧ Q v U'.vm U'.heap ∧ Fr n0 L ∧ CHr Z EL U.vm U.heap U'.vm U'.heap ∧ RE EL U o U' L rm.cells rm.slots)
section
variable {p : Program} {l : Launch} {e : Env} {R : Room} {s : State} {m : MethodId} {args : Array Value} {below : List Frame} {meth : Method} {c : Code} {Z : State} {a0 : Array Value} {EL : List (String × Nat)} {n0 : Nat} {own nm : String} {bytes : ByteArray} {maxL : Nat} {ret : Option FieldType} {T : State} {vm0 : Vm} {h : Heap} {cells slots : Nat} {Q : Option Value → Vm → Heap → Prop} {pc pc' : Nat} {Ls : Array Slot} {st : List Value}
theorem ConK.back {y : MethodName} {bytes' : ByteArray} {maxL' : Nat} {ret' : Option FieldType} {rm : Room} {len W : Nat} {as' : Array Value} {S : List Addr} {Q' : Option Value → Vm → Heap → Prop}
    (hM : ConK l Z EL n0 y bytes' maxL' ret' [] rm as' h S Q') (hZ : Z.Warmed39 vm0) (wc : (Cond.code y bytes' maxL' ret').before a0 Z = true) (wz : (Cond.initialized y.cls).before a0 Z = true) (hf : rm.frames + 1 ≤ R.frames) (hl : W + (maxL' + 11) + rm.locals ≤ R.locals) (hEL : EW Z a0 EL) (H : CHv Z EL vm0 h) (hS : ∀ x ∈ S, x < h.size ∧ Safe Z EL vm0 h x) (hTK : vm0.MethodsKnown) (hBelow : vm0.FramesKnown below) :
    BackS l R p e below (s.setVm vm0) args y len W (fun A a => a = as' ∧ A.U.heap = h ∧ A.cells + rm.cells ≤ R.cells ∧ A.slots + rm.slots ≤ R.slots)
      (fun A _ v B => ∃ L, Q' v B.U.vm B.U.heap ∧ Fr n0 L ∧ B.locs = A.locs ++ L ∧ B.cells = A.cells + rm.cells ∧ B.slots = A.slots + rm.slots ∧ CHr Z EL vm0 h B.U.vm B.U.heap ∧ (NW = true → (s.setVm vm0).WarmedH B.U.vm)) :=
  BackS.of_freeWG (bytes := bytes') (maxL := maxL') (ret := ret') (E := fun _ first o t L k n => k = rm.cells ∧ n = rm.slots ∧ (∃ v, o = .returned v ∧ Q' v t.vm t.heap) ∧ Fr n0 L ∧ CHr Z EL first.vm first.heap t.vm t.heap ∧ (NW = true → first.WarmedH t.vm)) hM hf hl
    (fun m meth c A a Y hp => have hU : Z.Warmed39 A.U.vm := wtrans (s := s.setVm vm0) hZ Y.warmed
      ⟨by show (Cond.and _ .tt).before a A.U = true; rw [Cond.before_and, mv hU wc]; rfl, mv hU wc, mv hU wz, hp.2.2.1, hp.2.2.2⟩)
    (fun m meth c A a g mk Y hp => ⟨hp.1, wtrans (s := s.setVm vm0) hZ Y.warmed, hp.2.1, (CHv.at Y hZ hEL H).1, fun x hx => (CHv.at Y hZ hEL H).safe (hS x hx).1 (hS x hx).2⟩) (fun m meth c A a g mk Y _ hg => known_frames Y hg hTK hBelow)
    (fun _ _ _ _ ⟨v, L, h1, h2, h3, h4, h5⟩ => ⟨L, _, _, h5.1, rfl, rfl, ⟨v, h1, h2⟩, h3, h4, h5.2⟩)
    (fun m meth c A a g mk v t L k n Y hp _ _ ⟨e1, e2, ⟨v', e3, e4⟩, e5, e6, e7⟩ => by
      cases e3; subst e1 e2
      refine ⟨L, e4, e5, rfl, rfl, rfl, (CHv.at Y hZ hEL H).trans ?_, fun q => State.WarmedH.trans (t := A.U) Y.warmed (e7 q)⟩
      rw [← hp.2.1]; exact e6)
theorem ConK.of {y : MethodName} {bytes' : ByteArray} {maxL' : Nat} {ret' : Option FieldType} {ws : List Cond} {rm : Room} {as' : Array Value} {S : List Addr} {Q' : Option Value → Vm → Heap → Prop} (hpl : plainFor y = true) (O : Old Z n0 h) (hEL : EW Z a0 EL)
    (hbody : ∀ p e s m below meth c T, Wk p l e rm s m as' below meth c Z a0 EL n0 y.cls y.name bytes' maxL' ret' T s.vm h 0 0 → s.heap = h → (∀ x ∈ S, Safe Z EL s.vm h x) → (s.vm.MethodsKnown ∧ s.vm.FramesKnown below) → Go p e below s rm Z EL n0 Q' (T.setTop (entryFrame m as' maxL'))) :
    ConK l Z EL n0 y bytes' maxL' ret' ws rm as' h S Q' := by
  refine MetFree.of_bodySF hpl hisR ?_
  intro p e s m args below meth c s₁ Bd hml hP hK
  obtain ⟨rfl, hZ, rfl, hC, hSafe⟩ := hP
  have hown : s.vm.findClass y.cls = some m.cls := findClass_of_methodNamed Bd.named
  have hnm := (name_of_methodNamed Bd.named Bd.method).1
  have X0 : Stand p l e rm s m args below meth c s₁ [] 0 0 := Stand.of_body Bd
  have e0 : s₁.heap = s.heap := by rw [Bd.state]; rfl
  exact hbody p e s m below meth c s₁ ⟨⟨0, [], X0, ⟨(State.WarmedH.refl s).since 0, fun _ => State.WarmedH.refl s⟩, Nat.zero_le _, Fr.nil n0⟩, ⟨e0, hZ, hown, CHr.refl hC⟩, O, Bd.exec, Bd.bytes, hml, Bd.returns, Bd.notSynchronized, hnm, hEL⟩ rfl hSafe hK
theorem s_staticK (W : Wk p l e R s m args below meth c Z a0 EL n0 own nm bytes maxL ret T vm0 h cells slots) (hKn : s.vm.MethodsKnown ∧ s.vm.FramesKnown below) {index : Nat} {y : MethodName} {bytes' : ByteArray} {maxL' : Nat} {ret' : Option FieldType} {rm : Room} {S : List Addr} {Q' : Option Value → Vm → Heap → Prop} (w1 : (Cond.methodLink own index y).before a0 Z = true) (w2 : (Cond.static y).before a0 Z = true) (wz : (Cond.initialized y.cls).before a0 Z = true) (wc : (Cond.code y bytes' maxL' ret').before a0 Z = true) (hy : y.cls ≠ "java/lang/invoke/MethodHandle" ∧ y.cls ≠ "java/lang/invoke/VarHandle") {ps : List FieldType} {r : Option FieldType} (pd : parseMethodDescriptor y.desc = some ⟨ps, r⟩) (argsL : List Value) (hln : argsL.length = ps.length) (hM : ConK l Z EL n0 y bytes' maxL' ret' [] rm argsL.toArray h S Q') (hSf : ∀ x ∈ S, x < h.size ∧ Safe Z EL vm0 h x) (hsz : Ls.size = maxL) (hd : decode bytes pc = .ok (.invokestatic index, 3)) (Wd : Nat) (hWd : (st.map fun v => v.category).sum ≤ Wd) (hf : rm.frames + 1 ≤ R.frames) (hlo : Wd + (maxL' + 11) + rm.locals ≤ R.locals) (hc : cells + rm.cells ≤ R.cells) (hl : slots + rm.slots ≤ R.slots) (hp : pc + 3 = pc')
    (k : ∀ v T' vm' h', Wk p l e R s m args below meth c Z a0 EL n0 own nm bytes maxL ret T' vm' h' (cells + rm.cells) (slots + rm.slots) → CHr Z EL vm0 h vm' h' → Q' v vm' h' → Go p e below s R Z EL n0 Q (T'.setTop (mkF m pc' Ls (v.toList ++ st)))) : Go p e below s R Z EL n0 Q (T.setTop (mkF m pc Ls (argsL.reverse ++ st))) := by
  obtain ⟨⟨k0, locs, X, hS, hk, N⟩, ⟨eT, hZ, hown, C⟩, hh⟩ := W
  obtain ⟨v, vm1, ⟨U, L1, c1, n1⟩, hW1, X', hS1, hgr, ⟨L, hQ, hF, hL, hcc, hnn, hC, hNW⟩, hsteps⟩ := callSS X hh.2.1 (own := own) (index := index) (y := y) (bytes := bytes') (maxL := maxL') (ret := ret') hown (mv (s := s.setVm vm0) hZ w1) (mv (s := s.setVm vm0) hZ w2) (mv (s := s.setVm vm0) hZ wz) (mv (s := s.setVm vm0) hZ wc) hy (hM.back (p := p) (e := e) (below := below) (args := args) (len := 3) (R := R) (s := s) (W := Wd) hZ wc wz hf hlo hh.2.2.2.2.2.2.2 C.1 hSf (Vm.MethodsKnown.alikeC hS.1.1.alike hKn.1) (Vm.FramesKnown.alikeC hS.1.1.alike hKn.2)) (g := mkF m pc Ls (argsL.reverse ++ st)) rfl (hsz.trans hh.2.2.2.1.symm) (argsL := argsL) (rest := st) (lenOf pd hln) rfl (by show 2 * 0 + _ ≤ _; omega) (hb hh.2.2.1 hd) (fun _ _ => ⟨rfl, eT, hc, hl⟩)
  dsimp only [Pt.U, Pt.locs, Pt.cells, Pt.slots] at X' hS1 hgr hQ hL hcc hnn hC hNW hsteps
  subst hL hcc hnn hp
  have hZ' : Z.Warmed39 U.vm := State.Warmed39.trans (t := s.setVm vm0) hZ hS1.1
  have hown' : U.vm.findClass own = some m.cls := (hS1.1.alike.findClass _ _).trans hown
  rw [eT] at hgr
  exact Go.up (fun t q => hsteps.trans q) (k v U U.vm U.heap ⟨⟨_, _, X', ⟨hS.1.trans hS1 (Nat.le_trans hk hgr), fun q => State.WarmedH.trans (t := s.setVm vm0) (hS.2 q) (hNW q)⟩, Nat.le_refl _, N.app hF⟩, ⟨rfl, hZ', hown', C.trans hC⟩, hh⟩ hC hQ)
theorem s_initK (W : Wk p l e R s m args below meth c Z a0 EL n0 own nm bytes maxL ret T vm0 h cells slots) (hKn : s.vm.MethodsKnown ∧ s.vm.FramesKnown below) {index : Nat} {y : MethodName} {bytes' : ByteArray} {maxL' : Nat} {rm : Room} {S : List Addr} {Q' : Option Value → Vm → Heap → Prop} (hy1 : y.name = "<init>") (w1 : (Cond.methodLink own index y).before a0 Z = true) (w2 : (Cond.instanceMethod y).before a0 Z = true) (wz : (Cond.initialized y.cls).before a0 Z = true) (wc : (Cond.code y bytes' maxL' none).before a0 Z = true) (hy : y.cls ≠ "java/lang/invoke/MethodHandle" ∧ y.cls ≠ "java/lang/invoke/VarHandle") {ps : List FieldType} {r : Option FieldType} (pd : parseMethodDescriptor y.desc = some ⟨ps, r⟩) (argsL : List Value) (hln : argsL.length = ps.length) {a : Addr} (hM : ConK l Z EL n0 y bytes' maxL' none [] rm (.ref a :: argsL).toArray h S Q') (hSf : ∀ x ∈ S, x < h.size ∧ Safe Z EL vm0 h x) (hsz : Ls.size = maxL) (hd : decode bytes pc = .ok (.invokespecial index, 3)) (Wd : Nat) (hWd : (st.map fun v => v.category).sum ≤ Wd) (hf : rm.frames + 1 ≤ R.frames) (hlo : Wd + (maxL' + 11) + rm.locals ≤ R.locals) (hc : cells + rm.cells ≤ R.cells) (hl : slots + rm.slots ≤ R.slots) (hp : pc + 3 = pc')
    (k : ∀ v T' vm' h', Wk p l e R s m args below meth c Z a0 EL n0 own nm bytes maxL ret T' vm' h' (cells + rm.cells) (slots + rm.slots) → CHr Z EL vm0 h vm' h' → Q' v vm' h' → Go p e below s R Z EL n0 Q (T'.setTop (mkF m pc' Ls (v.toList ++ st)))) : Go p e below s R Z EL n0 Q (T.setTop (mkF m pc Ls (argsL.reverse ++ .ref a :: st))) := by
  obtain ⟨⟨k0, locs, X, hS, hk, N⟩, ⟨eT, hZ, hown, C⟩, hh⟩ := W
  obtain ⟨v, vm1, ⟨U, L1, c1, n1⟩, hW1, X', hS1, hgr, ⟨L, hQ, hF, hL, hcc, hnn, hC, hNW⟩, hsteps⟩ := X.specialBackS hh.2.1 (own := own) (index := index) (y := y) hy1 hown (mv (s := s.setVm vm0) hZ w1) (mv (s := s.setVm vm0) hZ w2) (bytes := bytes') (maxL := maxL') (mv (s := s.setVm vm0) hZ wc) hy (hM.back (p := p) (e := e) (below := below) (args := args) (len := 3) (R := R) (s := s) (W := Wd) hZ wc wz hf hlo hh.2.2.2.2.2.2.2 C.1 hSf (Vm.MethodsKnown.alikeC hS.1.1.alike hKn.1) (Vm.FramesKnown.alikeC hS.1.1.alike hKn.2)) (g := mkF m pc Ls (argsL.reverse ++ .ref a :: st)) rfl (hsz.trans hh.2.2.2.1.symm) (Steps.refl _) (a := a) (argsL := argsL) (rest := st) (lenOf pd hln) rfl (by show 2 * 0 + _ ≤ _; omega) (hb hh.2.2.1 hd) (fun _ _ => ⟨rfl, eT, hc, hl⟩)
  dsimp only [Pt.U, Pt.locs, Pt.cells, Pt.slots] at X' hS1 hgr hQ hL hcc hnn hC hNW hsteps
  subst hL hcc hnn hp
  have hZ' : Z.Warmed39 U.vm := State.Warmed39.trans (t := s.setVm vm0) hZ hS1.1
  have hown' : U.vm.findClass own = some m.cls := (hS1.1.alike.findClass _ _).trans hown
  rw [eT] at hgr
  exact Go.up (fun t q => hsteps.trans q) (k v U U.vm U.heap ⟨⟨_, _, X', ⟨hS.1.trans hS1 (Nat.le_trans hk hgr), fun q => State.WarmedH.trans (t := s.setVm vm0) (hS.2 q) (hNW q)⟩, Nat.le_refl _, N.app hF⟩, ⟨rfl, hZ', hown', C.trans hC⟩, hh⟩ hC hQ)
theorem s_virtUp (W : Wk p l e R s m args below meth c Z a0 EL n0 own nm bytes maxL ret T vm0 h cells slots) {index : Nat} {C0 owner : String} {y z : MethodName} {bytes' : ByteArray} {maxL' : Nat} {ret' : Option FieldType} {rm : Room} {S : List Addr} {Q' : Option Value → Vm → Heap → Prop} (w1 : (Cond.methodLink own index y).before a0 Z = true) (w2 : (Cond.sameMethod y.cls owner y.name y.desc).before a0 Z = true) (w5 : (Cond.declares ⟨owner, y.name, y.desc⟩).before a0 Z = true) (w3 : (Cond.selects C0 y z).before a0 Z = true) (w4 : (Cond.instanceMethod z).before a0 Z = true) (wz : (Cond.initialized z.cls).before a0 Z = true) (wc : (Cond.code z bytes' maxL' ret').before a0 Z = true) (hy : owner ≠ "java/lang/invoke/MethodHandle" ∧ owner ≠ "java/lang/invoke/VarHandle") {ps : List FieldType} {r : Option FieldType} (pd : parseMethodDescriptor y.desc = some ⟨ps, r⟩) (argsL : List Value) (hln : argsL.length = ps.length) {a : Addr} (E : Exa Z h a C0) (hM : Con l Z EL n0 z bytes' maxL' ret' [] rm (.ref a :: argsL).toArray h S Q') (hSf : ∀ x ∈ S, x < h.size ∧ Safe Z EL vm0 h x) (hsz : Ls.size = maxL) (hd : decode bytes pc = .ok (.invokevirtual index, 3)) (Wd : Nat) (hWd : (st.map fun v => v.category).sum ≤ Wd) (hf : rm.frames + 1 ≤ R.frames) (hlo : Wd + (maxL' + 11) + rm.locals ≤ R.locals) (hc : cells + rm.cells ≤ R.cells) (hl : slots + rm.slots ≤ R.slots) (hp : pc + 3 = pc')
    (k : ∀ v T' vm' h', Wk p l e R s m args below meth c Z a0 EL n0 own nm bytes maxL ret T' vm' h' (cells + rm.cells) (slots + rm.slots) → CHr Z EL vm0 h vm' h' → Q' v vm' h' → Go p e below s R Z EL n0 Q (T'.setTop (mkF m pc' Ls (v.toList ++ st)))) : Go p e below s R Z EL n0 Q (T.setTop (mkF m pc Ls (argsL.reverse ++ .ref a :: st))) := by
  obtain ⟨⟨k0, locs, X, hS, hk, N⟩, ⟨eT, hZ, hown, C⟩, hh⟩ := W
  obtain ⟨cq, kq, qa, qb, qc⟩ := isOf (show Z.Warmed39 (s.setVm vm0).vm from hZ) eT E
  obtain ⟨v, vm1, ⟨U, L1, c1, n1⟩, hW1, X', hS1, hgr, ⟨L, hQ, hF, hL, hcc, hnn, hC, hNW⟩, hsteps⟩ := X.virtualBackUpS hh.2.1 (own := own) (C := C0) (owner := owner) (index := index) (x := y) (y := z) hown (mv (s := s.setVm vm0) hZ w1) (mv (s := s.setVm vm0) hZ w2) (mv (s := s.setVm vm0) hZ w5) hy (mv (s := s.setVm vm0) hZ w3) (mv (s := s.setVm vm0) hZ w4) (hM.back (p := p) (e := e) (below := below) (args := args) (len := 3) (R := R) (s := s) (W := Wd) hZ wc wz hf hlo hh.2.2.2.2.2.2.2 C.1 hSf) qa qc (g := mkF m pc Ls (argsL.reverse ++ .ref a :: st)) rfl (hsz.trans hh.2.2.2.1.symm) (Steps.refl _) (argsL := argsL) (rest := st) (lenOf pd hln) rfl (by show 2 * 0 + _ ≤ _; omega) (hb hh.2.2.1 hd) (fun _ _ => ⟨rfl, eT, hc, hl⟩)
  dsimp only [Pt.U, Pt.locs, Pt.cells, Pt.slots] at X' hS1 hgr hQ hL hcc hnn hC hNW hsteps
  subst hL hcc hnn hp
  have hZ' : Z.Warmed39 U.vm := State.Warmed39.trans (t := s.setVm vm0) hZ hS1.1
  have hown' : U.vm.findClass own = some m.cls := (hS1.1.alike.findClass _ _).trans hown
  rw [eT] at hgr
  exact Go.up (fun t q => hsteps.trans q) (k v U U.vm U.heap ⟨⟨_, _, X', ⟨hS.1.trans hS1 (Nat.le_trans hk hgr), fun q => State.WarmedH.trans (t := s.setVm vm0) (hS.2 q) (hNW q)⟩, Nat.le_refl _, N.app hF⟩, ⟨rfl, hZ', hown', C.trans hC⟩, hh⟩ hC hQ)
def thrW (rc : String) : List Cond := [.initialized tN, .superclass tN "java/lang/Object", .instanceMethod tFill, .codeSync tFill LibCode.Throwable.Fill.code 1 (some (.object tN)), .instanceMethod tFill0, .native tFill0, .instanceMethod oInit, .code oInit ⟨#[0xb1]⟩ 1 none, .methodLink tN 1 oInit, .methodLink tN 27 tFill, .methodLink tN 202 tFill0, .fieldLink tN 7 tN "cause" "Ljava/lang/Throwable;", .lays rc tN "cause" "Ljava/lang/Throwable;", .fieldLink tN 17 tN "stackTrace" steD, .lays rc tN "stackTrace" steD, .fieldLink tN 24 tN "suppressedExceptions" listD, .lays rc tN "suppressedExceptions" listD, .fieldLink tN 13 tN "UNASSIGNED_STACK" steD, .laysStatic tN "UNASSIGNED_STACK" steD, .fieldLink tN 20 tN "SUPPRESSED_SENTINEL" listD, .laysStatic tN "SUPPRESSED_SENTINEL" listD, .lays rc tN "detailMessage" "Ljava/lang/String;", .lays rc tN "backtrace" "Ljava/lang/Object;", .lays rc tN "depth" "I", .fieldLink tN 198 tN "backtrace" "Ljava/lang/Object;", .declares tFill, .selects rc tFill tFill, .selects rc tFill0 tFill0, .soleField tN "backtrace", .soleField tN "depth", .arrayOver (.object "java/lang/Object")]
theorem thrW_ok {rc : String} : (thrW rc).all xOk = true := rfl
theorem thr_links {args : Array Value} {s : State} {pl : Platform} {rc : String} (howns : pl.frameOwnsMonitors = true) (hfin : pl.finalization = false) (hpl : pl.magicAccessors = ({} : Platform).magicAccessors) (w : ∀ d ∈ thrW rc, d.before args s = true) :
    ∃ T : ThrowableC, T.Links pl s ∧ s.vm.findClass tN = some T.cT ∧ s.methodNamed? tFill = some T.fill ∧ s.methodNamed? tFill0 = some T.fill0 ∧ s.fieldFound? tN "stackTrace" steD = some (T.cT, T.kT, T.i17, T.fStack) ∧ T.fStack.type = .array (.object "java/lang/StackTraceElement") ∧ s.fieldFound? tN "UNASSIGNED_STACK" steD = some (T.cT, T.kT, T.i13, T.fUnassigned) := by
  obtain ⟨⟨c, j0⟩, m0, nm0, at0, nat0, no0, lk0, sg0⟩ := Cond.native_spec (show (Cond.native tFill0).holds args s none s [] = true from w _ (List.mem_of_getElem? (i := 5) rfl))
  have hc : s.vm.findClass tN = some c := findClass_of_methodNamed nm0
  obtain ⟨k, hk, hkn⟩ := Vm.findClass_spec hc
  obtain ⟨_, k1, _, _, hk1, _, _, hord, _, hni⟩ := Cond.superclass_spec hc (show (Cond.superclass tN "java/lang/Object").holds args s none s [] = true from w _ (List.mem_of_getElem? (i := 1) rfl))
  obtain rfl : k = k1 := Option.some.inj (hk.symm.trans hk1)
  -- the two methods fillInStackTrace
  obtain ⟨jF, mF, nmF, mtF, atF, stF, abF, -, -⟩ := Cond.ownMethod (x := tFill) hc hk (show (Cond.instanceMethod tFill).holds args s none s [] = true from w _ (List.mem_of_getElem? (i := 2) rfl))
  obtain ⟨mF2, cF, mtF2, cdF, byF, loF, reF, lkF, -, sgF⟩ := Cond.codeSync_spec nmF (show (Cond.codeSync tFill LibCode.Throwable.Fill.code 1 (some (.object tN))).holds args s none s [] = true from w _ (List.mem_of_getElem? (i := 3) rfl))
  obtain rfl : mF = mF2 := Option.some.inj (mtF.symm.trans mtF2)
  obtain ⟨j1, m1, nm1, mt1, at1, st1, ab1, na1, ds1⟩ := Cond.ownMethod (x := tFill0) hc hk (show (Cond.instanceMethod tFill0).holds args s none s [] = true from w _ (List.mem_of_getElem? (i := 4) rfl))
  obtain rfl : j0 = j1 := by have q := Option.some.inj (nm0.symm.trans nm1); simpa using q
  obtain rfl : m0 = m1 := Option.some.inj (at0.symm.trans mt1)
  -- Object's constructor
  obtain ⟨mO, eO, nmO, mtO, stO, abO⟩ := Cond.instanceMethod_spec (show (Cond.instanceMethod oInit).holds args s none s [] = true from w _ (List.mem_of_getElem? (i := 6) rfl))
  obtain ⟨eO2, cO, mtO2, cdO, byO, loO, -, lkO, -, sgO⟩ := Cond.code_spec nmO (show (Cond.code oInit ⟨#[0xb1]⟩ 1 none).holds args s none s [] = true from w _ (List.mem_of_getElem? (i := 7) rfl))
  obtain rfl : eO = eO2 := Option.some.inj (mtO.symm.trans mtO2)
  obtain ⟨kO, hkO, hkOn⟩ := Vm.findClass_spec (findClass_of_methodNamed nmO)
  obtain ⟨naO, dsO⟩ := name_of_methodNamed nmO mtO
  -- the three links to methods
  obtain ⟨c1, n1, cf, l1, r1, hcf, p1⟩ := Cond.linkedMethod hc hk nmO (show (Cond.methodLink tN 1 oInit).holds args s none s [] = true from w _ (List.mem_of_getElem? (i := 8) rfl)) pl hpl
  obtain ⟨c27, n27, cf2, l27, r27, hcf2, p27⟩ := Cond.linkedMethod hc hk nmF (show (Cond.methodLink tN 27 tFill).holds args s none s [] = true from w _ (List.mem_of_getElem? (i := 9) rfl)) pl hpl
  obtain rfl : cf = cf2 := Option.some.inj (hcf.symm.trans hcf2)
  obtain ⟨c202, n202, cf3, l202, r202, hcf3, p202⟩ := Cond.linkedMethod hc hk nm0 (show (Cond.methodLink tN 202 tFill0).holds args s none s [] = true from w _ (List.mem_of_getElem? (i := 10) rfl)) pl hpl
  obtain rfl : cf = cf3 := Option.some.inj (hcf.symm.trans hcf3)
  -- the fields
  obtain ⟨c7, i7, f7, x7, y7, z7, s7, u7, n7, t7, g7⟩ := Cond.ownField (t := .object tN) hc hk (by decide +kernel) (show (Cond.fieldLink tN 7 tN "cause" "Ljava/lang/Throwable;").holds args s none s [] = true from w _ (List.mem_of_getElem? (i := 11) rfl)) (show (Cond.lays rc tN "cause" "Ljava/lang/Throwable;").holds args s none s [] = true from w _ (List.mem_of_getElem? (i := 12) rfl)) pl hpl
  obtain ⟨c17, i17, f17, x17, y17, z17, s17, u17, n17, t17, g17⟩ := Cond.ownField (t := .array (.object "java/lang/StackTraceElement")) hc hk (by decide +kernel) (show (Cond.fieldLink tN 17 tN "stackTrace" steD).holds args s none s [] = true from w _ (List.mem_of_getElem? (i := 13) rfl)) (show (Cond.lays rc tN "stackTrace" steD).holds args s none s [] = true from w _ (List.mem_of_getElem? (i := 14) rfl)) pl hpl
  obtain ⟨c24, i24, f24, x24, y24, z24, s24, u24, n24, t24, g24⟩ := Cond.ownField (t := .object "java/util/List") hc hk (by decide +kernel) (show (Cond.fieldLink tN 24 tN "suppressedExceptions" listD).holds args s none s [] = true from w _ (List.mem_of_getElem? (i := 15) rfl)) (show (Cond.lays rc tN "suppressedExceptions" listD).holds args s none s [] = true from w _ (List.mem_of_getElem? (i := 16) rfl)) pl hpl
  obtain ⟨c13, i13, f13, aS, cS, x13, y13, z13, s13, -, -, hst, -, -, -, -, g13⟩ := Cond.ownStatic (t := .array (.object "java/lang/StackTraceElement")) hc hk (by decide +kernel) (show (Cond.fieldLink tN 13 tN "UNASSIGNED_STACK" steD).holds args s none s [] = true from w _ (List.mem_of_getElem? (i := 17) rfl)) (show (Cond.laysStatic tN "UNASSIGNED_STACK" steD).holds args s none s [] = true from w _ (List.mem_of_getElem? (i := 18) rfl)) pl hpl
  obtain ⟨c20, i20, f20, _, _, x20, y20, z20, s20, -, -, -, -, -, -, -, g20⟩ := Cond.ownStatic (t := .object "java/util/List") hc hk (by decide +kernel) (show (Cond.fieldLink tN 20 tN "SUPPRESSED_SENTINEL" listD).holds args s none s [] = true from w _ (List.mem_of_getElem? (i := 19) rfl)) (show (Cond.laysStatic tN "SUPPRESSED_SENTINEL" listD).holds args s none s [] = true from w _ (List.mem_of_getElem? (i := 20) rfl)) pl hpl
  obtain ⟨_, _, _, _, _, fM, _, _, _, sM, uM, _⟩ := Cond.lays_spec (show (Cond.lays rc tN "detailMessage" "Ljava/lang/String;").holds args s none s [] = true from w _ (List.mem_of_getElem? (i := 21) rfl))
  have hapart : f17.slot ≠ f24.slot := by
    obtain ⟨cX, kX, _, _, _, _, hcX, hkX, _⟩ := Cond.lays_spec (show (Cond.lays rc tN "stackTrace" steD).holds args s none s [] = true from w _ (List.mem_of_getElem? (i := 14) rfl))
    obtain ⟨-, d1, e1, e2⟩ := Cond.laysAt hcX hkX g17 (show (Cond.lays rc tN "stackTrace" steD).holds args s none s [] = true from w _ (List.mem_of_getElem? (i := 14) rfl))
    obtain ⟨-, d2, e3, e4⟩ := Cond.laysAt hcX hkX g24 (show (Cond.lays rc tN "suppressedExceptions" listD).holds args s none s [] = true from w _ (List.mem_of_getElem? (i := 16) rfl))
    exact Cond.laysApart e1 e3 e2 e4 (by rw [n17, n24]; decide)
  have pF : mF.sig.parameters = [] := by
    have q : (parseMethodDescriptor tFill.desc).map (·.parameters) = some [] := by decide +kernel
    rw [sgF] at q; simpa using q
  have p0 : m0.sig.parameters = [.int] := by
    have q : (parseMethodDescriptor tFill0.desc).map (·.parameters) = some [.int] := by decide +kernel
    rw [sg0] at q; simpa using q
  have pO : eO.sig.parameters.length = 0 := by
    have q : (parseMethodDescriptor oInit.desc).map (·.parameters.length) = some 0 := by decide +kernel
    rw [sgO] at q; simpa using q
  exact ⟨{ cT := c, kT := k, cO := c, aS := aS, fillIdx := jF, fill0Idx := j0, initSIdx := jF, obj := mO, kObj := kO, methFill := mF, methFill0 := m0, methInitS := mF, methObj := eO, codeFill := cF, codeInitS := cF, codeObj := cO, fBack := f7, fDepth := f7, fStack := f17, fCause := f7, fSupp := f24, fMsg := fM, fUnassigned := f13, fSentinel := f20, cfT := cf, ci1 := c1, n1 := n1, ci27 := c27, n27 := n27, ci202 := c202, n202 := n202, ci7 := c7, i7 := i7, ci13 := c13, i13 := i13, ci17 := c17, i17 := i17, ci20 := c20, i20 := i20, ci24 := c24, i24 := i24 },
    { owns := howns, noFinalization := hfin, cls := hk, name := hkn, boot := Vm.findClass_boot hc hk, notInterface := hni, initialized := Cond.initialized_spec hc hk (show (Cond.initialized tN).holds args s none s [] = true from w _ (List.mem_of_getElem? (i := 0) rfl)), statics := hst, fillAt := atF, fillCode := cdF, fillBytes := byF, fillLocals := loF, fillLocks := lkF, fillStatic := stF, fillAbstract := abF, fillReturns := reF, fillParams := pF, fill0At := at1, fill0Name := na1, fill0Desc := ds1, fill0Params := p0, fill0Static := st1, fill0Native := nat0, fill0Code := no0, fill0Locks := lk0, fill0Abstract := ab1, stackInstance := s17, stackNotFinal := u17, unassignedStatic := s13, objClass := hkO, objClassName := hkOn, objMethod := mtO, objName := naO, objStatic := stO, objAbstract := abO, objFound := by rw [dsO]; exact lookupSpecial_of_named nmO mtO stO, objParams := pO, objCode := cdO, objBytes := byO, objLocks := lkO, causeInstance := s7, causeNotFinal := u7, sentinelStatic := s20, suppInstance := s24, suppNotFinal := u24, msgInstance := sM, msgNotFinal := uM, stackApartSupp := hapart, file := hcf, mlink1 := l1, mright1 := r1, pool1 := p1, mlink27 := l27, mright27 := r27, pool27 := p27, mlink202 := l202, mright202 := r202, pool202 := p202, link7 := x7, right7 := y7, at7 := z7, link13 := x13, right13 := y13, at13 := z13, link17 := x17, right17 := y17, at17 := z17, link20 := x20, right20 := y20, at20 := z20, link24 := x24, right24 := y24, at24 := z24 },
    hc, nmF, nm0, g17, t17, g13⟩
theorem push_at {h : Heap} {c d : Cell} {x : Nat} (hx : h[x]? = some d) : (h.push c)[x]? = some d := by
  have hlt := (Array.getElem?_eq_some_iff.mp hx).1
  rw [Array.getElem?_push_lt hlt]; exact congrArg some (Array.getElem?_eq_some_iff.mp hx).2
theorem s_fill (W : Wk p l e R s m args below meth c Z a0 EL n0 own nm bytes maxL ret T vm0 h cells slots) (HT : ∀ e : Env, l.admits e → e.platform.stackTraces = true) (hKn : s.vm.MethodsKnown ∧ s.vm.FramesKnown below) {rc : String} {n : Nat} (hown0 : own = tN) (wA : ∀ d ∈ thrW rc, d.before a0 Z = true) (wi : (Cond.instantiable rc n).before a0 Z = true) {a : Addr} {us : Value} (E : Exa Z h a rc) (N0 : Unt h a) (B : Fld Z h a tN "backtrace" "Ljava/lang/Object;" .null) (F : Fld Z h a tN "stackTrace" steD us) (U : Sta Z Z.heap tN "UNASSIGNED_STACK" steD us) (hus : us.isRef = true) (hun : us ≠ .null) (M : Mine Z EL n0 vm0 h a) (hsz : Ls.size = maxL) (hd : decode bytes pc = .ok (.invokevirtual 27, 3)) (Wd : Nat) (hWd : (st.map fun v => v.category).sum ≤ Wd) (hf : 3 ≤ R.frames) (hlo : Wd + 42 ≤ R.locals) (hc : cells + 1 ≤ R.cells) (hl : slots + 2752 ≤ R.slots) (hp : pc + 3 = pc')
    (k : ∀ T' h', Wk p l e R s m args below meth c Z a0 EL n0 own nm bytes maxL ret T' vm0 h' (cells + 1) (slots + 2752) → Keep h h' [a] → CHr Z EL vm0 h vm0 h' → Go p e below s R Z EL n0 Q (T'.setTop (mkF m pc' Ls (.ref a :: st)))) : Go p e below s R Z EL n0 Q (T.setTop (mkF m pc Ls (.ref a :: st))) := by
  subst hown0
  have Od := W.old
  obtain ⟨⟨k0, locs, X, hS, hk, N⟩, ⟨eT, hZ, hown, C⟩, hh⟩ := W
  have hZs : Z.Warmed39 (s.setVm vm0).vm := hZ
  have hT0 : ThS Z (s.setVm vm0).heap := ThS.ext hh.1.2 ThS.start
  have w : ∀ d ∈ thrW rc, d.before args (s.setVm vm0) = true := fun d hd => mvX hT0 hZs (List.all_eq_true.mp thrW_ok d hd) (wA d hd)
  have howns : e.platform.frameOwnsMonitors = true := by rw [X.admits.platform]
  have hfin : e.platform.finalization = false := by rw [X.admits.platform]
  have hpl : e.platform.magicAccessors = ({} : Platform).magicAccessors := by rw [X.admits.platform]
  obtain ⟨Tt, L, y1, y2, y3, y4, y5, y6⟩ := thr_links howns hfin hpl w
  obtain ⟨cell, hcell, hvm, hmon⟩ := N0
  obtain ⟨kX, hfc, q1, hord, hsize⟩ : ∃ kX : Class, (s.setVm vm0).vm.findClass rc = some cell.cls ∧ (s.setVm vm0).vm.classes[cell.cls]? = some kX ∧ kX.kind = .ordinary ∧ cell.slots.size = kX.instanceTypes.size := by
    obtain ⟨cE, kc, e1, e2, e3, -, e5⟩ := E
    cases hcell.symm.trans e1
    obtain ⟨c4, k2, i1, i2, i3, -⟩ := Cond.instantiable_spec wi
    cases e2.symm.trans i1
    cases e3.symm.trans i2
    obtain ⟨kX, q1, q2⟩ := hZs.alike.2.2 _ _ e3
    exact ⟨kX, by rw [hZs.alike.findClass]; exact e2, q1, by rw [q2]; exact i3, by rw [q2]; exact e5 i3⟩
  have hvS : cell.slots[Tt.fStack.slot]? = some us := by
    obtain ⟨c2, cf2, kf2, if2, f2, b1, b2, -, -, -, -, b7⟩ := F
    cases hcell.symm.trans b1
    obtain ⟨k6, b3, -⟩ := State.fieldFound?_setVm (s := Z) hZs.alike b2
    have q := Option.some.inj ((show (s.setVm vm0).fieldFound? tN "stackTrace" steD = _ from b3).symm.trans y4)
    simp only [Prod.mk.injEq] at q
    rw [← q.2.2.2]; exact b7
  obtain ⟨ci198, i198, fB, hk198, hg198, ha198, hsB, -, hnB, htB, hffB⟩ := Cond.ownField (t := .object "java/lang/Object") y1 L.cls (by decide +kernel) (show (Cond.fieldLink tN 198 tN "backtrace" "Ljava/lang/Object;").holds args (s.setVm vm0) none (s.setVm vm0) [] = true from w _ (List.mem_of_getElem? (i := 24) rfl)) (show (Cond.lays rc tN "backtrace" "Ljava/lang/Object;").holds args (s.setVm vm0) none (s.setVm vm0) [] = true from w _ (List.mem_of_getElem? (i := 22) rfl)) e.platform hpl
  have hbn : cell.slots[fB.slot]? = some .null := by
    obtain ⟨c2, cf2, kf2, if2, f2, b1, b2, -, -, -, -, b7⟩ := B
    cases hcell.symm.trans b1
    obtain ⟨k6, b3, -⟩ := State.fieldFound?_setVm (s := Z) hZs.alike b2
    have q := Option.some.inj ((show (s.setVm vm0).fieldFound? tN "backtrace" "Ljava/lang/Object;" = _ from b3).symm.trans hffB)
    simp only [Prod.mk.injEq] at q
    rw [← q.2.2.2]; exact b7
  obtain ⟨cD1, kD1, cD, kD, iD, fD, -, -, hffD, hstD, -, -, -, -⟩ := Cond.lays_spec (show (Cond.lays rc tN "depth" "I").holds args (s.setVm vm0) none (s.setVm vm0) [] = true from w _ (List.mem_of_getElem? (i := 23) rfl))
  obtain rfl : cD = Tt.cT := Option.some.inj ((Cond.lays_declared (show (Cond.lays rc tN "depth" "I").holds args (s.setVm vm0) none (s.setVm vm0) [] = true from w _ (List.mem_of_getElem? (i := 23) rfl)) hffD).symm.trans y1)
  obtain ⟨hkD, hatD⟩ := State.fieldFound?_spec hffD
  obtain rfl : kD = Tt.kT := Option.some.inj (hkD.symm.trans L.cls)
  obtain ⟨hnD, htD⟩ := State.fieldFound?_type hffD (t := .int) (by decide +kernel)
  have hfb := Cond.soleField_find y1 L.cls (show (Cond.soleField tN "backtrace").holds args (s.setVm vm0) none (s.setVm vm0) [] = true from w _ (List.mem_of_getElem? (i := 28) rfl)) ha198 hnB hsB
  have hfd := Cond.soleField_find y1 L.cls (show (Cond.soleField tN "depth").holds args (s.setVm vm0) none (s.setVm vm0) [] = true from w _ (List.mem_of_getElem? (i := 29) rfl)) hatD hnD hstD
  obtain ⟨comp, cO, kO, -, -, hkO, hkindO, hO⟩ := Cond.arrayOver_spec (show (Cond.arrayOver (.object "java/lang/Object")).holds args (s.setVm vm0) none (s.setVm vm0) [] = true from w _ (List.mem_of_getElem? (i := 30) rfl))
  obtain ⟨tyS, -⟩ := Cond.laysAt hfc q1 y4 (show (Cond.lays rc tN "stackTrace" steD).holds args (s.setVm vm0) none (s.setVm vm0) [] = true from w _ (List.mem_of_getElem? (i := 14) rfl))
  obtain ⟨tyB, -⟩ := Cond.laysAt hfc q1 hffB (show (Cond.lays rc tN "backtrace" "Ljava/lang/Object;").holds args (s.setVm vm0) none (s.setVm vm0) [] = true from w _ (List.mem_of_getElem? (i := 22) rfl))
  obtain ⟨tyD, -⟩ := Cond.laysAt hfc q1 hffD (show (Cond.lays rc tN "depth" "I").holds args (s.setVm vm0) none (s.setVm vm0) [] = true from w _ (List.mem_of_getElem? (i := 23) rfl))
  have tk : ∀ {f : Field} {v : Value}, kX.instanceTypes[f.slot]? = some f.type → fits f.type v = true → Jvm.Takes (s.setVm vm0) cell f v := fun {f v} t1 t2 => by
    obtain ⟨p1, p2⟩ := Jvm.Takes.of_laid (v := v) q1 hord t1 t2
    exact ⟨by rw [hsize]; simpa using p1, by rw [hvm]; exact p2⟩
  obtain ⟨cfU, iU, kU, fU, stU, cS, u1, u2, u3, u4, u5, u6, u7⟩ := U.ext Od.2
  obtain ⟨k7, u8, hek⟩ := State.fieldFound?_setVm (s := Z) hZs.alike u1
  have qU := Option.some.inj ((show (s.setVm vm0).fieldFound? tN "UNASSIGNED_STACK" steD = _ from u8).symm.trans y6)
  simp only [Prod.mk.injEq] at qU
  obtain rfl : stU = Tt.aS := by
    have z := L.statics
    rw [← qU.2.1, hek] at z
    exact Option.some.inj (u4.symm.trans z)
  have hU7 : cS.slots[Tt.fUnassigned.slot]? = some us := by rw [← qU.2.2.2]; exact u7
  have hneS : Tt.aS ≠ a := fun z => by
    rw [z] at u5
    cases hcell.symm.trans u5
    rw [hvm] at u6; cases u6
  have hknS : cS.vm ≠ .unknown := fun z => by rw [z] at u6; cases u6
  have hsel0 : selectMethod e.platform (s.setVm vm0).vm cell.cls Tt.fill0 = .method Tt.fill0 := by
    obtain ⟨c2, r2, m2, p1, p2, p3, p4, -⟩ := Cond.selects_spec (show (Cond.selects rc tFill0 tFill0).holds args (s.setVm vm0) none (s.setVm vm0) [] = true from w _ (List.mem_of_getElem? (i := 27) rfl))
    cases Option.some.inj (p1.symm.trans hfc)
    cases Option.some.inj (p2.symm.trans (State.methodFound?_of_named y3 (by decide)))
    cases Option.some.inj (p3.symm.trans y3)
    rw [Launch.admits_selectMethod X.admits]; exact p4
  have hSE : (Cond.selects rc tFill tFill).before args (s.setVm vm0) = true := (show (Cond.selects rc tFill tFill).holds args (s.setVm vm0) none (s.setVm vm0) [] = true from w _ (List.mem_of_getElem? (i := 26) rfl))
  have hFill := Jvm.Free.Str.fillPays (l := l) (R := R) (p := p) (e := e) (below := below) (s := s.setVm vm0) (sargs := args) (len := 3) (W := Wd) hh.2.1 (HT e X.admits) Tt L y2 (u0 := ⟨us, hus⟩) hun (self := a) (cell := cell) (cellS := cS) (fun _ => by rw [hvm]; simp) (by rw [hvm]; simp) (by rw [hmon]) (by rw [hmon]) hvS hsel0 hneS hknS hU7 (tk tyS (by rw [y5]; exact fits_refV_array _ ⟨us, hus⟩))
      ⟨{ ci198 := ci198, i198 := i198, fBack := fB }, ⟨hk198, hg198, ha198, hsB⟩, hbn⟩ (Vm.MethodsKnown.alikeC hS.1.1.alike hKn.1) (Vm.FramesKnown.alikeC hS.1.1.alike hKn.2) y1 hO hkO hkindO hfb hfd (fun x => tk tyB (by rw [htB]; rfl)) (fun x => tk tyD (by rw [htD]; rfl)) (by omega) (by omega)
  obtain ⟨v6, vm6, ⟨T6, L6, c6, n6⟩, hW6, X6, ⟨hv6, vm7, lines, hln, hW7, hU6, hL6, hc6, hn6⟩, come⟩ := X.virtualBack hh.2.1 (own := tN) (C := rc) (index := 27) (y := tFill) (z := tFill) hown (show (Cond.methodLink tN 27 tFill).holds args (s.setVm vm0) none (s.setVm vm0) [] = true from w _ (List.mem_of_getElem? (i := 9) rfl)) (show (Cond.declares tFill).holds args (s.setVm vm0) none (s.setVm vm0) [] = true from w _ (List.mem_of_getElem? (i := 25) rfl)) (notFace_of_selects hSE) hSE (show (Cond.instanceMethod tFill).holds args (s.setVm vm0) none (s.setVm vm0) [] = true from w _ (List.mem_of_getElem? (i := 2) rfl)) (by decide) hFill
    (b := a) (cB := cell.cls) hfc ⟨cell, by rw [eT]; exact hcell, rfl, by rw [hvm]; rfl⟩ (g := mkF m pc Ls (.ref a :: st)) rfl (hsz.trans hh.2.2.2.1.symm) (Steps.refl _) (argsL := []) (rest := st)
    (fun sig hq => by rw [show parseMethodDescriptor tFill.desc = some ⟨[], some (.object tN)⟩ from by decide +kernel] at hq; rw [← Option.some.inj hq]; rfl) rfl (by show 2 * 0 + _ ≤ _; omega) (hb hh.2.2.1 hd)
    (fun vmx hWx => ⟨rfl, hc, hl, by show T.heap[a]? = _; rw [eT]; exact hcell, by show T.heap[Tt.aS]? = _; rw [eT]; exact u5⟩)
  dsimp only [Pt.U, Pt.locs, Pt.cells, Pt.slots] at X6 hU6 hL6 hc6 hn6 come
  subst hv6 hL6 hc6 hn6
  have hlt : @LT.lt Nat instLTNat a h.size := (Array.getElem?_eq_some_iff.mp hcell).1
  obtain ⟨C', eh, g1, g2, g3⟩ : ∃ C' : Cell, T6.heap = (h.push (traceHolder cO lines)).setIfInBounds a C' ∧ C'.cls = cell.cls ∧ C'.vm = cell.vm ∧ C'.slots.size = cell.slots.size := ⟨Jvm.Free.Str.filledOn Tt.toThrowableT fB fD cell ⟨us, hus⟩ (T.setVm vm6).heap.size lines.length.toInt32, by rw [hU6, ← eT]; rfl, rfl, rfl, by simp [Jvm.Free.Str.filledOn, Cell.setSlot]⟩
  have K : Keep h T6.heap [a] := by
    rw [eh]
    refine ⟨by simp [Array.size_push], fun x cx hx hn => ?_, fun x cx hx => ?_⟩
    · have z : a ≠ x := fun z => hn (by rw [z]; exact List.mem_singleton.mpr rfl)
      rw [Array.getElem?_setIfInBounds_ne z]; exact push_at hx
    · by_cases z : a = x
      · subst z
        cases hcell.symm.trans hx
        exact ⟨C', by simp [Array.getElem?_setIfInBounds, Array.size_push, Nat.lt_succ_of_lt hlt], g1, g2, g3⟩
      · exact ⟨cx, by rw [Array.getElem?_setIfInBounds_ne z]; exact push_at hx, rfl, rfl, rfl⟩
  have Ch : CHr Z EL vm0 h vm0 T6.heap := CHr.keep K (fun x hx => by cases List.mem_singleton.mp hx; exact M.2.2) C.1
  subst hp
  exact Go.up (fun t q => come.trans q) (k T6 T6.heap ⟨⟨k0, _, X6.more (Nat.le_refl _) (Nat.add_le_add_left (traceHolder_size_le cO hln) _), hS, Nat.le_trans hk Ch.2.1, N.app (fun y hy => by simp only [List.mem_cons, List.not_mem_nil, or_false] at hy; rcases hy with rfl | rfl | rfl <;> exact M.1)⟩, ⟨rfl, hZ, hown, C.trans Ch⟩, hh⟩ K Ch)
end
end Jvm.OwnK
namespace Jvm.Pilot.@@N@@
open Jvm Jvm.ClassFile Sem Op Lib Jvm.Free Jvm.Stand Jvm.LawKit Jvm.RoadKit Bundle Jvm.OwnK Jvm.Pilot.@@N@@.Jvm.D
abbrev Hw (Z : State) (a0 : Array Value) : Prop := ∀ d ∈ tables_1, d.before a0 Z = true
theorem w0 {Z : State} {a0 : Array Value} (hw : Hw Z a0) : (Jvm.Cond.arrayClass Jvm.ClassFile.FieldType.long).before a0 Z = true := hw _ (List.mem_of_getElem? (i := 0) rfl)
theorem w1 {Z : State} {a0 : Array Value} (hw : Hw Z a0) : (Jvm.Cond.constantLong "com/example/nerai/nerai/crawler/MalformedFileExceptionAtLinePinLaw" (16 : Nat) (10 : Int64)).before a0 Z = true := hw _ (List.mem_of_getElem? (i := 1) rfl)
theorem w2 {Z : State} {a0 : Array Value} (hw : Hw Z a0) : (Jvm.Cond.constantLong "com/example/nerai/nerai/crawler/MalformedFileExceptionAtLinePinLaw" (18 : Nat) (100 : Int64)).before a0 Z = true := hw _ (List.mem_of_getElem? (i := 2) rfl)
theorem w3 {Z : State} {a0 : Array Value} (hw : Hw Z a0) : (Jvm.Cond.constantLong "com/example/nerai/nerai/crawler/MalformedFileExceptionAtLinePinLaw" (20 : Nat) (1000 : Int64)).before a0 Z = true := hw _ (List.mem_of_getElem? (i := 3) rfl)
theorem w4 {Z : State} {a0 : Array Value} (hw : Hw Z a0) : (Jvm.Cond.constantLong "com/example/nerai/nerai/crawler/MalformedFileExceptionAtLinePinLaw" (22 : Nat) (10000 : Int64)).before a0 Z = true := hw _ (List.mem_of_getElem? (i := 4) rfl)
theorem w5 {Z : State} {a0 : Array Value} (hw : Hw Z a0) : (Jvm.Cond.constantLong "com/example/nerai/nerai/crawler/MalformedFileExceptionAtLinePinLaw" (24 : Nat) (100000 : Int64)).before a0 Z = true := hw _ (List.mem_of_getElem? (i := 5) rfl)
theorem w6 {Z : State} {a0 : Array Value} (hw : Hw Z a0) : (Jvm.Cond.constantLong "com/example/nerai/nerai/crawler/MalformedFileExceptionAtLinePinLaw" (26 : Nat) (1000000 : Int64)).before a0 Z = true := hw _ (List.mem_of_getElem? (i := 6) rfl)
theorem w7 {Z : State} {a0 : Array Value} (hw : Hw Z a0) : (Jvm.Cond.constantLong "com/example/nerai/nerai/crawler/MalformedFileExceptionAtLinePinLaw" (28 : Nat) (10000000 : Int64)).before a0 Z = true := hw _ (List.mem_of_getElem? (i := 7) rfl)
theorem w8 {Z : State} {a0 : Array Value} (hw : Hw Z a0) : (Jvm.Cond.constantLong "com/example/nerai/nerai/crawler/MalformedFileExceptionAtLinePinLaw" (30 : Nat) (100000000 : Int64)).before a0 Z = true := hw _ (List.mem_of_getElem? (i := 8) rfl)
theorem w9 {Z : State} {a0 : Array Value} (hw : Hw Z a0) : (Jvm.Cond.constantLong "com/example/nerai/nerai/crawler/MalformedFileExceptionAtLinePinLaw" (32 : Nat) (1000000000 : Int64)).before a0 Z = true := hw _ (List.mem_of_getElem? (i := 9) rfl)
theorem w10 {Z : State} {a0 : Array Value} (hw : Hw Z a0) : (Jvm.Cond.constantLong "com/example/nerai/nerai/crawler/MalformedFileExceptionAtLinePinLaw" (34 : Nat) (10000000000 : Int64)).before a0 Z = true := hw _ (List.mem_of_getElem? (i := 10) rfl)
theorem w11 {Z : State} {a0 : Array Value} (hw : Hw Z a0) : (Jvm.Cond.constantLong "com/example/nerai/nerai/crawler/MalformedFileExceptionAtLinePinLaw" (36 : Nat) (100000000000 : Int64)).before a0 Z = true := hw _ (List.mem_of_getElem? (i := 11) rfl)
theorem w12 {Z : State} {a0 : Array Value} (hw : Hw Z a0) : (Jvm.Cond.constantLong "com/example/nerai/nerai/crawler/MalformedFileExceptionAtLinePinLaw" (38 : Nat) (1000000000000 : Int64)).before a0 Z = true := hw _ (List.mem_of_getElem? (i := 12) rfl)
theorem w13 {Z : State} {a0 : Array Value} (hw : Hw Z a0) : (Jvm.Cond.constantLong "com/example/nerai/nerai/crawler/MalformedFileExceptionAtLinePinLaw" (40 : Nat) (10000000000000 : Int64)).before a0 Z = true := hw _ (List.mem_of_getElem? (i := 13) rfl)
theorem w14 {Z : State} {a0 : Array Value} (hw : Hw Z a0) : (Jvm.Cond.constantLong "com/example/nerai/nerai/crawler/MalformedFileExceptionAtLinePinLaw" (42 : Nat) (100000000000000 : Int64)).before a0 Z = true := hw _ (List.mem_of_getElem? (i := 14) rfl)
theorem w15 {Z : State} {a0 : Array Value} (hw : Hw Z a0) : (Jvm.Cond.constantLong "com/example/nerai/nerai/crawler/MalformedFileExceptionAtLinePinLaw" (44 : Nat) (1000000000000000 : Int64)).before a0 Z = true := hw _ (List.mem_of_getElem? (i := 15) rfl)
theorem w16 {Z : State} {a0 : Array Value} (hw : Hw Z a0) : (Jvm.Cond.constantLong "com/example/nerai/nerai/crawler/MalformedFileExceptionAtLinePinLaw" (46 : Nat) (10000000000000000 : Int64)).before a0 Z = true := hw _ (List.mem_of_getElem? (i := 16) rfl)
theorem w17 {Z : State} {a0 : Array Value} (hw : Hw Z a0) : (Jvm.Cond.constantLong "com/example/nerai/nerai/crawler/MalformedFileExceptionAtLinePinLaw" (48 : Nat) (100000000000000000 : Int64)).before a0 Z = true := hw _ (List.mem_of_getElem? (i := 17) rfl)
theorem w18 {Z : State} {a0 : Array Value} (hw : Hw Z a0) : (Jvm.Cond.constantLong "com/example/nerai/nerai/crawler/MalformedFileExceptionAtLinePinLaw" (50 : Nat) (1000000000000000000 : Int64)).before a0 Z = true := hw _ (List.mem_of_getElem? (i := 18) rfl)
theorem w19 {Z : State} {a0 : Array Value} (hw : Hw Z a0) : (Jvm.Cond.methodLink "com/example/nerai/nerai/crawler/MalformedFileExceptionAtLinePinLaw" (52 : Nat) ({ cls := "com/example/nerai/nerai/crawler/MalformedFileExceptionAtLinePinLaw", name := "problemOf", desc := "(ICCC)Ljava/lang/String;" } : Jvm.MethodName)).before a0 Z = true := hw _ (List.mem_of_getElem? (i := 19) rfl)
theorem w20 {Z : State} {a0 : Array Value} (hw : Hw Z a0) : (Jvm.Cond.static ({ cls := "com/example/nerai/nerai/crawler/MalformedFileExceptionAtLinePinLaw", name := "problemOf", desc := "(ICCC)Ljava/lang/String;" } : Jvm.MethodName)).before a0 Z = true := hw _ (List.mem_of_getElem? (i := 20) rfl)
theorem w21 {Z : State} {a0 : Array Value} (hw : Hw Z a0) : (Jvm.Cond.initialized "com/example/nerai/nerai/crawler/MalformedFileExceptionAtLinePinLaw").before a0 Z = true := hw _ (List.mem_of_getElem? (i := 21) rfl)
theorem w22 {Z : State} {a0 : Array Value} (hw : Hw Z a0) : (Jvm.Cond.code ({ cls := "com/example/nerai/nerai/crawler/MalformedFileExceptionAtLinePinLaw", name := "problemOf", desc := "(ICCC)Ljava/lang/String;" } : Jvm.MethodName) method_2_code (4 : Nat) (Option.some (Jvm.ClassFile.FieldType.object "java/lang/String"))).before a0 Z = true := hw _ (List.mem_of_getElem? (i := 22) rfl)
theorem w23 {Z : State} {a0 : Array Value} (hw : Hw Z a0) : (Jvm.Cond.classLink "com/example/nerai/nerai/crawler/MalformedFileExceptionAtLinePinLaw" (7 : Nat) "java/lang/String").before a0 Z = true := hw _ (List.mem_of_getElem? (i := 23) rfl)
theorem w24 {Z : State} {a0 : Array Value} (hw : Hw Z a0) : (Jvm.Cond.instantiable "java/lang/String" (4 : Nat)).before a0 Z = true := hw _ (List.mem_of_getElem? (i := 24) rfl)
theorem w25 {Z : State} {a0 : Array Value} (hw : Hw Z a0) : (Jvm.Cond.initialized "java/lang/String").before a0 Z = true := hw _ (List.mem_of_getElem? (i := 25) rfl)
theorem w26 {Z : State} {a0 : Array Value} (hw : Hw Z a0) : (Jvm.Cond.arrayClass Jvm.ClassFile.FieldType.char).before a0 Z = true := hw _ (List.mem_of_getElem? (i := 26) rfl)
theorem w27 {Z : State} {a0 : Array Value} (hw : Hw Z a0) : (Jvm.Cond.methodLink "com/example/nerai/nerai/crawler/MalformedFileExceptionAtLinePinLaw" (9 : Nat) ({ cls := "java/lang/String", name := "<init>", desc := "([C)V" } : Jvm.MethodName)).before a0 Z = true := hw _ (List.mem_of_getElem? (i := 27) rfl)
theorem w28 {Z : State} {a0 : Array Value} (hw : Hw Z a0) : (Jvm.Cond.instanceMethod ({ cls := "java/lang/String", name := "<init>", desc := "([C)V" } : Jvm.MethodName)).before a0 Z = true := hw _ (List.mem_of_getElem? (i := 28) rfl)
theorem w29 {Z : State} {a0 : Array Value} (hw : Hw Z a0) : (Jvm.Cond.code ({ cls := "java/lang/String", name := "<init>", desc := "([C)V" } : Jvm.MethodName) jdk_42_method_3_code (2 : Nat) (Option.none : Option Jvm.ClassFile.FieldType)).before a0 Z = true := hw _ (List.mem_of_getElem? (i := 29) rfl)
theorem w30 {Z : State} {a0 : Array Value} (hw : Hw Z a0) : (Jvm.Cond.methodLink "java/lang/String" (27 : Nat) ({ cls := "java/lang/String", name := "<init>", desc := "([CIILjava/lang/Void;)V" } : Jvm.MethodName)).before a0 Z = true := hw _ (List.mem_of_getElem? (i := 30) rfl)
theorem w31 {Z : State} {a0 : Array Value} (hw : Hw Z a0) : (Jvm.Cond.instanceMethod ({ cls := "java/lang/String", name := "<init>", desc := "([CIILjava/lang/Void;)V" } : Jvm.MethodName)).before a0 Z = true := hw _ (List.mem_of_getElem? (i := 31) rfl)
theorem w33 {Z : State} {a0 : Array Value} (hw : Hw Z a0) : (Jvm.Cond.code ({ cls := "java/lang/String", name := "<init>", desc := "([CIILjava/lang/Void;)V" } : Jvm.MethodName) jdk_42_method_149_code (6 : Nat) (Option.none : Option Jvm.ClassFile.FieldType)).before a0 Z = true := hw _ (List.mem_of_getElem? (i := 33) rfl)
theorem w34 {Z : State} {a0 : Array Value} (hw : Hw Z a0) : (Jvm.Cond.methodLink "java/lang/String" (1 : Nat) ({ cls := "java/lang/Object", name := "<init>", desc := "()V" } : Jvm.MethodName)).before a0 Z = true := hw _ (List.mem_of_getElem? (i := 34) rfl)
theorem w35 {Z : State} {a0 : Array Value} (hw : Hw Z a0) : (Jvm.Cond.instanceMethod ({ cls := "java/lang/Object", name := "<init>", desc := "()V" } : Jvm.MethodName)).before a0 Z = true := hw _ (List.mem_of_getElem? (i := 35) rfl)
theorem w36 {Z : State} {a0 : Array Value} (hw : Hw Z a0) : (Jvm.Cond.code ({ cls := "java/lang/Object", name := "<init>", desc := "()V" } : Jvm.MethodName) object_method_1_code (1 : Nat) (Option.none : Option Jvm.ClassFile.FieldType)).before a0 Z = true := hw _ (List.mem_of_getElem? (i := 36) rfl)
theorem w37 {Z : State} {a0 : Array Value} (hw : Hw Z a0) : (Jvm.Cond.stringLink "java/lang/String" (7 : Nat) "").before a0 Z = true := hw _ (List.mem_of_getElem? (i := 37) rfl)
theorem w38 {Z : State} {a0 : Array Value} (hw : Hw Z a0) : (Jvm.Cond.arrayClass Jvm.ClassFile.FieldType.byte).before a0 Z = true := hw _ (List.mem_of_getElem? (i := 38) rfl)
theorem w39 {Z : State} {a0 : Array Value} (hw : Hw Z a0) : (Jvm.Cond.laysFinal "java/lang/String" "java/lang/String" "value" "[B").before a0 Z = true := hw _ (List.mem_of_getElem? (i := 39) rfl)
theorem w40 {Z : State} {a0 : Array Value} (hw : Hw Z a0) : (Jvm.Cond.laysFinal "java/lang/String" "java/lang/String" "coder" "B").before a0 Z = true := hw _ (List.mem_of_getElem? (i := 40) rfl)
theorem w41 {Z : State} {a0 : Array Value} (hw : Hw Z a0) : (Jvm.Cond.soleField "java/lang/String" "value").before a0 Z = true := hw _ (List.mem_of_getElem? (i := 41) rfl)
theorem w42 {Z : State} {a0 : Array Value} (hw : Hw Z a0) : (Jvm.Cond.soleField "java/lang/String" "coder").before a0 Z = true := hw _ (List.mem_of_getElem? (i := 42) rfl)
theorem w43 {Z : State} {a0 : Array Value} (hw : Hw Z a0) : (Jvm.Cond.fieldLink "java/lang/String" (9 : Nat) "java/lang/String" "value" "[B").before a0 Z = true := hw _ (List.mem_of_getElem? (i := 43) rfl)
theorem w44 {Z : State} {a0 : Array Value} (hw : Hw Z a0) : (Jvm.Cond.fieldLink "java/lang/String" (15 : Nat) "java/lang/String" "coder" "B").before a0 Z = true := hw _ (List.mem_of_getElem? (i := 44) rfl)
theorem w45 {Z : State} {a0 : Array Value} (hw : Hw Z a0) : (Jvm.Cond.methodLink "com/example/nerai/nerai/crawler/MalformedFileExceptionAtLinePinLaw" (58 : Nat) ({ cls := "com/example/nerai/nerai/crawler/MalformedFileException", name := "atLine", desc := "(JLjava/lang/String;)Lcom/example/nerai/nerai/crawler/MalformedFileException;" } : Jvm.MethodName)).before a0 Z = true := hw _ (List.mem_of_getElem? (i := 45) rfl)
theorem w46 {Z : State} {a0 : Array Value} (hw : Hw Z a0) : (Jvm.Cond.static ({ cls := "com/example/nerai/nerai/crawler/MalformedFileException", name := "atLine", desc := "(JLjava/lang/String;)Lcom/example/nerai/nerai/crawler/MalformedFileException;" } : Jvm.MethodName)).before a0 Z = true := hw _ (List.mem_of_getElem? (i := 46) rfl)
theorem w47 {Z : State} {a0 : Array Value} (hw : Hw Z a0) : (Jvm.Cond.initialized "com/example/nerai/nerai/crawler/MalformedFileException").before a0 Z = true := hw _ (List.mem_of_getElem? (i := 47) rfl)
theorem w48 {Z : State} {a0 : Array Value} (hw : Hw Z a0) : (Jvm.Cond.code ({ cls := "com/example/nerai/nerai/crawler/MalformedFileException", name := "atLine", desc := "(JLjava/lang/String;)Lcom/example/nerai/nerai/crawler/MalformedFileException;" } : Jvm.MethodName) prog_11_method_2_code (3 : Nat) (Option.some (Jvm.ClassFile.FieldType.object "com/example/nerai/nerai/crawler/MalformedFileException"))).before a0 Z = true := hw _ (List.mem_of_getElem? (i := 48) rfl)
theorem w49 {Z : State} {a0 : Array Value} (hw : Hw Z a0) : (Jvm.Cond.classLink "com/example/nerai/nerai/crawler/MalformedFileException" (7 : Nat) "com/example/nerai/nerai/crawler/MalformedFileException").before a0 Z = true := hw _ (List.mem_of_getElem? (i := 49) rfl)
theorem w50 {Z : State} {a0 : Array Value} (hw : Hw Z a0) : (Jvm.Cond.instantiable "com/example/nerai/nerai/crawler/MalformedFileException" (6 : Nat)).before a0 Z = true := hw _ (List.mem_of_getElem? (i := 50) rfl)
theorem w51 {Z : State} {a0 : Array Value} (hw : Hw Z a0) : (Jvm.Cond.classLink "com/example/nerai/nerai/crawler/MalformedFileException" (9 : Nat) "java/lang/StringBuilder").before a0 Z = true := hw _ (List.mem_of_getElem? (i := 51) rfl)
theorem w52 {Z : State} {a0 : Array Value} (hw : Hw Z a0) : (Jvm.Cond.instantiable "java/lang/StringBuilder" (4 : Nat)).before a0 Z = true := hw _ (List.mem_of_getElem? (i := 52) rfl)
theorem w53 {Z : State} {a0 : Array Value} (hw : Hw Z a0) : (Jvm.Cond.initialized "java/lang/StringBuilder").before a0 Z = true := hw _ (List.mem_of_getElem? (i := 53) rfl)
theorem w54 {Z : State} {a0 : Array Value} (hw : Hw Z a0) : (Jvm.Cond.methodLink "com/example/nerai/nerai/crawler/MalformedFileException" (11 : Nat) ({ cls := "java/lang/StringBuilder", name := "<init>", desc := "()V" } : Jvm.MethodName)).before a0 Z = true := hw _ (List.mem_of_getElem? (i := 54) rfl)
theorem w55 {Z : State} {a0 : Array Value} (hw : Hw Z a0) : (Jvm.Cond.instanceMethod ({ cls := "java/lang/StringBuilder", name := "<init>", desc := "()V" } : Jvm.MethodName)).before a0 Z = true := hw _ (List.mem_of_getElem? (i := 55) rfl)
theorem w56 {Z : State} {a0 : Array Value} (hw : Hw Z a0) : (Jvm.Cond.code ({ cls := "java/lang/StringBuilder", name := "<init>", desc := "()V" } : Jvm.MethodName) jdk_67_method_1_code (1 : Nat) (Option.none : Option Jvm.ClassFile.FieldType)).before a0 Z = true := hw _ (List.mem_of_getElem? (i := 56) rfl)
theorem w57 {Z : State} {a0 : Array Value} (hw : Hw Z a0) : (Jvm.Cond.methodLink "java/lang/StringBuilder" (1 : Nat) ({ cls := "java/lang/AbstractStringBuilder", name := "<init>", desc := "(I)V" } : Jvm.MethodName)).before a0 Z = true := hw _ (List.mem_of_getElem? (i := 57) rfl)
theorem w58 {Z : State} {a0 : Array Value} (hw : Hw Z a0) : (Jvm.Cond.instanceMethod ({ cls := "java/lang/AbstractStringBuilder", name := "<init>", desc := "(I)V" } : Jvm.MethodName)).before a0 Z = true := hw _ (List.mem_of_getElem? (i := 58) rfl)
theorem w60 {Z : State} {a0 : Array Value} (hw : Hw Z a0) : (Jvm.Cond.castable "java/lang/StringBuilder" "java/lang/AbstractStringBuilder").before a0 Z = true := hw _ (List.mem_of_getElem? (i := 60) rfl)
theorem w61 {Z : State} {a0 : Array Value} (hw : Hw Z a0) : (Jvm.Cond.initialized "java/lang/AbstractStringBuilder").before a0 Z = true := hw _ (List.mem_of_getElem? (i := 61) rfl)
theorem w62 {Z : State} {a0 : Array Value} (hw : Hw Z a0) : (Jvm.Cond.code ({ cls := "java/lang/AbstractStringBuilder", name := "<init>", desc := "(I)V" } : Jvm.MethodName) jdk_68_method_2_code (2 : Nat) (Option.none : Option Jvm.ClassFile.FieldType)).before a0 Z = true := hw _ (List.mem_of_getElem? (i := 62) rfl)
theorem w63 {Z : State} {a0 : Array Value} (hw : Hw Z a0) : (Jvm.Cond.methodLink "java/lang/AbstractStringBuilder" (3 : Nat) ({ cls := "java/lang/Object", name := "<init>", desc := "()V" } : Jvm.MethodName)).before a0 Z = true := hw _ (List.mem_of_getElem? (i := 63) rfl)
theorem w64 {Z : State} {a0 : Array Value} (hw : Hw Z a0) : (Jvm.Cond.fieldLink "java/lang/AbstractStringBuilder" (18 : Nat) "java/lang/String" "COMPACT_STRINGS" "Z").before a0 Z = true := hw _ (List.mem_of_getElem? (i := 64) rfl)
theorem w65 {Z : State} {a0 : Array Value} (hw : Hw Z a0) : (Jvm.Cond.fieldLink "java/lang/AbstractStringBuilder" (15 : Nat) "java/lang/AbstractStringBuilder" "value" "[B").before a0 Z = true := hw _ (List.mem_of_getElem? (i := 65) rfl)
theorem w66 {Z : State} {a0 : Array Value} (hw : Hw Z a0) : (Jvm.Cond.lays "java/lang/StringBuilder" "java/lang/AbstractStringBuilder" "value" "[B").before a0 Z = true := hw _ (List.mem_of_getElem? (i := 66) rfl)
theorem w67 {Z : State} {a0 : Array Value} (hw : Hw Z a0) : (Jvm.Cond.fieldLink "java/lang/AbstractStringBuilder" (22 : Nat) "java/lang/AbstractStringBuilder" "coder" "B").before a0 Z = true := hw _ (List.mem_of_getElem? (i := 67) rfl)
theorem w68 {Z : State} {a0 : Array Value} (hw : Hw Z a0) : (Jvm.Cond.lays "java/lang/StringBuilder" "java/lang/AbstractStringBuilder" "coder" "B").before a0 Z = true := hw _ (List.mem_of_getElem? (i := 68) rfl)
theorem w69 {Z : State} {a0 : Array Value} (hw : Hw Z a0) : (Jvm.Cond.stringLink "com/example/nerai/nerai/crawler/MalformedFileException" (14 : Nat) "line ").before a0 Z = true := hw _ (List.mem_of_getElem? (i := 69) rfl)
theorem w70 {Z : State} {a0 : Array Value} (hw : Hw Z a0) : (Jvm.Cond.methodLink "com/example/nerai/nerai/crawler/MalformedFileException" (16 : Nat) ({ cls := "java/lang/StringBuilder", name := "append", desc := "(Ljava/lang/String;)Ljava/lang/StringBuilder;" } : Jvm.MethodName)).before a0 Z = true := hw _ (List.mem_of_getElem? (i := 70) rfl)
theorem w71 {Z : State} {a0 : Array Value} (hw : Hw Z a0) : (Jvm.Cond.declares ({ cls := "java/lang/StringBuilder", name := "append", desc := "(Ljava/lang/String;)Ljava/lang/StringBuilder;" } : Jvm.MethodName)).before a0 Z = true := hw _ (List.mem_of_getElem? (i := 71) rfl)
theorem w72 {Z : State} {a0 : Array Value} (hw : Hw Z a0) : (Jvm.Cond.instanceMethod ({ cls := "java/lang/StringBuilder", name := "append", desc := "(Ljava/lang/String;)Ljava/lang/StringBuilder;" } : Jvm.MethodName)).before a0 Z = true := hw _ (List.mem_of_getElem? (i := 72) rfl)
theorem w73 {Z : State} {a0 : Array Value} (hw : Hw Z a0) : (Jvm.Cond.selects "java/lang/StringBuilder" ({ cls := "java/lang/StringBuilder", name := "append", desc := "(Ljava/lang/String;)Ljava/lang/StringBuilder;" } : Jvm.MethodName) ({ cls := "java/lang/StringBuilder", name := "append", desc := "(Ljava/lang/String;)Ljava/lang/StringBuilder;" } : Jvm.MethodName)).before a0 Z = true := hw _ (List.mem_of_getElem? (i := 73) rfl)
theorem w74 {Z : State} {a0 : Array Value} (hw : Hw Z a0) : (Jvm.Cond.code ({ cls := "java/lang/StringBuilder", name := "append", desc := "(Ljava/lang/String;)Ljava/lang/StringBuilder;" } : Jvm.MethodName) jdk_67_method_7_code (2 : Nat) (Option.some (Jvm.ClassFile.FieldType.object "java/lang/StringBuilder"))).before a0 Z = true := hw _ (List.mem_of_getElem? (i := 74) rfl)
theorem w75 {Z : State} {a0 : Array Value} (hw : Hw Z a0) : (Jvm.Cond.methodLink "java/lang/StringBuilder" (29 : Nat) ({ cls := "java/lang/AbstractStringBuilder", name := "append", desc := "(Ljava/lang/String;)Ljava/lang/AbstractStringBuilder;" } : Jvm.MethodName)).before a0 Z = true := hw _ (List.mem_of_getElem? (i := 75) rfl)
theorem w76 {Z : State} {a0 : Array Value} (hw : Hw Z a0) : (Jvm.Cond.instanceMethod ({ cls := "java/lang/AbstractStringBuilder", name := "append", desc := "(Ljava/lang/String;)Ljava/lang/AbstractStringBuilder;" } : Jvm.MethodName)).before a0 Z = true := hw _ (List.mem_of_getElem? (i := 76) rfl)
theorem w77 {Z : State} {a0 : Array Value} (hw : Hw Z a0) : (Jvm.Cond.superclass "java/lang/StringBuilder" "java/lang/AbstractStringBuilder").before a0 Z = true := hw _ (List.mem_of_getElem? (i := 77) rfl)
theorem w79 {Z : State} {a0 : Array Value} (hw : Hw Z a0) : (Jvm.Cond.code ({ cls := "java/lang/AbstractStringBuilder", name := "append", desc := "(Ljava/lang/String;)Ljava/lang/AbstractStringBuilder;" } : Jvm.MethodName) jdk_68_method_22_code (3 : Nat) (Option.some (Jvm.ClassFile.FieldType.object "java/lang/AbstractStringBuilder"))).before a0 Z = true := hw _ (List.mem_of_getElem? (i := 79) rfl)
theorem w80 {Z : State} {a0 : Array Value} (hw : Hw Z a0) : (Jvm.Cond.methodLink "java/lang/AbstractStringBuilder" (32 : Nat) ({ cls := "java/lang/String", name := "length", desc := "()I" } : Jvm.MethodName)).before a0 Z = true := hw _ (List.mem_of_getElem? (i := 80) rfl)
theorem w81 {Z : State} {a0 : Array Value} (hw : Hw Z a0) : (Jvm.Cond.declares ({ cls := "java/lang/String", name := "length", desc := "()I" } : Jvm.MethodName)).before a0 Z = true := hw _ (List.mem_of_getElem? (i := 81) rfl)
theorem w82 {Z : State} {a0 : Array Value} (hw : Hw Z a0) : (Jvm.Cond.instanceMethod ({ cls := "java/lang/String", name := "length", desc := "()I" } : Jvm.MethodName)).before a0 Z = true := hw _ (List.mem_of_getElem? (i := 82) rfl)
theorem w83 {Z : State} {a0 : Array Value} (hw : Hw Z a0) : (Jvm.Cond.selects "java/lang/String" ({ cls := "java/lang/String", name := "length", desc := "()I" } : Jvm.MethodName) ({ cls := "java/lang/String", name := "length", desc := "()I" } : Jvm.MethodName)).before a0 Z = true := hw _ (List.mem_of_getElem? (i := 83) rfl)
theorem w84 {Z : State} {a0 : Array Value} (hw : Hw Z a0) : (Jvm.Cond.code ({ cls := "java/lang/String", name := "length", desc := "()I" } : Jvm.MethodName) jdk_42_method_54_code (1 : Nat) (Option.some Jvm.ClassFile.FieldType.int)).before a0 Z = true := hw _ (List.mem_of_getElem? (i := 84) rfl)
theorem w85 {Z : State} {a0 : Array Value} (hw : Hw Z a0) : (Jvm.Cond.methodLink "java/lang/String" (335 : Nat) ({ cls := "java/lang/String", name := "coder", desc := "()B" } : Jvm.MethodName)).before a0 Z = true := hw _ (List.mem_of_getElem? (i := 85) rfl)
theorem w86 {Z : State} {a0 : Array Value} (hw : Hw Z a0) : (Jvm.Cond.declares ({ cls := "java/lang/String", name := "coder", desc := "()B" } : Jvm.MethodName)).before a0 Z = true := hw _ (List.mem_of_getElem? (i := 86) rfl)
theorem w87 {Z : State} {a0 : Array Value} (hw : Hw Z a0) : (Jvm.Cond.instanceMethod ({ cls := "java/lang/String", name := "coder", desc := "()B" } : Jvm.MethodName)).before a0 Z = true := hw _ (List.mem_of_getElem? (i := 87) rfl)
theorem w88 {Z : State} {a0 : Array Value} (hw : Hw Z a0) : (Jvm.Cond.selects "java/lang/String" ({ cls := "java/lang/String", name := "coder", desc := "()B" } : Jvm.MethodName) ({ cls := "java/lang/String", name := "coder", desc := "()B" } : Jvm.MethodName)).before a0 Z = true := hw _ (List.mem_of_getElem? (i := 88) rfl)
theorem w89 {Z : State} {a0 : Array Value} (hw : Hw Z a0) : (Jvm.Cond.code ({ cls := "java/lang/String", name := "coder", desc := "()B" } : Jvm.MethodName) jdk_42_method_152_code (1 : Nat) (Option.some Jvm.ClassFile.FieldType.byte)).before a0 Z = true := hw _ (List.mem_of_getElem? (i := 89) rfl)
theorem w90 {Z : State} {a0 : Array Value} (hw : Hw Z a0) : (Jvm.Cond.fieldLink "java/lang/String" (38 : Nat) "java/lang/String" "COMPACT_STRINGS" "Z").before a0 Z = true := hw _ (List.mem_of_getElem? (i := 90) rfl)
theorem w91 {Z : State} {a0 : Array Value} (hw : Hw Z a0) : (Jvm.Cond.fieldLink "java/lang/AbstractStringBuilder" (79 : Nat) "java/lang/AbstractStringBuilder" "count" "I").before a0 Z = true := hw _ (List.mem_of_getElem? (i := 91) rfl)
theorem w92 {Z : State} {a0 : Array Value} (hw : Hw Z a0) : (Jvm.Cond.lays "java/lang/StringBuilder" "java/lang/AbstractStringBuilder" "count" "I").before a0 Z = true := hw _ (List.mem_of_getElem? (i := 92) rfl)
theorem w93 {Z : State} {a0 : Array Value} (hw : Hw Z a0) : (Jvm.Cond.methodLink "java/lang/AbstractStringBuilder" (100 : Nat) ({ cls := "java/lang/AbstractStringBuilder", name := "ensureCapacityInternal", desc := "(I)V" } : Jvm.MethodName)).before a0 Z = true := hw _ (List.mem_of_getElem? (i := 93) rfl)
theorem w94 {Z : State} {a0 : Array Value} (hw : Hw Z a0) : (Jvm.Cond.instanceMethod ({ cls := "java/lang/AbstractStringBuilder", name := "ensureCapacityInternal", desc := "(I)V" } : Jvm.MethodName)).before a0 Z = true := hw _ (List.mem_of_getElem? (i := 94) rfl)
theorem w96 {Z : State} {a0 : Array Value} (hw : Hw Z a0) : (Jvm.Cond.selects "java/lang/StringBuilder" ({ cls := "java/lang/AbstractStringBuilder", name := "ensureCapacityInternal", desc := "(I)V" } : Jvm.MethodName) ({ cls := "java/lang/AbstractStringBuilder", name := "ensureCapacityInternal", desc := "(I)V" } : Jvm.MethodName)).before a0 Z = true := hw _ (List.mem_of_getElem? (i := 96) rfl)
theorem w97 {Z : State} {a0 : Array Value} (hw : Hw Z a0) : (Jvm.Cond.code ({ cls := "java/lang/AbstractStringBuilder", name := "ensureCapacityInternal", desc := "(I)V" } : Jvm.MethodName) jdk_68_method_9_code (3 : Nat) (Option.none : Option Jvm.ClassFile.FieldType)).before a0 Z = true := hw _ (List.mem_of_getElem? (i := 97) rfl)
theorem w98 {Z : State} {a0 : Array Value} (hw : Hw Z a0) : (Jvm.Cond.methodLink "java/lang/AbstractStringBuilder" (208 : Nat) ({ cls := "java/lang/AbstractStringBuilder", name := "putStringAt", desc := "(ILjava/lang/String;)V" } : Jvm.MethodName)).before a0 Z = true := hw _ (List.mem_of_getElem? (i := 98) rfl)
theorem w99 {Z : State} {a0 : Array Value} (hw : Hw Z a0) : (Jvm.Cond.instanceMethod ({ cls := "java/lang/AbstractStringBuilder", name := "putStringAt", desc := "(ILjava/lang/String;)V" } : Jvm.MethodName)).before a0 Z = true := hw _ (List.mem_of_getElem? (i := 99) rfl)
theorem w101 {Z : State} {a0 : Array Value} (hw : Hw Z a0) : (Jvm.Cond.selects "java/lang/StringBuilder" ({ cls := "java/lang/AbstractStringBuilder", name := "putStringAt", desc := "(ILjava/lang/String;)V" } : Jvm.MethodName) ({ cls := "java/lang/AbstractStringBuilder", name := "putStringAt", desc := "(ILjava/lang/String;)V" } : Jvm.MethodName)).before a0 Z = true := hw _ (List.mem_of_getElem? (i := 101) rfl)
theorem w102 {Z : State} {a0 : Array Value} (hw : Hw Z a0) : (Jvm.Cond.code ({ cls := "java/lang/AbstractStringBuilder", name := "putStringAt", desc := "(ILjava/lang/String;)V" } : Jvm.MethodName) jdk_68_method_73_code (3 : Nat) (Option.none : Option Jvm.ClassFile.FieldType)).before a0 Z = true := hw _ (List.mem_of_getElem? (i := 102) rfl)
theorem w103 {Z : State} {a0 : Array Value} (hw : Hw Z a0) : (Jvm.Cond.methodLink "java/lang/AbstractStringBuilder" (397 : Nat) ({ cls := "java/lang/AbstractStringBuilder", name := "inflateIfNeededFor", desc := "(Ljava/lang/String;)V" } : Jvm.MethodName)).before a0 Z = true := hw _ (List.mem_of_getElem? (i := 103) rfl)
theorem w104 {Z : State} {a0 : Array Value} (hw : Hw Z a0) : (Jvm.Cond.instanceMethod ({ cls := "java/lang/AbstractStringBuilder", name := "inflateIfNeededFor", desc := "(Ljava/lang/String;)V" } : Jvm.MethodName)).before a0 Z = true := hw _ (List.mem_of_getElem? (i := 104) rfl)
theorem w106 {Z : State} {a0 : Array Value} (hw : Hw Z a0) : (Jvm.Cond.selects "java/lang/StringBuilder" ({ cls := "java/lang/AbstractStringBuilder", name := "inflateIfNeededFor", desc := "(Ljava/lang/String;)V" } : Jvm.MethodName) ({ cls := "java/lang/AbstractStringBuilder", name := "inflateIfNeededFor", desc := "(Ljava/lang/String;)V" } : Jvm.MethodName)).before a0 Z = true := hw _ (List.mem_of_getElem? (i := 106) rfl)
theorem w107 {Z : State} {a0 : Array Value} (hw : Hw Z a0) : (Jvm.Cond.code ({ cls := "java/lang/AbstractStringBuilder", name := "inflateIfNeededFor", desc := "(Ljava/lang/String;)V" } : Jvm.MethodName) jdk_68_method_71_code (2 : Nat) (Option.none : Option Jvm.ClassFile.FieldType)).before a0 Z = true := hw _ (List.mem_of_getElem? (i := 107) rfl)
theorem w108 {Z : State} {a0 : Array Value} (hw : Hw Z a0) : (Jvm.Cond.methodLink "java/lang/AbstractStringBuilder" (40 : Nat) ({ cls := "java/lang/String", name := "coder", desc := "()B" } : Jvm.MethodName)).before a0 Z = true := hw _ (List.mem_of_getElem? (i := 108) rfl)
theorem w109 {Z : State} {a0 : Array Value} (hw : Hw Z a0) : (Jvm.Cond.methodLink "java/lang/AbstractStringBuilder" (399 : Nat) ({ cls := "java/lang/String", name := "getBytes", desc := "([BIB)V" } : Jvm.MethodName)).before a0 Z = true := hw _ (List.mem_of_getElem? (i := 109) rfl)
theorem w110 {Z : State} {a0 : Array Value} (hw : Hw Z a0) : (Jvm.Cond.declares ({ cls := "java/lang/String", name := "getBytes", desc := "([BIB)V" } : Jvm.MethodName)).before a0 Z = true := hw _ (List.mem_of_getElem? (i := 110) rfl)
theorem w111 {Z : State} {a0 : Array Value} (hw : Hw Z a0) : (Jvm.Cond.instanceMethod ({ cls := "java/lang/String", name := "getBytes", desc := "([BIB)V" } : Jvm.MethodName)).before a0 Z = true := hw _ (List.mem_of_getElem? (i := 111) rfl)
theorem w112 {Z : State} {a0 : Array Value} (hw : Hw Z a0) : (Jvm.Cond.selects "java/lang/String" ({ cls := "java/lang/String", name := "getBytes", desc := "([BIB)V" } : Jvm.MethodName) ({ cls := "java/lang/String", name := "getBytes", desc := "([BIB)V" } : Jvm.MethodName)).before a0 Z = true := hw _ (List.mem_of_getElem? (i := 112) rfl)
theorem w113 {Z : State} {a0 : Array Value} (hw : Hw Z a0) : (Jvm.Cond.code ({ cls := "java/lang/String", name := "getBytes", desc := "([BIB)V" } : Jvm.MethodName) jdk_42_method_147_code (4 : Nat) (Option.none : Option Jvm.ClassFile.FieldType)).before a0 Z = true := hw _ (List.mem_of_getElem? (i := 113) rfl)
theorem w114 {Z : State} {a0 : Array Value} (hw : Hw Z a0) : (Jvm.Cond.methodLink "java/lang/String" (212 : Nat) ({ cls := "java/lang/System", name := "arraycopy", desc := "(Ljava/lang/Object;ILjava/lang/Object;II)V" } : Jvm.MethodName)).before a0 Z = true := hw _ (List.mem_of_getElem? (i := 114) rfl)
theorem w115 {Z : State} {a0 : Array Value} (hw : Hw Z a0) : (Jvm.Cond.static ({ cls := "java/lang/System", name := "arraycopy", desc := "(Ljava/lang/Object;ILjava/lang/Object;II)V" } : Jvm.MethodName)).before a0 Z = true := hw _ (List.mem_of_getElem? (i := 115) rfl)
theorem w116 {Z : State} {a0 : Array Value} (hw : Hw Z a0) : (Jvm.Cond.initialized "java/lang/System").before a0 Z = true := hw _ (List.mem_of_getElem? (i := 116) rfl)
theorem w117 {Z : State} {a0 : Array Value} (hw : Hw Z a0) : (Jvm.Cond.native ({ cls := "java/lang/System", name := "arraycopy", desc := "(Ljava/lang/Object;ILjava/lang/Object;II)V" } : Jvm.MethodName)).before a0 Z = true := hw _ (List.mem_of_getElem? (i := 117) rfl)
theorem w118 {Z : State} {a0 : Array Value} (hw : Hw Z a0) : (Jvm.Cond.methodLink "com/example/nerai/nerai/crawler/MalformedFileException" (20 : Nat) ({ cls := "java/lang/StringBuilder", name := "append", desc := "(J)Ljava/lang/StringBuilder;" } : Jvm.MethodName)).before a0 Z = true := hw _ (List.mem_of_getElem? (i := 118) rfl)
theorem w119 {Z : State} {a0 : Array Value} (hw : Hw Z a0) : (Jvm.Cond.declares ({ cls := "java/lang/StringBuilder", name := "append", desc := "(J)Ljava/lang/StringBuilder;" } : Jvm.MethodName)).before a0 Z = true := hw _ (List.mem_of_getElem? (i := 119) rfl)
theorem w120 {Z : State} {a0 : Array Value} (hw : Hw Z a0) : (Jvm.Cond.instanceMethod ({ cls := "java/lang/StringBuilder", name := "append", desc := "(J)Ljava/lang/StringBuilder;" } : Jvm.MethodName)).before a0 Z = true := hw _ (List.mem_of_getElem? (i := 120) rfl)
theorem w121 {Z : State} {a0 : Array Value} (hw : Hw Z a0) : (Jvm.Cond.selects "java/lang/StringBuilder" ({ cls := "java/lang/StringBuilder", name := "append", desc := "(J)Ljava/lang/StringBuilder;" } : Jvm.MethodName) ({ cls := "java/lang/StringBuilder", name := "append", desc := "(J)Ljava/lang/StringBuilder;" } : Jvm.MethodName)).before a0 Z = true := hw _ (List.mem_of_getElem? (i := 121) rfl)
theorem w122 {Z : State} {a0 : Array Value} (hw : Hw Z a0) : (Jvm.Cond.code ({ cls := "java/lang/StringBuilder", name := "append", desc := "(J)Ljava/lang/StringBuilder;" } : Jvm.MethodName) jdk_67_method_16_code (3 : Nat) (Option.some (Jvm.ClassFile.FieldType.object "java/lang/StringBuilder"))).before a0 Z = true := hw _ (List.mem_of_getElem? (i := 122) rfl)
theorem w123 {Z : State} {a0 : Array Value} (hw : Hw Z a0) : (Jvm.Cond.methodLink "java/lang/StringBuilder" (56 : Nat) ({ cls := "java/lang/AbstractStringBuilder", name := "append", desc := "(J)Ljava/lang/AbstractStringBuilder;" } : Jvm.MethodName)).before a0 Z = true := hw _ (List.mem_of_getElem? (i := 123) rfl)
theorem w124 {Z : State} {a0 : Array Value} (hw : Hw Z a0) : (Jvm.Cond.instanceMethod ({ cls := "java/lang/AbstractStringBuilder", name := "append", desc := "(J)Ljava/lang/AbstractStringBuilder;" } : Jvm.MethodName)).before a0 Z = true := hw _ (List.mem_of_getElem? (i := 124) rfl)
theorem w126 {Z : State} {a0 : Array Value} (hw : Hw Z a0) : (Jvm.Cond.code ({ cls := "java/lang/AbstractStringBuilder", name := "append", desc := "(J)Ljava/lang/AbstractStringBuilder;" } : Jvm.MethodName) jdk_68_method_33_code (5 : Nat) (Option.some (Jvm.ClassFile.FieldType.object "java/lang/AbstractStringBuilder"))).before a0 Z = true := hw _ (List.mem_of_getElem? (i := 126) rfl)
theorem w127 {Z : State} {a0 : Array Value} (hw : Hw Z a0) : (Jvm.Cond.methodLink "java/lang/AbstractStringBuilder" (254 : Nat) ({ cls := "java/lang/Long", name := "stringSize", desc := "(J)I" } : Jvm.MethodName)).before a0 Z = true := hw _ (List.mem_of_getElem? (i := 127) rfl)
theorem w128 {Z : State} {a0 : Array Value} (hw : Hw Z a0) : (Jvm.Cond.static ({ cls := "java/lang/Long", name := "stringSize", desc := "(J)I" } : Jvm.MethodName)).before a0 Z = true := hw _ (List.mem_of_getElem? (i := 128) rfl)
theorem w129 {Z : State} {a0 : Array Value} (hw : Hw Z a0) : (Jvm.Cond.initialized "java/lang/Long").before a0 Z = true := hw _ (List.mem_of_getElem? (i := 129) rfl)
theorem w130 {Z : State} {a0 : Array Value} (hw : Hw Z a0) : (Jvm.Cond.code ({ cls := "java/lang/Long", name := "stringSize", desc := "(J)I" } : Jvm.MethodName) jdk_35_method_15_code (6 : Nat) (Option.some Jvm.ClassFile.FieldType.int)).before a0 Z = true := hw _ (List.mem_of_getElem? (i := 130) rfl)
theorem w131 {Z : State} {a0 : Array Value} (hw : Hw Z a0) : (Jvm.Cond.constantLong "java/lang/Long" (140 : Nat) (-10 : Int64)).before a0 Z = true := hw _ (List.mem_of_getElem? (i := 131) rfl)
theorem w132 {Z : State} {a0 : Array Value} (hw : Hw Z a0) : (Jvm.Cond.methodLink "java/lang/AbstractStringBuilder" (83 : Nat) ({ cls := "java/lang/AbstractStringBuilder", name := "isLatin1", desc := "()Z" } : Jvm.MethodName)).before a0 Z = true := hw _ (List.mem_of_getElem? (i := 132) rfl)
theorem w133 {Z : State} {a0 : Array Value} (hw : Hw Z a0) : (Jvm.Cond.declares ({ cls := "java/lang/AbstractStringBuilder", name := "isLatin1", desc := "()Z" } : Jvm.MethodName)).before a0 Z = true := hw _ (List.mem_of_getElem? (i := 133) rfl)
theorem w134 {Z : State} {a0 : Array Value} (hw : Hw Z a0) : (Jvm.Cond.instanceMethod ({ cls := "java/lang/AbstractStringBuilder", name := "isLatin1", desc := "()Z" } : Jvm.MethodName)).before a0 Z = true := hw _ (List.mem_of_getElem? (i := 134) rfl)
theorem w135 {Z : State} {a0 : Array Value} (hw : Hw Z a0) : (Jvm.Cond.selects "java/lang/StringBuilder" ({ cls := "java/lang/AbstractStringBuilder", name := "isLatin1", desc := "()Z" } : Jvm.MethodName) ({ cls := "java/lang/AbstractStringBuilder", name := "isLatin1", desc := "()Z" } : Jvm.MethodName)).before a0 Z = true := hw _ (List.mem_of_getElem? (i := 135) rfl)
theorem w136 {Z : State} {a0 : Array Value} (hw : Hw Z a0) : (Jvm.Cond.code ({ cls := "java/lang/AbstractStringBuilder", name := "isLatin1", desc := "()Z" } : Jvm.MethodName) jdk_68_method_68_code (1 : Nat) (Option.some Jvm.ClassFile.FieldType.boolean)).before a0 Z = true := hw _ (List.mem_of_getElem? (i := 136) rfl)
theorem w137 {Z : State} {a0 : Array Value} (hw : Hw Z a0) : (Jvm.Cond.methodLink "java/lang/AbstractStringBuilder" (259 : Nat) ({ cls := "java/lang/Long", name := "getChars", desc := "(JI[B)I" } : Jvm.MethodName)).before a0 Z = true := hw _ (List.mem_of_getElem? (i := 137) rfl)
theorem w138 {Z : State} {a0 : Array Value} (hw : Hw Z a0) : (Jvm.Cond.static ({ cls := "java/lang/Long", name := "getChars", desc := "(JI[B)I" } : Jvm.MethodName)).before a0 Z = true := hw _ (List.mem_of_getElem? (i := 138) rfl)
theorem w139 {Z : State} {a0 : Array Value} (hw : Hw Z a0) : (Jvm.Cond.code ({ cls := "java/lang/Long", name := "getChars", desc := "(JI[B)I" } : Jvm.MethodName) jdk_35_method_14_code (11 : Nat) (Option.some Jvm.ClassFile.FieldType.int)).before a0 Z = true := hw _ (List.mem_of_getElem? (i := 139) rfl)
theorem w140 {Z : State} {a0 : Array Value} (hw : Hw Z a0) : (Jvm.Cond.constantLong "java/lang/Long" (129 : Nat) (-2147483648 : Int64)).before a0 Z = true := hw _ (List.mem_of_getElem? (i := 140) rfl)
theorem w141 {Z : State} {a0 : Array Value} (hw : Hw Z a0) : (Jvm.Cond.fieldLink "java/lang/Long" (133 : Nat) "java/lang/Integer" "DigitOnes" "[B").before a0 Z = true := hw _ (List.mem_of_getElem? (i := 141) rfl)
theorem w143 {Z : State} {a0 : Array Value} (hw : Hw Z a0) : (Jvm.Cond.stringLink "com/example/nerai/nerai/crawler/MalformedFileException" (23 : Nat) ": ").before a0 Z = true := hw _ (List.mem_of_getElem? (i := 143) rfl)
theorem w144 {Z : State} {a0 : Array Value} (hw : Hw Z a0) : (Jvm.Cond.methodLink "com/example/nerai/nerai/crawler/MalformedFileException" (25 : Nat) ({ cls := "java/lang/StringBuilder", name := "toString", desc := "()Ljava/lang/String;" } : Jvm.MethodName)).before a0 Z = true := hw _ (List.mem_of_getElem? (i := 144) rfl)
theorem w145 {Z : State} {a0 : Array Value} (hw : Hw Z a0) : (Jvm.Cond.declares ({ cls := "java/lang/StringBuilder", name := "toString", desc := "()Ljava/lang/String;" } : Jvm.MethodName)).before a0 Z = true := hw _ (List.mem_of_getElem? (i := 145) rfl)
theorem w146 {Z : State} {a0 : Array Value} (hw : Hw Z a0) : (Jvm.Cond.instanceMethod ({ cls := "java/lang/StringBuilder", name := "toString", desc := "()Ljava/lang/String;" } : Jvm.MethodName)).before a0 Z = true := hw _ (List.mem_of_getElem? (i := 146) rfl)
theorem w147 {Z : State} {a0 : Array Value} (hw : Hw Z a0) : (Jvm.Cond.selects "java/lang/StringBuilder" ({ cls := "java/lang/StringBuilder", name := "toString", desc := "()Ljava/lang/String;" } : Jvm.MethodName) ({ cls := "java/lang/StringBuilder", name := "toString", desc := "()Ljava/lang/String;" } : Jvm.MethodName)).before a0 Z = true := hw _ (List.mem_of_getElem? (i := 147) rfl)
theorem w148 {Z : State} {a0 : Array Value} (hw : Hw Z a0) : (Jvm.Cond.code ({ cls := "java/lang/StringBuilder", name := "toString", desc := "()Ljava/lang/String;" } : Jvm.MethodName) jdk_67_method_42_code (1 : Nat) (Option.some (Jvm.ClassFile.FieldType.object "java/lang/String"))).before a0 Z = true := hw _ (List.mem_of_getElem? (i := 148) rfl)
theorem w149 {Z : State} {a0 : Array Value} (hw : Hw Z a0) : (Jvm.Cond.classLink "java/lang/StringBuilder" (18 : Nat) "java/lang/String").before a0 Z = true := hw _ (List.mem_of_getElem? (i := 149) rfl)
theorem w150 {Z : State} {a0 : Array Value} (hw : Hw Z a0) : (Jvm.Cond.methodLink "java/lang/StringBuilder" (137 : Nat) ({ cls := "java/lang/String", name := "<init>", desc := "(Ljava/lang/StringBuilder;)V" } : Jvm.MethodName)).before a0 Z = true := hw _ (List.mem_of_getElem? (i := 150) rfl)
theorem w151 {Z : State} {a0 : Array Value} (hw : Hw Z a0) : (Jvm.Cond.instanceMethod ({ cls := "java/lang/String", name := "<init>", desc := "(Ljava/lang/StringBuilder;)V" } : Jvm.MethodName)).before a0 Z = true := hw _ (List.mem_of_getElem? (i := 151) rfl)
theorem w152 {Z : State} {a0 : Array Value} (hw : Hw Z a0) : (Jvm.Cond.code ({ cls := "java/lang/String", name := "<init>", desc := "(Ljava/lang/StringBuilder;)V" } : Jvm.MethodName) jdk_42_method_53_code (2 : Nat) (Option.none : Option Jvm.ClassFile.FieldType)).before a0 Z = true := hw _ (List.mem_of_getElem? (i := 152) rfl)
theorem w153 {Z : State} {a0 : Array Value} (hw : Hw Z a0) : (Jvm.Cond.methodLink "java/lang/String" (489 : Nat) ({ cls := "java/lang/String", name := "<init>", desc := "(Ljava/lang/AbstractStringBuilder;Ljava/lang/Void;)V" } : Jvm.MethodName)).before a0 Z = true := hw _ (List.mem_of_getElem? (i := 153) rfl)
theorem w154 {Z : State} {a0 : Array Value} (hw : Hw Z a0) : (Jvm.Cond.instanceMethod ({ cls := "java/lang/String", name := "<init>", desc := "(Ljava/lang/AbstractStringBuilder;Ljava/lang/Void;)V" } : Jvm.MethodName)).before a0 Z = true := hw _ (List.mem_of_getElem? (i := 154) rfl)
theorem w155 {Z : State} {a0 : Array Value} (hw : Hw Z a0) : (Jvm.Cond.code ({ cls := "java/lang/String", name := "<init>", desc := "(Ljava/lang/AbstractStringBuilder;Ljava/lang/Void;)V" } : Jvm.MethodName) jdk_42_method_150_code (5 : Nat) (Option.none : Option Jvm.ClassFile.FieldType)).before a0 Z = true := hw _ (List.mem_of_getElem? (i := 155) rfl)
theorem w156 {Z : State} {a0 : Array Value} (hw : Hw Z a0) : (Jvm.Cond.methodLink "java/lang/String" (552 : Nat) ({ cls := "java/lang/AbstractStringBuilder", name := "getValue", desc := "()[B" } : Jvm.MethodName)).before a0 Z = true := hw _ (List.mem_of_getElem? (i := 156) rfl)
theorem w157 {Z : State} {a0 : Array Value} (hw : Hw Z a0) : (Jvm.Cond.declares ({ cls := "java/lang/AbstractStringBuilder", name := "getValue", desc := "()[B" } : Jvm.MethodName)).before a0 Z = true := hw _ (List.mem_of_getElem? (i := 157) rfl)
theorem w158 {Z : State} {a0 : Array Value} (hw : Hw Z a0) : (Jvm.Cond.instanceMethod ({ cls := "java/lang/AbstractStringBuilder", name := "getValue", desc := "()[B" } : Jvm.MethodName)).before a0 Z = true := hw _ (List.mem_of_getElem? (i := 158) rfl)
theorem w159 {Z : State} {a0 : Array Value} (hw : Hw Z a0) : (Jvm.Cond.selects "java/lang/StringBuilder" ({ cls := "java/lang/AbstractStringBuilder", name := "getValue", desc := "()[B" } : Jvm.MethodName) ({ cls := "java/lang/AbstractStringBuilder", name := "getValue", desc := "()[B" } : Jvm.MethodName)).before a0 Z = true := hw _ (List.mem_of_getElem? (i := 159) rfl)
theorem w160 {Z : State} {a0 : Array Value} (hw : Hw Z a0) : (Jvm.Cond.code ({ cls := "java/lang/AbstractStringBuilder", name := "getValue", desc := "()[B" } : Jvm.MethodName) jdk_68_method_64_code (1 : Nat) (Option.some (Jvm.ClassFile.FieldType.array Jvm.ClassFile.FieldType.byte))).before a0 Z = true := hw _ (List.mem_of_getElem? (i := 160) rfl)
theorem w161 {Z : State} {a0 : Array Value} (hw : Hw Z a0) : (Jvm.Cond.methodLink "java/lang/String" (549 : Nat) ({ cls := "java/lang/AbstractStringBuilder", name := "length", desc := "()I" } : Jvm.MethodName)).before a0 Z = true := hw _ (List.mem_of_getElem? (i := 161) rfl)
theorem w162 {Z : State} {a0 : Array Value} (hw : Hw Z a0) : (Jvm.Cond.declares ({ cls := "java/lang/AbstractStringBuilder", name := "length", desc := "()I" } : Jvm.MethodName)).before a0 Z = true := hw _ (List.mem_of_getElem? (i := 162) rfl)
theorem w163 {Z : State} {a0 : Array Value} (hw : Hw Z a0) : (Jvm.Cond.instanceMethod ({ cls := "java/lang/AbstractStringBuilder", name := "length", desc := "()I" } : Jvm.MethodName)).before a0 Z = true := hw _ (List.mem_of_getElem? (i := 163) rfl)
theorem w164 {Z : State} {a0 : Array Value} (hw : Hw Z a0) : (Jvm.Cond.selects "java/lang/StringBuilder" ({ cls := "java/lang/AbstractStringBuilder", name := "length", desc := "()I" } : Jvm.MethodName) ({ cls := "java/lang/StringBuilder", name := "length", desc := "()I" } : Jvm.MethodName)).before a0 Z = true := hw _ (List.mem_of_getElem? (i := 164) rfl)
theorem w165 {Z : State} {a0 : Array Value} (hw : Hw Z a0) : (Jvm.Cond.instanceMethod ({ cls := "java/lang/StringBuilder", name := "length", desc := "()I" } : Jvm.MethodName)).before a0 Z = true := hw _ (List.mem_of_getElem? (i := 165) rfl)
theorem w166 {Z : State} {a0 : Array Value} (hw : Hw Z a0) : (Jvm.Cond.code ({ cls := "java/lang/StringBuilder", name := "length", desc := "()I" } : Jvm.MethodName) jdk_67_method_93_code (1 : Nat) (Option.some Jvm.ClassFile.FieldType.int)).before a0 Z = true := hw _ (List.mem_of_getElem? (i := 166) rfl)
theorem w167 {Z : State} {a0 : Array Value} (hw : Hw Z a0) : (Jvm.Cond.methodLink "java/lang/StringBuilder" (343 : Nat) ({ cls := "java/lang/AbstractStringBuilder", name := "length", desc := "()I" } : Jvm.MethodName)).before a0 Z = true := hw _ (List.mem_of_getElem? (i := 167) rfl)
theorem w168 {Z : State} {a0 : Array Value} (hw : Hw Z a0) : (Jvm.Cond.code ({ cls := "java/lang/AbstractStringBuilder", name := "length", desc := "()I" } : Jvm.MethodName) jdk_68_method_6_code (1 : Nat) (Option.some Jvm.ClassFile.FieldType.int)).before a0 Z = true := hw _ (List.mem_of_getElem? (i := 168) rfl)
theorem w169 {Z : State} {a0 : Array Value} (hw : Hw Z a0) : (Jvm.Cond.methodLink "java/lang/String" (1047 : Nat) ({ cls := "java/lang/AbstractStringBuilder", name := "isLatin1", desc := "()Z" } : Jvm.MethodName)).before a0 Z = true := hw _ (List.mem_of_getElem? (i := 169) rfl)
theorem w170 {Z : State} {a0 : Array Value} (hw : Hw Z a0) : (Jvm.Cond.methodLink "java/lang/String" (54 : Nat) ({ cls := "java/util/Arrays", name := "copyOfRange", desc := "([BII)[B" } : Jvm.MethodName)).before a0 Z = true := hw _ (List.mem_of_getElem? (i := 170) rfl)
theorem w171 {Z : State} {a0 : Array Value} (hw : Hw Z a0) : (Jvm.Cond.static ({ cls := "java/util/Arrays", name := "copyOfRange", desc := "([BII)[B" } : Jvm.MethodName)).before a0 Z = true := hw _ (List.mem_of_getElem? (i := 171) rfl)
theorem w172 {Z : State} {a0 : Array Value} (hw : Hw Z a0) : (Jvm.Cond.initialized "java/util/Arrays").before a0 Z = true := hw _ (List.mem_of_getElem? (i := 172) rfl)
theorem w173 {Z : State} {a0 : Array Value} (hw : Hw Z a0) : (Jvm.Cond.code ({ cls := "java/util/Arrays", name := "copyOfRange", desc := "([BII)[B" } : Jvm.MethodName) jdk_65_method_132_code (3 : Nat) (Option.some (Jvm.ClassFile.FieldType.array Jvm.ClassFile.FieldType.byte))).before a0 Z = true := hw _ (List.mem_of_getElem? (i := 173) rfl)
theorem w174 {Z : State} {a0 : Array Value} (hw : Hw Z a0) : (Jvm.Cond.methodLink "java/util/Arrays" (339 : Nat) ({ cls := "java/util/Arrays", name := "copyOfRangeByte", desc := "([BII)[B" } : Jvm.MethodName)).before a0 Z = true := hw _ (List.mem_of_getElem? (i := 174) rfl)
theorem w175 {Z : State} {a0 : Array Value} (hw : Hw Z a0) : (Jvm.Cond.static ({ cls := "java/util/Arrays", name := "copyOfRangeByte", desc := "([BII)[B" } : Jvm.MethodName)).before a0 Z = true := hw _ (List.mem_of_getElem? (i := 175) rfl)
theorem w176 {Z : State} {a0 : Array Value} (hw : Hw Z a0) : (Jvm.Cond.code ({ cls := "java/util/Arrays", name := "copyOfRangeByte", desc := "([BII)[B" } : Jvm.MethodName) jdk_65_method_133_code (5 : Nat) (Option.some (Jvm.ClassFile.FieldType.array Jvm.ClassFile.FieldType.byte))).before a0 Z = true := hw _ (List.mem_of_getElem? (i := 176) rfl)
theorem w177 {Z : State} {a0 : Array Value} (hw : Hw Z a0) : (Jvm.Cond.methodLink "java/util/Arrays" (343 : Nat) ({ cls := "java/util/Arrays", name := "checkLength", desc := "(II)V" } : Jvm.MethodName)).before a0 Z = true := hw _ (List.mem_of_getElem? (i := 177) rfl)
theorem w178 {Z : State} {a0 : Array Value} (hw : Hw Z a0) : (Jvm.Cond.static ({ cls := "java/util/Arrays", name := "checkLength", desc := "(II)V" } : Jvm.MethodName)).before a0 Z = true := hw _ (List.mem_of_getElem? (i := 178) rfl)
theorem w179 {Z : State} {a0 : Array Value} (hw : Hw Z a0) : (Jvm.Cond.code ({ cls := "java/util/Arrays", name := "checkLength", desc := "(II)V" } : Jvm.MethodName) jdk_65_method_131_code (2 : Nat) (Option.none : Option Jvm.ClassFile.FieldType)).before a0 Z = true := hw _ (List.mem_of_getElem? (i := 179) rfl)
theorem w180 {Z : State} {a0 : Array Value} (hw : Hw Z a0) : (Jvm.Cond.methodLink "java/util/Arrays" (304 : Nat) ({ cls := "java/lang/Math", name := "min", desc := "(II)I" } : Jvm.MethodName)).before a0 Z = true := hw _ (List.mem_of_getElem? (i := 180) rfl)
theorem w181 {Z : State} {a0 : Array Value} (hw : Hw Z a0) : (Jvm.Cond.static ({ cls := "java/lang/Math", name := "min", desc := "(II)I" } : Jvm.MethodName)).before a0 Z = true := hw _ (List.mem_of_getElem? (i := 181) rfl)
theorem w182 {Z : State} {a0 : Array Value} (hw : Hw Z a0) : (Jvm.Cond.initialized "java/lang/Math").before a0 Z = true := hw _ (List.mem_of_getElem? (i := 182) rfl)
theorem w183 {Z : State} {a0 : Array Value} (hw : Hw Z a0) : (Jvm.Cond.code ({ cls := "java/lang/Math", name := "min", desc := "(II)I" } : Jvm.MethodName) jdk_29_method_69_code (2 : Nat) (Option.some Jvm.ClassFile.FieldType.int)).before a0 Z = true := hw _ (List.mem_of_getElem? (i := 183) rfl)
theorem w184 {Z : State} {a0 : Array Value} (hw : Hw Z a0) : (Jvm.Cond.methodLink "java/util/Arrays" (150 : Nat) ({ cls := "java/lang/System", name := "arraycopy", desc := "(Ljava/lang/Object;ILjava/lang/Object;II)V" } : Jvm.MethodName)).before a0 Z = true := hw _ (List.mem_of_getElem? (i := 184) rfl)
theorem w185 {Z : State} {a0 : Array Value} (hw : Hw Z a0) : (Jvm.Cond.methodLink "com/example/nerai/nerai/crawler/MalformedFileException" (29 : Nat) ({ cls := "com/example/nerai/nerai/crawler/MalformedFileException", name := "<init>", desc := "(Ljava/lang/String;)V" } : Jvm.MethodName)).before a0 Z = true := hw _ (List.mem_of_getElem? (i := 185) rfl)
theorem w186 {Z : State} {a0 : Array Value} (hw : Hw Z a0) : (Jvm.Cond.instanceMethod ({ cls := "com/example/nerai/nerai/crawler/MalformedFileException", name := "<init>", desc := "(Ljava/lang/String;)V" } : Jvm.MethodName)).before a0 Z = true := hw _ (List.mem_of_getElem? (i := 186) rfl)
theorem w187 {Z : State} {a0 : Array Value} (hw : Hw Z a0) : (Jvm.Cond.code ({ cls := "com/example/nerai/nerai/crawler/MalformedFileException", name := "<init>", desc := "(Ljava/lang/String;)V" } : Jvm.MethodName) prog_11_method_1_code (2 : Nat) (Option.none : Option Jvm.ClassFile.FieldType)).before a0 Z = true := hw _ (List.mem_of_getElem? (i := 187) rfl)
theorem w188 {Z : State} {a0 : Array Value} (hw : Hw Z a0) : (Jvm.Cond.methodLink "com/example/nerai/nerai/crawler/MalformedFileException" (1 : Nat) ({ cls := "java/io/IOException", name := "<init>", desc := "(Ljava/lang/String;)V" } : Jvm.MethodName)).before a0 Z = true := hw _ (List.mem_of_getElem? (i := 188) rfl)
theorem w189 {Z : State} {a0 : Array Value} (hw : Hw Z a0) : (Jvm.Cond.instanceMethod ({ cls := "java/io/IOException", name := "<init>", desc := "(Ljava/lang/String;)V" } : Jvm.MethodName)).before a0 Z = true := hw _ (List.mem_of_getElem? (i := 189) rfl)
theorem w191 {Z : State} {a0 : Array Value} (hw : Hw Z a0) : (Jvm.Cond.initialized "java/io/IOException").before a0 Z = true := hw _ (List.mem_of_getElem? (i := 191) rfl)
theorem w192 {Z : State} {a0 : Array Value} (hw : Hw Z a0) : (Jvm.Cond.code ({ cls := "java/io/IOException", name := "<init>", desc := "(Ljava/lang/String;)V" } : Jvm.MethodName) jdk_131_method_2_code (2 : Nat) (Option.none : Option Jvm.ClassFile.FieldType)).before a0 Z = true := hw _ (List.mem_of_getElem? (i := 192) rfl)
theorem w193 {Z : State} {a0 : Array Value} (hw : Hw Z a0) : (Jvm.Cond.methodLink "java/io/IOException" (7 : Nat) ({ cls := "java/lang/Exception", name := "<init>", desc := "(Ljava/lang/String;)V" } : Jvm.MethodName)).before a0 Z = true := hw _ (List.mem_of_getElem? (i := 193) rfl)
theorem w194 {Z : State} {a0 : Array Value} (hw : Hw Z a0) : (Jvm.Cond.instanceMethod ({ cls := "java/lang/Exception", name := "<init>", desc := "(Ljava/lang/String;)V" } : Jvm.MethodName)).before a0 Z = true := hw _ (List.mem_of_getElem? (i := 194) rfl)
theorem w197 {Z : State} {a0 : Array Value} (hw : Hw Z a0) : (Jvm.Cond.initialized "java/lang/Exception").before a0 Z = true := hw _ (List.mem_of_getElem? (i := 197) rfl)
theorem w198 {Z : State} {a0 : Array Value} (hw : Hw Z a0) : (Jvm.Cond.code ({ cls := "java/lang/Exception", name := "<init>", desc := "(Ljava/lang/String;)V" } : Jvm.MethodName) jdk_59_method_2_code (2 : Nat) (Option.none : Option Jvm.ClassFile.FieldType)).before a0 Z = true := hw _ (List.mem_of_getElem? (i := 198) rfl)
theorem w199 {Z : State} {a0 : Array Value} (hw : Hw Z a0) : (Jvm.Cond.methodLink "java/lang/Exception" (7 : Nat) ({ cls := "java/lang/Throwable", name := "<init>", desc := "(Ljava/lang/String;)V" } : Jvm.MethodName)).before a0 Z = true := hw _ (List.mem_of_getElem? (i := 199) rfl)
theorem w200 {Z : State} {a0 : Array Value} (hw : Hw Z a0) : (Jvm.Cond.instanceMethod ({ cls := "java/lang/Throwable", name := "<init>", desc := "(Ljava/lang/String;)V" } : Jvm.MethodName)).before a0 Z = true := hw _ (List.mem_of_getElem? (i := 200) rfl)
theorem w203 {Z : State} {a0 : Array Value} (hw : Hw Z a0) : (Jvm.Cond.initialized "java/lang/Throwable").before a0 Z = true := hw _ (List.mem_of_getElem? (i := 203) rfl)
theorem w204 {Z : State} {a0 : Array Value} (hw : Hw Z a0) : (Jvm.Cond.code ({ cls := "java/lang/Throwable", name := "<init>", desc := "(Ljava/lang/String;)V" } : Jvm.MethodName) jdk_78_method_2_code (2 : Nat) (Option.none : Option Jvm.ClassFile.FieldType)).before a0 Z = true := hw _ (List.mem_of_getElem? (i := 204) rfl)
theorem w205 {Z : State} {a0 : Array Value} (hw : Hw Z a0) : (Jvm.Cond.methodLink "java/lang/Throwable" (1 : Nat) ({ cls := "java/lang/Object", name := "<init>", desc := "()V" } : Jvm.MethodName)).before a0 Z = true := hw _ (List.mem_of_getElem? (i := 205) rfl)
theorem w206 {Z : State} {a0 : Array Value} (hw : Hw Z a0) : (Jvm.Cond.fieldLink "java/lang/Throwable" (7 : Nat) "java/lang/Throwable" "cause" "Ljava/lang/Throwable;").before a0 Z = true := hw _ (List.mem_of_getElem? (i := 206) rfl)
theorem w207 {Z : State} {a0 : Array Value} (hw : Hw Z a0) : (Jvm.Cond.lays "com/example/nerai/nerai/crawler/MalformedFileException" "java/lang/Throwable" "cause" "Ljava/lang/Throwable;").before a0 Z = true := hw _ (List.mem_of_getElem? (i := 207) rfl)
theorem w208 {Z : State} {a0 : Array Value} (hw : Hw Z a0) : (Jvm.Cond.fieldLink "java/lang/Throwable" (13 : Nat) "java/lang/Throwable" "UNASSIGNED_STACK" "[Ljava/lang/StackTraceElement;").before a0 Z = true := hw _ (List.mem_of_getElem? (i := 208) rfl)
theorem w209 {Z : State} {a0 : Array Value} (hw : Hw Z a0) : (Jvm.Cond.fieldLink "java/lang/Throwable" (17 : Nat) "java/lang/Throwable" "stackTrace" "[Ljava/lang/StackTraceElement;").before a0 Z = true := hw _ (List.mem_of_getElem? (i := 209) rfl)
theorem w210 {Z : State} {a0 : Array Value} (hw : Hw Z a0) : (Jvm.Cond.lays "com/example/nerai/nerai/crawler/MalformedFileException" "java/lang/Throwable" "stackTrace" "[Ljava/lang/StackTraceElement;").before a0 Z = true := hw _ (List.mem_of_getElem? (i := 210) rfl)
theorem w211 {Z : State} {a0 : Array Value} (hw : Hw Z a0) : (Jvm.Cond.fieldLink "java/lang/Throwable" (20 : Nat) "java/lang/Throwable" "SUPPRESSED_SENTINEL" "Ljava/util/List;").before a0 Z = true := hw _ (List.mem_of_getElem? (i := 211) rfl)
theorem w212 {Z : State} {a0 : Array Value} (hw : Hw Z a0) : (Jvm.Cond.fieldLink "java/lang/Throwable" (24 : Nat) "java/lang/Throwable" "suppressedExceptions" "Ljava/util/List;").before a0 Z = true := hw _ (List.mem_of_getElem? (i := 212) rfl)
theorem w213 {Z : State} {a0 : Array Value} (hw : Hw Z a0) : (Jvm.Cond.lays "com/example/nerai/nerai/crawler/MalformedFileException" "java/lang/Throwable" "suppressedExceptions" "Ljava/util/List;").before a0 Z = true := hw _ (List.mem_of_getElem? (i := 213) rfl)
theorem w214 {Z : State} {a0 : Array Value} (hw : Hw Z a0) : (Jvm.Cond.methodLink "java/lang/Throwable" (27 : Nat) ({ cls := "java/lang/Throwable", name := "fillInStackTrace", desc := "()Ljava/lang/Throwable;" } : Jvm.MethodName)).before a0 Z = true := hw _ (List.mem_of_getElem? (i := 214) rfl)
theorem w215 {Z : State} {a0 : Array Value} (hw : Hw Z a0) : (Jvm.Cond.declares ({ cls := "java/lang/Throwable", name := "fillInStackTrace", desc := "()Ljava/lang/Throwable;" } : Jvm.MethodName)).before a0 Z = true := hw _ (List.mem_of_getElem? (i := 215) rfl)
theorem w216 {Z : State} {a0 : Array Value} (hw : Hw Z a0) : (Jvm.Cond.instanceMethod ({ cls := "java/lang/Throwable", name := "fillInStackTrace", desc := "()Ljava/lang/Throwable;" } : Jvm.MethodName)).before a0 Z = true := hw _ (List.mem_of_getElem? (i := 216) rfl)
theorem w217 {Z : State} {a0 : Array Value} (hw : Hw Z a0) : (Jvm.Cond.selects "com/example/nerai/nerai/crawler/MalformedFileException" ({ cls := "java/lang/Throwable", name := "fillInStackTrace", desc := "()Ljava/lang/Throwable;" } : Jvm.MethodName) ({ cls := "java/lang/Throwable", name := "fillInStackTrace", desc := "()Ljava/lang/Throwable;" } : Jvm.MethodName)).before a0 Z = true := hw _ (List.mem_of_getElem? (i := 217) rfl)
theorem w218 {Z : State} {a0 : Array Value} (hw : Hw Z a0) : (Jvm.Cond.arrayOver (Jvm.ClassFile.FieldType.object "java/lang/Object")).before a0 Z = true := hw _ (List.mem_of_getElem? (i := 218) rfl)
theorem w219 {Z : State} {a0 : Array Value} (hw : Hw Z a0) : (Jvm.Cond.soleField "java/lang/Throwable" "backtrace").before a0 Z = true := hw _ (List.mem_of_getElem? (i := 219) rfl)
theorem w220 {Z : State} {a0 : Array Value} (hw : Hw Z a0) : (Jvm.Cond.soleField "java/lang/Throwable" "depth").before a0 Z = true := hw _ (List.mem_of_getElem? (i := 220) rfl)
theorem w221 {Z : State} {a0 : Array Value} (hw : Hw Z a0) : (Jvm.Cond.superclass "java/lang/Throwable" "java/lang/Object").before a0 Z = true := hw _ (List.mem_of_getElem? (i := 221) rfl)
theorem w222 {Z : State} {a0 : Array Value} (hw : Hw Z a0) : (Jvm.Cond.codeSync ({ cls := "java/lang/Throwable", name := "fillInStackTrace", desc := "()Ljava/lang/Throwable;" } : Jvm.MethodName) jdk_78_method_18_code (1 : Nat) (Option.some (Jvm.ClassFile.FieldType.object "java/lang/Throwable"))).before a0 Z = true := hw _ (List.mem_of_getElem? (i := 222) rfl)
theorem w223 {Z : State} {a0 : Array Value} (hw : Hw Z a0) : (Jvm.Cond.instanceMethod ({ cls := "java/lang/Throwable", name := "fillInStackTrace", desc := "(I)Ljava/lang/Throwable;" } : Jvm.MethodName)).before a0 Z = true := hw _ (List.mem_of_getElem? (i := 223) rfl)
theorem w224 {Z : State} {a0 : Array Value} (hw : Hw Z a0) : (Jvm.Cond.native ({ cls := "java/lang/Throwable", name := "fillInStackTrace", desc := "(I)Ljava/lang/Throwable;" } : Jvm.MethodName)).before a0 Z = true := hw _ (List.mem_of_getElem? (i := 224) rfl)
theorem w227 {Z : State} {a0 : Array Value} (hw : Hw Z a0) : (Jvm.Cond.methodLink "java/lang/Throwable" (202 : Nat) ({ cls := "java/lang/Throwable", name := "fillInStackTrace", desc := "(I)Ljava/lang/Throwable;" } : Jvm.MethodName)).before a0 Z = true := hw _ (List.mem_of_getElem? (i := 227) rfl)
theorem w232 {Z : State} {a0 : Array Value} (hw : Hw Z a0) : (Jvm.Cond.fieldLink "java/lang/Throwable" (198 : Nat) "java/lang/Throwable" "backtrace" "Ljava/lang/Object;").before a0 Z = true := hw _ (List.mem_of_getElem? (i := 232) rfl)
theorem w234 {Z : State} {a0 : Array Value} (hw : Hw Z a0) : (Jvm.Cond.laysStatic "java/lang/Throwable" "UNASSIGNED_STACK" "[Ljava/lang/StackTraceElement;").before a0 Z = true := hw _ (List.mem_of_getElem? (i := 234) rfl)
theorem w235 {Z : State} {a0 : Array Value} (hw : Hw Z a0) : (Jvm.Cond.laysStatic "java/lang/Throwable" "SUPPRESSED_SENTINEL" "Ljava/util/List;").before a0 Z = true := hw _ (List.mem_of_getElem? (i := 235) rfl)
theorem w236 {Z : State} {a0 : Array Value} (hw : Hw Z a0) : (Jvm.Cond.selects "com/example/nerai/nerai/crawler/MalformedFileException" ({ cls := "java/lang/Throwable", name := "fillInStackTrace", desc := "(I)Ljava/lang/Throwable;" } : Jvm.MethodName) ({ cls := "java/lang/Throwable", name := "fillInStackTrace", desc := "(I)Ljava/lang/Throwable;" } : Jvm.MethodName)).before a0 Z = true := hw _ (List.mem_of_getElem? (i := 236) rfl)
theorem w237 {Z : State} {a0 : Array Value} (hw : Hw Z a0) : (Jvm.Cond.lays "com/example/nerai/nerai/crawler/MalformedFileException" "java/lang/Throwable" "detailMessage" "Ljava/lang/String;").before a0 Z = true := hw _ (List.mem_of_getElem? (i := 237) rfl)
theorem w238 {Z : State} {a0 : Array Value} (hw : Hw Z a0) : (Jvm.Cond.lays "com/example/nerai/nerai/crawler/MalformedFileException" "java/lang/Throwable" "backtrace" "Ljava/lang/Object;").before a0 Z = true := hw _ (List.mem_of_getElem? (i := 238) rfl)
theorem w239 {Z : State} {a0 : Array Value} (hw : Hw Z a0) : (Jvm.Cond.lays "com/example/nerai/nerai/crawler/MalformedFileException" "java/lang/Throwable" "depth" "I").before a0 Z = true := hw _ (List.mem_of_getElem? (i := 239) rfl)
theorem w241 {Z : State} {a0 : Array Value} (hw : Hw Z a0) : (Jvm.Cond.fieldLink "java/lang/Throwable" (31 : Nat) "java/lang/Throwable" "detailMessage" "Ljava/lang/String;").before a0 Z = true := hw _ (List.mem_of_getElem? (i := 241) rfl)
theorem w242 {Z : State} {a0 : Array Value} (hw : Hw Z a0) : (Jvm.Cond.methodLink "com/example/nerai/nerai/crawler/MalformedFileExceptionAtLinePinLaw" (64 : Nat) ({ cls := "com/example/nerai/nerai/crawler/MalformedFileException", name := "getMessage", desc := "()Ljava/lang/String;" } : Jvm.MethodName)).before a0 Z = true := hw _ (List.mem_of_getElem? (i := 242) rfl)
theorem w243 {Z : State} {a0 : Array Value} (hw : Hw Z a0) : (Jvm.Cond.sameMethod "com/example/nerai/nerai/crawler/MalformedFileException" "java/lang/Throwable" "getMessage" "()Ljava/lang/String;").before a0 Z = true := hw _ (List.mem_of_getElem? (i := 243) rfl)
theorem w244 {Z : State} {a0 : Array Value} (hw : Hw Z a0) : (Jvm.Cond.declares ({ cls := "java/lang/Throwable", name := "getMessage", desc := "()Ljava/lang/String;" } : Jvm.MethodName)).before a0 Z = true := hw _ (List.mem_of_getElem? (i := 244) rfl)
theorem w245 {Z : State} {a0 : Array Value} (hw : Hw Z a0) : (Jvm.Cond.instanceMethod ({ cls := "java/lang/Throwable", name := "getMessage", desc := "()Ljava/lang/String;" } : Jvm.MethodName)).before a0 Z = true := hw _ (List.mem_of_getElem? (i := 245) rfl)
theorem w246 {Z : State} {a0 : Array Value} (hw : Hw Z a0) : (Jvm.Cond.selects "com/example/nerai/nerai/crawler/MalformedFileException" ({ cls := "com/example/nerai/nerai/crawler/MalformedFileException", name := "getMessage", desc := "()Ljava/lang/String;" } : Jvm.MethodName) ({ cls := "java/lang/Throwable", name := "getMessage", desc := "()Ljava/lang/String;" } : Jvm.MethodName)).before a0 Z = true := hw _ (List.mem_of_getElem? (i := 246) rfl)
theorem w247 {Z : State} {a0 : Array Value} (hw : Hw Z a0) : (Jvm.Cond.code ({ cls := "java/lang/Throwable", name := "getMessage", desc := "()Ljava/lang/String;" } : Jvm.MethodName) jdk_78_method_6_code (1 : Nat) (Option.some (Jvm.ClassFile.FieldType.object "java/lang/String"))).before a0 Z = true := hw _ (List.mem_of_getElem? (i := 247) rfl)
theorem w248 {Z : State} {a0 : Array Value} (hw : Hw Z a0) : (Jvm.Cond.methodLink "com/example/nerai/nerai/crawler/MalformedFileExceptionAtLinePinLaw" (68 : Nat) ({ cls := "java/lang/String", name := "length", desc := "()I" } : Jvm.MethodName)).before a0 Z = true := hw _ (List.mem_of_getElem? (i := 248) rfl)
theorem w249 {Z : State} {a0 : Array Value} (hw : Hw Z a0) : (Jvm.Cond.methodLink "com/example/nerai/nerai/crawler/MalformedFileExceptionAtLinePinLaw" (72 : Nat) ({ cls := "java/lang/String", name := "charAt", desc := "(I)C" } : Jvm.MethodName)).before a0 Z = true := hw _ (List.mem_of_getElem? (i := 249) rfl)
theorem w250 {Z : State} {a0 : Array Value} (hw : Hw Z a0) : (Jvm.Cond.declares ({ cls := "java/lang/String", name := "charAt", desc := "(I)C" } : Jvm.MethodName)).before a0 Z = true := hw _ (List.mem_of_getElem? (i := 250) rfl)
theorem w251 {Z : State} {a0 : Array Value} (hw : Hw Z a0) : (Jvm.Cond.instanceMethod ({ cls := "java/lang/String", name := "charAt", desc := "(I)C" } : Jvm.MethodName)).before a0 Z = true := hw _ (List.mem_of_getElem? (i := 251) rfl)
theorem w252 {Z : State} {a0 : Array Value} (hw : Hw Z a0) : (Jvm.Cond.selects "java/lang/String" ({ cls := "java/lang/String", name := "charAt", desc := "(I)C" } : Jvm.MethodName) ({ cls := "java/lang/String", name := "charAt", desc := "(I)C" } : Jvm.MethodName)).before a0 Z = true := hw _ (List.mem_of_getElem? (i := 252) rfl)
theorem w253 {Z : State} {a0 : Array Value} (hw : Hw Z a0) : (Jvm.Cond.code ({ cls := "java/lang/String", name := "charAt", desc := "(I)C" } : Jvm.MethodName) jdk_42_method_56_code (2 : Nat) (Option.some Jvm.ClassFile.FieldType.char)).before a0 Z = true := hw _ (List.mem_of_getElem? (i := 253) rfl)
theorem w254 {Z : State} {a0 : Array Value} (hw : Hw Z a0) : (Jvm.Cond.methodLink "java/lang/String" (492 : Nat) ({ cls := "java/lang/String", name := "isLatin1", desc := "()Z" } : Jvm.MethodName)).before a0 Z = true := hw _ (List.mem_of_getElem? (i := 254) rfl)
theorem w255 {Z : State} {a0 : Array Value} (hw : Hw Z a0) : (Jvm.Cond.declares ({ cls := "java/lang/String", name := "isLatin1", desc := "()Z" } : Jvm.MethodName)).before a0 Z = true := hw _ (List.mem_of_getElem? (i := 255) rfl)
theorem w256 {Z : State} {a0 : Array Value} (hw : Hw Z a0) : (Jvm.Cond.instanceMethod ({ cls := "java/lang/String", name := "isLatin1", desc := "()Z" } : Jvm.MethodName)).before a0 Z = true := hw _ (List.mem_of_getElem? (i := 256) rfl)
theorem w257 {Z : State} {a0 : Array Value} (hw : Hw Z a0) : (Jvm.Cond.selects "java/lang/String" ({ cls := "java/lang/String", name := "isLatin1", desc := "()Z" } : Jvm.MethodName) ({ cls := "java/lang/String", name := "isLatin1", desc := "()Z" } : Jvm.MethodName)).before a0 Z = true := hw _ (List.mem_of_getElem? (i := 257) rfl)
theorem w258 {Z : State} {a0 : Array Value} (hw : Hw Z a0) : (Jvm.Cond.code ({ cls := "java/lang/String", name := "isLatin1", desc := "()Z" } : Jvm.MethodName) jdk_42_method_154_code (1 : Nat) (Option.some Jvm.ClassFile.FieldType.boolean)).before a0 Z = true := hw _ (List.mem_of_getElem? (i := 258) rfl)
theorem w259 {Z : State} {a0 : Array Value} (hw : Hw Z a0) : (Jvm.Cond.methodLink "java/lang/String" (495 : Nat) ({ cls := "java/lang/StringLatin1", name := "charAt", desc := "([BI)C" } : Jvm.MethodName)).before a0 Z = true := hw _ (List.mem_of_getElem? (i := 259) rfl)
theorem w260 {Z : State} {a0 : Array Value} (hw : Hw Z a0) : (Jvm.Cond.static ({ cls := "java/lang/StringLatin1", name := "charAt", desc := "([BI)C" } : Jvm.MethodName)).before a0 Z = true := hw _ (List.mem_of_getElem? (i := 260) rfl)
theorem w261 {Z : State} {a0 : Array Value} (hw : Hw Z a0) : (Jvm.Cond.initialized "java/lang/StringLatin1").before a0 Z = true := hw _ (List.mem_of_getElem? (i := 261) rfl)
theorem w262 {Z : State} {a0 : Array Value} (hw : Hw Z a0) : (Jvm.Cond.code ({ cls := "java/lang/StringLatin1", name := "charAt", desc := "([BI)C" } : Jvm.MethodName) jdk_43_method_2_code (2 : Nat) (Option.some Jvm.ClassFile.FieldType.char)).before a0 Z = true := hw _ (List.mem_of_getElem? (i := 262) rfl)
theorem w263 {Z : State} {a0 : Array Value} (hw : Hw Z a0) : (Jvm.Cond.methodLink "java/lang/StringLatin1" (9 : Nat) ({ cls := "java/lang/String", name := "checkIndex", desc := "(II)V" } : Jvm.MethodName)).before a0 Z = true := hw _ (List.mem_of_getElem? (i := 263) rfl)
theorem w264 {Z : State} {a0 : Array Value} (hw : Hw Z a0) : (Jvm.Cond.static ({ cls := "java/lang/String", name := "checkIndex", desc := "(II)V" } : Jvm.MethodName)).before a0 Z = true := hw _ (List.mem_of_getElem? (i := 264) rfl)
theorem w265 {Z : State} {a0 : Array Value} (hw : Hw Z a0) : (Jvm.Cond.code ({ cls := "java/lang/String", name := "checkIndex", desc := "(II)V" } : Jvm.MethodName) jdk_42_method_155_code (2 : Nat) (Option.none : Option Jvm.ClassFile.FieldType)).before a0 Z = true := hw _ (List.mem_of_getElem? (i := 265) rfl)
theorem w266 {Z : State} {a0 : Array Value} (hw : Hw Z a0) : (Jvm.Cond.fieldLink "java/lang/String" (1053 : Nat) "jdk/internal/util/Preconditions" "SIOOBE_FORMATTER" "Ljava/util/function/BiFunction;").before a0 Z = true := hw _ (List.mem_of_getElem? (i := 266) rfl)
theorem w267 {Z : State} {a0 : Array Value} (hw : Hw Z a0) : (Jvm.Cond.initialized "jdk/internal/util/Preconditions").before a0 Z = true := hw _ (List.mem_of_getElem? (i := 267) rfl)
theorem w268 {Z : State} {a0 : Array Value} (hw : Hw Z a0) : (Jvm.Cond.methodLink "java/lang/String" (1059 : Nat) ({ cls := "jdk/internal/util/Preconditions", name := "checkIndex", desc := "(IILjava/util/function/BiFunction;)I" } : Jvm.MethodName)).before a0 Z = true := hw _ (List.mem_of_getElem? (i := 268) rfl)
theorem w269 {Z : State} {a0 : Array Value} (hw : Hw Z a0) : (Jvm.Cond.static ({ cls := "jdk/internal/util/Preconditions", name := "checkIndex", desc := "(IILjava/util/function/BiFunction;)I" } : Jvm.MethodName)).before a0 Z = true := hw _ (List.mem_of_getElem? (i := 269) rfl)
theorem w270 {Z : State} {a0 : Array Value} (hw : Hw Z a0) : (Jvm.Cond.code ({ cls := "jdk/internal/util/Preconditions", name := "checkIndex", desc := "(IILjava/util/function/BiFunction;)I" } : Jvm.MethodName) jdk_41_method_11_code (3 : Nat) (Option.some Jvm.ClassFile.FieldType.int)).before a0 Z = true := hw _ (List.mem_of_getElem? (i := 270) rfl)
theorem w271 {Z : State} {a0 : Array Value} (hw : Hw Z a0) : (Jvm.Cond.constant "com/example/nerai/nerai/crawler/MalformedFileExceptionAtLinePinLaw" (76 : Nat) (2147483647 : Int32)).before a0 Z = true := hw _ (List.mem_of_getElem? (i := 271) rfl)
theorem w272 {Z : State} {a0 : Array Value} (hw : Hw Z a0) : (Jvm.Cond.methodLink "java/lang/String" (177 : Nat) ({ cls := "java/lang/StringUTF16", name := "compress", desc := "([CII)[B" } : Jvm.MethodName)).before a0 Z = true := hw _ (List.mem_of_getElem? (i := 272) rfl)
theorem w273 {Z : State} {a0 : Array Value} (hw : Hw Z a0) : (Jvm.Cond.static ({ cls := "java/lang/StringUTF16", name := "compress", desc := "([CII)[B" } : Jvm.MethodName)).before a0 Z = true := hw _ (List.mem_of_getElem? (i := 273) rfl)
theorem w274 {Z : State} {a0 : Array Value} (hw : Hw Z a0) : (Jvm.Cond.initialized "java/lang/StringUTF16").before a0 Z = true := hw _ (List.mem_of_getElem? (i := 274) rfl)
theorem w275 {Z : State} {a0 : Array Value} (hw : Hw Z a0) : (Jvm.Cond.code ({ cls := "java/lang/StringUTF16", name := "compress", desc := "([CII)[B" } : Jvm.MethodName) jdk_52_method_16_code (6 : Nat) (Option.some (Jvm.ClassFile.FieldType.array Jvm.ClassFile.FieldType.byte))).before a0 Z = true := hw _ (List.mem_of_getElem? (i := 275) rfl)
theorem w276 {Z : State} {a0 : Array Value} (hw : Hw Z a0) : (Jvm.Cond.methodLink "java/lang/StringUTF16" (115 : Nat) ({ cls := "java/lang/StringUTF16", name := "compress", desc := "([CI[BII)I" } : Jvm.MethodName)).before a0 Z = true := hw _ (List.mem_of_getElem? (i := 276) rfl)
theorem w277 {Z : State} {a0 : Array Value} (hw : Hw Z a0) : (Jvm.Cond.static ({ cls := "java/lang/StringUTF16", name := "compress", desc := "([CI[BII)I" } : Jvm.MethodName)).before a0 Z = true := hw _ (List.mem_of_getElem? (i := 277) rfl)
theorem w278 {Z : State} {a0 : Array Value} (hw : Hw Z a0) : (Jvm.Cond.code ({ cls := "java/lang/StringUTF16", name := "compress", desc := "([CI[BII)I" } : Jvm.MethodName) jdk_52_method_21_code (7 : Nat) (Option.some Jvm.ClassFile.FieldType.int)).before a0 Z = true := hw _ (List.mem_of_getElem? (i := 278) rfl)
theorem w279 {Z : State} {a0 : Array Value} (hw : Hw Z a0) : (Jvm.Cond.methodLink "java/lang/String" (47 : Nat) ({ cls := "java/lang/StringUTF16", name := "coderFromArrayLen", desc := "([BI)B" } : Jvm.MethodName)).before a0 Z = true := hw _ (List.mem_of_getElem? (i := 279) rfl)
theorem w280 {Z : State} {a0 : Array Value} (hw : Hw Z a0) : (Jvm.Cond.static ({ cls := "java/lang/StringUTF16", name := "coderFromArrayLen", desc := "([BI)B" } : Jvm.MethodName)).before a0 Z = true := hw _ (List.mem_of_getElem? (i := 280) rfl)
theorem w281 {Z : State} {a0 : Array Value} (hw : Hw Z a0) : (Jvm.Cond.code ({ cls := "java/lang/StringUTF16", name := "coderFromArrayLen", desc := "([BI)B" } : Jvm.MethodName) jdk_52_method_15_code (2 : Nat) (Option.some Jvm.ClassFile.FieldType.byte)).before a0 Z = true := hw _ (List.mem_of_getElem? (i := 281) rfl)
theorem w282 {Z : State} {a0 : Array Value} (hw : Hw Z a0) : (Jvm.Cond.constantLong "java/lang/Long" (53 : Nat) (10 : Int64)).before a0 Z = true := hw _ (List.mem_of_getElem? (i := 282) rfl)
theorem w283 {Z : State} {a0 : Array Value} (hw : Hw Z a0) : (Jvm.Cond.fieldLink "java/lang/Long" (137 : Nat) "java/lang/Integer" "DigitTens" "[B").before a0 Z = true := hw _ (List.mem_of_getElem? (i := 283) rfl)
theorem w284 {Z : State} {a0 : Array Value} (hw : Hw Z a0) : (Jvm.Cond.methodLink "com/example/nerai/nerai/crawler/MalformedFileExceptionAtLinePinLaw" (12 : Nat) ({ cls := "java/lang/String", name := "valueOf", desc := "(C)Ljava/lang/String;" } : Jvm.MethodName)).before a0 Z = true := hw _ (List.mem_of_getElem? (i := 284) rfl)
theorem w285 {Z : State} {a0 : Array Value} (hw : Hw Z a0) : (Jvm.Cond.static ({ cls := "java/lang/String", name := "valueOf", desc := "(C)Ljava/lang/String;" } : Jvm.MethodName)).before a0 Z = true := hw _ (List.mem_of_getElem? (i := 285) rfl)
theorem w286 {Z : State} {a0 : Array Value} (hw : Hw Z a0) : (Jvm.Cond.code ({ cls := "java/lang/String", name := "valueOf", desc := "(C)Ljava/lang/String;" } : Jvm.MethodName) jdk_42_method_139_code (1 : Nat) (Option.some (Jvm.ClassFile.FieldType.object "java/lang/String"))).before a0 Z = true := hw _ (List.mem_of_getElem? (i := 286) rfl)
theorem w287 {Z : State} {a0 : Array Value} (hw : Hw Z a0) : (Jvm.Cond.methodLink "java/lang/String" (1015 : Nat) ({ cls := "java/lang/StringLatin1", name := "canEncode", desc := "(C)Z" } : Jvm.MethodName)).before a0 Z = true := hw _ (List.mem_of_getElem? (i := 287) rfl)
theorem w288 {Z : State} {a0 : Array Value} (hw : Hw Z a0) : (Jvm.Cond.static ({ cls := "java/lang/StringLatin1", name := "canEncode", desc := "(C)Z" } : Jvm.MethodName)).before a0 Z = true := hw _ (List.mem_of_getElem? (i := 288) rfl)
theorem w289 {Z : State} {a0 : Array Value} (hw : Hw Z a0) : (Jvm.Cond.code ({ cls := "java/lang/StringLatin1", name := "canEncode", desc := "(C)Z" } : Jvm.MethodName) jdk_43_method_3_code (1 : Nat) (Option.some Jvm.ClassFile.FieldType.boolean)).before a0 Z = true := hw _ (List.mem_of_getElem? (i := 289) rfl)
theorem w290 {Z : State} {a0 : Array Value} (hw : Hw Z a0) : (Jvm.Cond.classLink "java/lang/String" (10 : Nat) "java/lang/String").before a0 Z = true := hw _ (List.mem_of_getElem? (i := 290) rfl)
theorem w291 {Z : State} {a0 : Array Value} (hw : Hw Z a0) : (Jvm.Cond.methodLink "java/lang/String" (1018 : Nat) ({ cls := "java/lang/StringLatin1", name := "toBytes", desc := "(C)[B" } : Jvm.MethodName)).before a0 Z = true := hw _ (List.mem_of_getElem? (i := 291) rfl)
theorem w292 {Z : State} {a0 : Array Value} (hw : Hw Z a0) : (Jvm.Cond.static ({ cls := "java/lang/StringLatin1", name := "toBytes", desc := "(C)[B" } : Jvm.MethodName)).before a0 Z = true := hw _ (List.mem_of_getElem? (i := 292) rfl)
theorem w293 {Z : State} {a0 : Array Value} (hw : Hw Z a0) : (Jvm.Cond.code ({ cls := "java/lang/StringLatin1", name := "toBytes", desc := "(C)[B" } : Jvm.MethodName) jdk_43_method_46_code (1 : Nat) (Option.some (Jvm.ClassFile.FieldType.array Jvm.ClassFile.FieldType.byte))).before a0 Z = true := hw _ (List.mem_of_getElem? (i := 293) rfl)
theorem w294 {Z : State} {a0 : Array Value} (hw : Hw Z a0) : (Jvm.Cond.methodLink "java/lang/String" (209 : Nat) ({ cls := "java/lang/String", name := "<init>", desc := "([BB)V" } : Jvm.MethodName)).before a0 Z = true := hw _ (List.mem_of_getElem? (i := 294) rfl)
theorem w295 {Z : State} {a0 : Array Value} (hw : Hw Z a0) : (Jvm.Cond.instanceMethod ({ cls := "java/lang/String", name := "<init>", desc := "([BB)V" } : Jvm.MethodName)).before a0 Z = true := hw _ (List.mem_of_getElem? (i := 295) rfl)
theorem w296 {Z : State} {a0 : Array Value} (hw : Hw Z a0) : (Jvm.Cond.code ({ cls := "java/lang/String", name := "<init>", desc := "([BB)V" } : Jvm.MethodName) jdk_42_method_151_code (3 : Nat) (Option.none : Option Jvm.ClassFile.FieldType)).before a0 Z = true := hw _ (List.mem_of_getElem? (i := 296) rfl)
theorem w297 {Z : State} {a0 : Array Value} (hw : Hw Z a0) : (Jvm.Cond.methodLink "java/lang/AbstractStringBuilder" (104 : Nat) ({ cls := "java/lang/AbstractStringBuilder", name := "newCapacity", desc := "(I)I" } : Jvm.MethodName)).before a0 Z = true := hw _ (List.mem_of_getElem? (i := 297) rfl)
theorem w298 {Z : State} {a0 : Array Value} (hw : Hw Z a0) : (Jvm.Cond.instanceMethod ({ cls := "java/lang/AbstractStringBuilder", name := "newCapacity", desc := "(I)I" } : Jvm.MethodName)).before a0 Z = true := hw _ (List.mem_of_getElem? (i := 298) rfl)
theorem w300 {Z : State} {a0 : Array Value} (hw : Hw Z a0) : (Jvm.Cond.selects "java/lang/StringBuilder" ({ cls := "java/lang/AbstractStringBuilder", name := "newCapacity", desc := "(I)I" } : Jvm.MethodName) ({ cls := "java/lang/AbstractStringBuilder", name := "newCapacity", desc := "(I)I" } : Jvm.MethodName)).before a0 Z = true := hw _ (List.mem_of_getElem? (i := 300) rfl)
theorem w301 {Z : State} {a0 : Array Value} (hw : Hw Z a0) : (Jvm.Cond.code ({ cls := "java/lang/AbstractStringBuilder", name := "newCapacity", desc := "(I)I" } : Jvm.MethodName) jdk_68_method_10_code (6 : Nat) (Option.some Jvm.ClassFile.FieldType.int)).before a0 Z = true := hw _ (List.mem_of_getElem? (i := 301) rfl)
theorem w302 {Z : State} {a0 : Array Value} (hw : Hw Z a0) : (Jvm.Cond.methodLink "java/lang/AbstractStringBuilder" (114 : Nat) ({ cls := "jdk/internal/util/ArraysSupport", name := "newLength", desc := "(III)I" } : Jvm.MethodName)).before a0 Z = true := hw _ (List.mem_of_getElem? (i := 302) rfl)
theorem w303 {Z : State} {a0 : Array Value} (hw : Hw Z a0) : (Jvm.Cond.static ({ cls := "jdk/internal/util/ArraysSupport", name := "newLength", desc := "(III)I" } : Jvm.MethodName)).before a0 Z = true := hw _ (List.mem_of_getElem? (i := 303) rfl)
theorem w304 {Z : State} {a0 : Array Value} (hw : Hw Z a0) : (Jvm.Cond.initialized "jdk/internal/util/ArraysSupport").before a0 Z = true := hw _ (List.mem_of_getElem? (i := 304) rfl)
theorem w305 {Z : State} {a0 : Array Value} (hw : Hw Z a0) : (Jvm.Cond.code ({ cls := "jdk/internal/util/ArraysSupport", name := "newLength", desc := "(III)I" } : Jvm.MethodName) jdk_48_method_27_code (4 : Nat) (Option.some Jvm.ClassFile.FieldType.int)).before a0 Z = true := hw _ (List.mem_of_getElem? (i := 305) rfl)
theorem w306 {Z : State} {a0 : Array Value} (hw : Hw Z a0) : (Jvm.Cond.methodLink "jdk/internal/util/ArraysSupport" (194 : Nat) ({ cls := "java/lang/Math", name := "max", desc := "(II)I" } : Jvm.MethodName)).before a0 Z = true := hw _ (List.mem_of_getElem? (i := 306) rfl)
theorem w307 {Z : State} {a0 : Array Value} (hw : Hw Z a0) : (Jvm.Cond.static ({ cls := "java/lang/Math", name := "max", desc := "(II)I" } : Jvm.MethodName)).before a0 Z = true := hw _ (List.mem_of_getElem? (i := 307) rfl)
theorem w308 {Z : State} {a0 : Array Value} (hw : Hw Z a0) : (Jvm.Cond.code ({ cls := "java/lang/Math", name := "max", desc := "(II)I" } : Jvm.MethodName) jdk_29_method_65_code (2 : Nat) (Option.some Jvm.ClassFile.FieldType.int)).before a0 Z = true := hw _ (List.mem_of_getElem? (i := 308) rfl)
theorem w309 {Z : State} {a0 : Array Value} (hw : Hw Z a0) : (Jvm.Cond.constant "jdk/internal/util/ArraysSupport" (200 : Nat) (2147483639 : Int32)).before a0 Z = true := hw _ (List.mem_of_getElem? (i := 309) rfl)
theorem w310 {Z : State} {a0 : Array Value} (hw : Hw Z a0) : (Jvm.Cond.constant "java/lang/AbstractStringBuilder" (39 : Nat) (2147483647 : Int32)).before a0 Z = true := hw _ (List.mem_of_getElem? (i := 310) rfl)
theorem w311 {Z : State} {a0 : Array Value} (hw : Hw Z a0) : (Jvm.Cond.methodLink "java/lang/AbstractStringBuilder" (108 : Nat) ({ cls := "java/util/Arrays", name := "copyOf", desc := "([BI)[B" } : Jvm.MethodName)).before a0 Z = true := hw _ (List.mem_of_getElem? (i := 311) rfl)
theorem w312 {Z : State} {a0 : Array Value} (hw : Hw Z a0) : (Jvm.Cond.static ({ cls := "java/util/Arrays", name := "copyOf", desc := "([BI)[B" } : Jvm.MethodName)).before a0 Z = true := hw _ (List.mem_of_getElem? (i := 312) rfl)
theorem w313 {Z : State} {a0 : Array Value} (hw : Hw Z a0) : (Jvm.Cond.code ({ cls := "java/util/Arrays", name := "copyOf", desc := "([BI)[B" } : Jvm.MethodName) jdk_65_method_121_code (3 : Nat) (Option.some (Jvm.ClassFile.FieldType.array Jvm.ClassFile.FieldType.byte))).before a0 Z = true := hw _ (List.mem_of_getElem? (i := 313) rfl)
theorem w314 {Z : State} {a0 : Array Value} (hw : Hw Z a0) : (Jvm.Cond.constantLong "java/lang/Long" (131 : Nat) (100 : Int64)).before a0 Z = true := hw _ (List.mem_of_getElem? (i := 314) rfl)
theorem w315 {Z : State} {a0 : Array Value} (hw : Hw Z a0) : (Jvm.Cond.methodLink "java/util/Arrays" (310 : Nat) ({ cls := "[B", name := "clone", desc := "()Ljava/lang/Object;" } : Jvm.MethodName)).before a0 Z = true := hw _ (List.mem_of_getElem? (i := 315) rfl)
theorem w316 {Z : State} {a0 : Array Value} (hw : Hw Z a0) : (Jvm.Cond.sameMethod "[B" "java/lang/Object" "clone" "()Ljava/lang/Object;").before a0 Z = true := hw _ (List.mem_of_getElem? (i := 316) rfl)
theorem w318 {Z : State} {a0 : Array Value} (hw : Hw Z a0) : (Jvm.Cond.instanceMethod ({ cls := "java/lang/Object", name := "clone", desc := "()Ljava/lang/Object;" } : Jvm.MethodName)).before a0 Z = true := hw _ (List.mem_of_getElem? (i := 318) rfl)
theorem w319 {Z : State} {a0 : Array Value} (hw : Hw Z a0) : (Jvm.Cond.selects "[B" ({ cls := "[B", name := "clone", desc := "()Ljava/lang/Object;" } : Jvm.MethodName) ({ cls := "java/lang/Object", name := "clone", desc := "()Ljava/lang/Object;" } : Jvm.MethodName)).before a0 Z = true := hw _ (List.mem_of_getElem? (i := 319) rfl)
theorem w320 {Z : State} {a0 : Array Value} (hw : Hw Z a0) : (Jvm.Cond.native ({ cls := "java/lang/Object", name := "clone", desc := "()Ljava/lang/Object;" } : Jvm.MethodName)).before a0 Z = true := hw _ (List.mem_of_getElem? (i := 320) rfl)
theorem w321 {Z : State} {a0 : Array Value} (hw : Hw Z a0) : (Jvm.Cond.castable "[B" "java/lang/Cloneable").before a0 Z = true := hw _ (List.mem_of_getElem? (i := 321) rfl)
theorem w322 {Z : State} {a0 : Array Value} (hw : Hw Z a0) : (Jvm.Cond.classLink "java/util/Arrays" (311 : Nat) "[B").before a0 Z = true := hw _ (List.mem_of_getElem? (i := 322) rfl)
theorem w323 {Z : State} {a0 : Array Value} (hw : Hw Z a0) : (Jvm.Cond.castable "[B" "[B").before a0 Z = true := hw _ (List.mem_of_getElem? (i := 323) rfl)
theorem pd0 : parseMethodDescriptor "([CI[BII)I" = some ⟨[(.array .char), .int, (.array .byte), .int, .int], some .int⟩ := by decide +kernel
theorem pd1 : parseMethodDescriptor "([CII)[B" = some ⟨[(.array .char), .int, .int], some (.array .byte)⟩ := by decide +kernel
theorem pd2 : parseMethodDescriptor "([BI)B" = some ⟨[(.array .byte), .int], some .byte⟩ := by decide +kernel
theorem pd3 : parseMethodDescriptor "([CIILjava/lang/Void;)V" = some ⟨[(.array .char), .int, .int, (.object "java/lang/Void")], none⟩ := by decide +kernel
theorem pd4 : parseMethodDescriptor "()B" = some ⟨[], some .byte⟩ := by decide +kernel
theorem pd5 : parseMethodDescriptor "(IILjava/util/function/BiFunction;)I" = some ⟨[.int, .int, (.object "java/util/function/BiFunction")], some .int⟩ := by decide +kernel
theorem pd6 : parseMethodDescriptor "(II)V" = some ⟨[.int, .int], none⟩ := by decide +kernel
theorem pd7 : parseMethodDescriptor "()Z" = some ⟨[], some .boolean⟩ := by decide +kernel
theorem pd8 : parseMethodDescriptor "([BI)C" = some ⟨[(.array .byte), .int], some .char⟩ := by decide +kernel
theorem pd9 : parseMethodDescriptor "(II)I" = some ⟨[.int, .int], some .int⟩ := by decide +kernel
theorem pd10 : parseMethodDescriptor "(III)I" = some ⟨[.int, .int, .int], some .int⟩ := by decide +kernel
theorem pd11 : parseMethodDescriptor "(I)I" = some ⟨[.int], some .int⟩ := by decide +kernel
theorem pd12 : parseMethodDescriptor "([BI)[B" = some ⟨[(.array .byte), .int], some (.array .byte)⟩ := by decide +kernel
theorem pd13 : parseMethodDescriptor "(Ljava/lang/String;)V" = some ⟨[(.object "java/lang/String")], none⟩ := by decide +kernel
theorem pd14 : parseMethodDescriptor "([BIB)V" = some ⟨[(.array .byte), .int, .byte], none⟩ := by decide +kernel
theorem pd15 : parseMethodDescriptor "()I" = some ⟨[], some .int⟩ := by decide +kernel
theorem pd16 : parseMethodDescriptor "(I)V" = some ⟨[.int], none⟩ := by decide +kernel
theorem pd17 : parseMethodDescriptor "(ILjava/lang/String;)V" = some ⟨[.int, (.object "java/lang/String")], none⟩ := by decide +kernel
theorem pd18 : parseMethodDescriptor "(Ljava/lang/String;)Ljava/lang/AbstractStringBuilder;" = some ⟨[(.object "java/lang/String")], some (.object "java/lang/AbstractStringBuilder")⟩ := by decide +kernel
theorem pd19 : parseMethodDescriptor "([BII)[B" = some ⟨[(.array .byte), .int, .int], some (.array .byte)⟩ := by decide +kernel
theorem pd20 : parseMethodDescriptor "()[B" = some ⟨[], some (.array .byte)⟩ := by decide +kernel
theorem pd21 : parseMethodDescriptor "(Ljava/lang/AbstractStringBuilder;Ljava/lang/Void;)V" = some ⟨[(.object "java/lang/AbstractStringBuilder"), (.object "java/lang/Void")], none⟩ := by decide +kernel
theorem pd22 : parseMethodDescriptor "(Ljava/lang/StringBuilder;)V" = some ⟨[(.object "java/lang/StringBuilder")], none⟩ := by decide +kernel
theorem pd23 : parseMethodDescriptor "(J)I" = some ⟨[.long], some .int⟩ := by decide +kernel
theorem pd24 : parseMethodDescriptor "(JI[B)I" = some ⟨[.long, .int, (.array .byte)], some .int⟩ := by decide +kernel
theorem pd25 : parseMethodDescriptor "(J)Ljava/lang/AbstractStringBuilder;" = some ⟨[.long], some (.object "java/lang/AbstractStringBuilder")⟩ := by decide +kernel
theorem pd26 : parseMethodDescriptor "(C)Z" = some ⟨[.char], some .boolean⟩ := by decide +kernel
theorem pd27 : parseMethodDescriptor "(C)[B" = some ⟨[.char], some (.array .byte)⟩ := by decide +kernel
theorem pd28 : parseMethodDescriptor "([BB)V" = some ⟨[(.array .byte), .byte], none⟩ := by decide +kernel
theorem pd29 : parseMethodDescriptor "()V" = some ⟨[], none⟩ := by decide +kernel
theorem pd30 : parseMethodDescriptor "(Ljava/lang/String;)Ljava/lang/StringBuilder;" = some ⟨[(.object "java/lang/String")], some (.object "java/lang/StringBuilder")⟩ := by decide +kernel
theorem pd31 : parseMethodDescriptor "(J)Ljava/lang/StringBuilder;" = some ⟨[.long], some (.object "java/lang/StringBuilder")⟩ := by decide +kernel
theorem pd32 : parseMethodDescriptor "()Ljava/lang/String;" = some ⟨[], some (.object "java/lang/String")⟩ := by decide +kernel
theorem pd33 : parseMethodDescriptor "([C)V" = some ⟨[(.array .char)], none⟩ := by decide +kernel
theorem pd34 : parseMethodDescriptor "(C)Ljava/lang/String;" = some ⟨[.char], some (.object "java/lang/String")⟩ := by decide +kernel
theorem pd35 : parseMethodDescriptor "(I)C" = some ⟨[.int], some .char⟩ := by decide +kernel
theorem pd36 : parseMethodDescriptor "(ICCC)Ljava/lang/String;" = some ⟨[.int, .char, .char, .char], some (.object "java/lang/String")⟩ := by decide +kernel
theorem pd37 : parseMethodDescriptor "(JLjava/lang/String;)Lcom/example/nerai/nerai/crawler/MalformedFileException;" = some ⟨[.long, (.object "java/lang/String")], some (.object "com/example/nerai/nerai/crawler/MalformedFileException")⟩ := by decide +kernel
theorem pn0 : plainFor (⟨"java/lang/StringUTF16", "compress", "([CI[BII)I"⟩ : MethodName) = true := by first | exact plainFor_of_name (by first | (simp [plainName, overriddenIn]; done) | decide +kernel) | decide +kernel
theorem pn1 : plainFor (⟨"java/lang/StringUTF16", "compress", "([CII)[B"⟩ : MethodName) = true := by first | exact plainFor_of_name (by first | (simp [plainName, overriddenIn]; done) | decide +kernel) | decide +kernel
theorem pn2 : plainFor (⟨"java/lang/StringUTF16", "coderFromArrayLen", "([BI)B"⟩ : MethodName) = true := by first | exact plainFor_of_name (by first | (simp [plainName, overriddenIn]; done) | decide +kernel) | decide +kernel
theorem pn3 : plainFor (⟨"java/lang/String", "<init>", "([CIILjava/lang/Void;)V"⟩ : MethodName) = true := by first | exact plainFor_of_name (by first | (simp [plainName, overriddenIn]; done) | decide +kernel) | decide +kernel
theorem pn4 : plainFor (⟨"java/lang/String", "<init>", "([C)V"⟩ : MethodName) = true := by first | exact plainFor_of_name (by first | (simp [plainName, overriddenIn]; done) | decide +kernel) | decide +kernel
theorem pn5 : plainFor (⟨"java/lang/String", "coder", "()B"⟩ : MethodName) = true := by first | exact plainFor_of_name (by first | (simp [plainName, overriddenIn]; done) | decide +kernel) | decide +kernel
theorem pn6 : plainFor (⟨"java/lang/String", "length", "()I"⟩ : MethodName) = true := by first | exact plainFor_of_name (by first | (simp [plainName, overriddenIn]; done) | decide +kernel) | decide +kernel
theorem pn7 : plainFor (⟨"java/lang/String", "isLatin1", "()Z"⟩ : MethodName) = true := by first | exact plainFor_of_name (by first | (simp [plainName, overriddenIn]; done) | decide +kernel) | decide +kernel
theorem pn8 : plainFor (⟨"jdk/internal/util/Preconditions", "checkIndex", "(IILjava/util/function/BiFunction;)I"⟩ : MethodName) = true := by first | exact plainFor_of_name (by first | (simp [plainName, overriddenIn]; done) | decide +kernel) | decide +kernel
theorem pn9 : plainFor (⟨"java/lang/String", "checkIndex", "(II)V"⟩ : MethodName) = true := by first | exact plainFor_of_name (by first | (simp [plainName, overriddenIn]; done) | decide +kernel) | decide +kernel
theorem pn10 : plainFor (⟨"java/lang/StringLatin1", "charAt", "([BI)C"⟩ : MethodName) = true := by first | exact plainFor_of_name (by first | (simp [plainName, overriddenIn]; done) | decide +kernel) | decide +kernel
theorem pn11 : plainFor (⟨"java/lang/String", "charAt", "(I)C"⟩ : MethodName) = true := by first | exact plainFor_of_name (by first | (simp [plainName, overriddenIn]; done) | decide +kernel) | decide +kernel
theorem pn12 : plainFor (⟨"java/lang/Math", "min", "(II)I"⟩ : MethodName) = true := by first | exact plainFor_of_name (by first | (simp [plainName, overriddenIn]; done) | decide +kernel) | decide +kernel
theorem pn13 : plainFor (⟨"java/lang/AbstractStringBuilder", "<init>", "(I)V"⟩ : MethodName) = true := by first | exact plainFor_of_name (by first | (simp [plainName, overriddenIn]; done) | decide +kernel) | decide +kernel
theorem pn14 : plainFor (⟨"java/lang/Math", "max", "(II)I"⟩ : MethodName) = true := by first | exact plainFor_of_name (by first | (simp [plainName, overriddenIn]; done) | decide +kernel) | decide +kernel
theorem pn15 : plainFor (⟨"jdk/internal/util/ArraysSupport", "newLength", "(III)I"⟩ : MethodName) = true := by first | exact plainFor_of_name (by first | (simp [plainName, overriddenIn]; done) | decide +kernel) | decide +kernel
theorem pn16 : plainFor (⟨"java/lang/AbstractStringBuilder", "newCapacity", "(I)I"⟩ : MethodName) = true := by first | exact plainFor_of_name (by first | (simp [plainName, overriddenIn]; done) | decide +kernel) | decide +kernel
theorem pn17 : plainFor (⟨"java/util/Arrays", "copyOf", "([BI)[B"⟩ : MethodName) = true := by first | exact plainFor_of_name (by first | (simp [plainName, overriddenIn]; done) | decide +kernel) | decide +kernel
theorem pn18 : plainFor (⟨"java/lang/AbstractStringBuilder", "ensureCapacityInternal", "(I)V"⟩ : MethodName) = true := by first | exact plainFor_of_name (by first | (simp [plainName, overriddenIn]; done) | decide +kernel) | decide +kernel
theorem pn19 : plainFor (⟨"java/lang/AbstractStringBuilder", "inflateIfNeededFor", "(Ljava/lang/String;)V"⟩ : MethodName) = true := by first | exact plainFor_of_name (by first | (simp [plainName, overriddenIn]; done) | decide +kernel) | decide +kernel
theorem pn20 : plainFor (⟨"java/lang/String", "getBytes", "([BIB)V"⟩ : MethodName) = true := by first | exact plainFor_of_name (by first | (simp [plainName, overriddenIn]; done) | decide +kernel) | decide +kernel
theorem pn21 : plainFor (⟨"java/lang/AbstractStringBuilder", "putStringAt", "(ILjava/lang/String;)V"⟩ : MethodName) = true := by first | exact plainFor_of_name (by first | (simp [plainName, overriddenIn]; done) | decide +kernel) | decide +kernel
theorem pn22 : plainFor (⟨"java/lang/AbstractStringBuilder", "append", "(Ljava/lang/String;)Ljava/lang/AbstractStringBuilder;"⟩ : MethodName) = true := by first | exact plainFor_of_name (by first | (simp [plainName, overriddenIn]; done) | decide +kernel) | decide +kernel
theorem pn23 : plainFor (⟨"java/lang/StringBuilder", "append", "(Ljava/lang/String;)Ljava/lang/StringBuilder;"⟩ : MethodName) = true := by first | exact plainFor_of_name (by first | (simp [plainName, overriddenIn]; done) | decide +kernel) | decide +kernel
theorem pn24 : plainFor (⟨"java/lang/AbstractStringBuilder", "isLatin1", "()Z"⟩ : MethodName) = true := by first | exact plainFor_of_name (by first | (simp [plainName, overriddenIn]; done) | decide +kernel) | decide +kernel
theorem pn25 : plainFor (⟨"java/util/Arrays", "checkLength", "(II)V"⟩ : MethodName) = true := by first | exact plainFor_of_name (by first | (simp [plainName, overriddenIn]; done) | decide +kernel) | decide +kernel
theorem pn26 : plainFor (⟨"java/util/Arrays", "copyOfRangeByte", "([BII)[B"⟩ : MethodName) = true := by first | exact plainFor_of_name (by first | (simp [plainName, overriddenIn]; done) | decide +kernel) | decide +kernel
theorem pn27 : plainFor (⟨"java/util/Arrays", "copyOfRange", "([BII)[B"⟩ : MethodName) = true := by first | exact plainFor_of_name (by first | (simp [plainName, overriddenIn]; done) | decide +kernel) | decide +kernel
theorem pn28 : plainFor (⟨"java/lang/AbstractStringBuilder", "getValue", "()[B"⟩ : MethodName) = true := by first | exact plainFor_of_name (by first | (simp [plainName, overriddenIn]; done) | decide +kernel) | decide +kernel
theorem pn29 : plainFor (⟨"java/lang/AbstractStringBuilder", "length", "()I"⟩ : MethodName) = true := by first | exact plainFor_of_name (by first | (simp [plainName, overriddenIn]; done) | decide +kernel) | decide +kernel
theorem pn30 : plainFor (⟨"java/lang/StringBuilder", "length", "()I"⟩ : MethodName) = true := by first | exact plainFor_of_name (by first | (simp [plainName, overriddenIn]; done) | decide +kernel) | decide +kernel
theorem pn31 : plainFor (⟨"java/lang/String", "<init>", "(Ljava/lang/AbstractStringBuilder;Ljava/lang/Void;)V"⟩ : MethodName) = true := by first | exact plainFor_of_name (by first | (simp [plainName, overriddenIn]; done) | decide +kernel) | decide +kernel
theorem pn32 : plainFor (⟨"java/lang/String", "<init>", "(Ljava/lang/StringBuilder;)V"⟩ : MethodName) = true := by first | exact plainFor_of_name (by first | (simp [plainName, overriddenIn]; done) | decide +kernel) | decide +kernel
theorem pn33 : plainFor (⟨"java/lang/StringBuilder", "toString", "()Ljava/lang/String;"⟩ : MethodName) = true := by first | exact plainFor_of_name (by first | (simp [plainName, overriddenIn]; done) | decide +kernel) | decide +kernel
theorem pn34 : plainFor (⟨"java/lang/StringBuilder", "<init>", "()V"⟩ : MethodName) = true := by first | exact plainFor_of_name (by first | (simp [plainName, overriddenIn]; done) | decide +kernel) | decide +kernel
theorem pn35 : plainFor (⟨"java/lang/Long", "stringSize", "(J)I"⟩ : MethodName) = true := by first | exact plainFor_of_name (by first | (simp [plainName, overriddenIn]; done) | decide +kernel) | decide +kernel
theorem pn36 : plainFor (⟨"java/lang/Long", "getChars", "(JI[B)I"⟩ : MethodName) = true := by first | exact plainFor_of_name (by first | (simp [plainName, overriddenIn]; done) | decide +kernel) | decide +kernel
theorem pn37 : plainFor (⟨"java/lang/AbstractStringBuilder", "append", "(J)Ljava/lang/AbstractStringBuilder;"⟩ : MethodName) = true := by first | exact plainFor_of_name (by first | (simp [plainName, overriddenIn]; done) | decide +kernel) | decide +kernel
theorem pn38 : plainFor (⟨"java/lang/StringBuilder", "append", "(J)Ljava/lang/StringBuilder;"⟩ : MethodName) = true := by first | exact plainFor_of_name (by first | (simp [plainName, overriddenIn]; done) | decide +kernel) | decide +kernel
theorem pn39 : plainFor (⟨"java/lang/StringLatin1", "canEncode", "(C)Z"⟩ : MethodName) = true := by first | exact plainFor_of_name (by first | (simp [plainName, overriddenIn]; done) | decide +kernel) | decide +kernel
theorem pn40 : plainFor (⟨"java/lang/StringLatin1", "toBytes", "(C)[B"⟩ : MethodName) = true := by first | exact plainFor_of_name (by first | (simp [plainName, overriddenIn]; done) | decide +kernel) | decide +kernel
theorem pn41 : plainFor (⟨"java/lang/String", "<init>", "([BB)V"⟩ : MethodName) = true := by first | exact plainFor_of_name (by first | (simp [plainName, overriddenIn]; done) | decide +kernel) | decide +kernel
theorem pn42 : plainFor (⟨"java/lang/String", "valueOf", "(C)Ljava/lang/String;"⟩ : MethodName) = true := by first | exact plainFor_of_name (by first | (simp [plainName, overriddenIn]; done) | decide +kernel) | decide +kernel
theorem pn43 : plainFor (⟨"java/lang/Throwable", "<init>", "(Ljava/lang/String;)V"⟩ : MethodName) = true := by first | exact plainFor_of_name (by first | (simp [plainName, overriddenIn]; done) | decide +kernel) | decide +kernel
theorem pn44 : plainFor (⟨"java/lang/Exception", "<init>", "(Ljava/lang/String;)V"⟩ : MethodName) = true := by first | exact plainFor_of_name (by first | (simp [plainName, overriddenIn]; done) | decide +kernel) | decide +kernel
theorem pn45 : plainFor (⟨"java/io/IOException", "<init>", "(Ljava/lang/String;)V"⟩ : MethodName) = true := by first | exact plainFor_of_name (by first | (simp [plainName, overriddenIn]; done) | decide +kernel) | decide +kernel
theorem pn46 : plainFor (⟨"com/example/nerai/nerai/crawler/MalformedFileException", "<init>", "(Ljava/lang/String;)V"⟩ : MethodName) = true := by first | exact plainFor_of_name (by first | (simp [plainName, overriddenIn]; done) | decide +kernel) | decide +kernel
theorem pn47 : plainFor (⟨"com/example/nerai/nerai/crawler/MalformedFileException", "atLine", "(JLjava/lang/String;)Lcom/example/nerai/nerai/crawler/MalformedFileException;"⟩ : MethodName) = true := by first | exact plainFor_of_name (by first | (simp [plainName, overriddenIn]; done) | decide +kernel) | decide +kernel
theorem pn48 : plainFor (⟨"java/lang/Throwable", "getMessage", "()Ljava/lang/String;"⟩ : MethodName) = true := by first | exact plainFor_of_name (by first | (simp [plainName, overriddenIn]; done) | decide +kernel) | decide +kernel
theorem pn49 : plainFor (⟨"com/example/nerai/nerai/crawler/MalformedFileExceptionAtLinePinLaw", "problemOf", "(ICCC)Ljava/lang/String;"⟩ : MethodName) = true := by first | exact plainFor_of_name (by first | (simp [plainName, overriddenIn]; done) | decide +kernel) | decide +kernel
theorem pn50 : plainFor (⟨"com/example/nerai/nerai/crawler/MalformedFileExceptionAtLinePinLaw", "law", "(JIIIII)Z"⟩ : MethodName) = true := by first | exact plainFor_of_name (by first | (simp [plainName, overriddenIn]; done) | decide +kernel) | decide +kernel
theorem d_jdk_52_method_21_3 : decode jdk_52_method_21_code 3 = .ok (.iload 5, 2) := by decide +kernel
theorem d_jdk_52_method_21_5 : decode jdk_52_method_21_code 5 = .ok (.iload 4, 2) := by decide +kernel
theorem d_jdk_52_method_21_7 : decode jdk_52_method_21_code 7 = .ok (.if_icmp .ge 37, 3) := by decide +kernel
theorem d_jdk_52_method_21_44 : decode jdk_52_method_21_code 44 = .ok (.iload 4, 2) := by decide +kernel
theorem d_jdk_52_method_21_46 : decode jdk_52_method_21_code 46 = .ok (.ireturn, 1) := by decide +kernel
theorem d_jdk_52_method_21_10 : decode jdk_52_method_21_code 10 = .ok (.aload_n 0, 1) := by decide +kernel
theorem d_jdk_52_method_21_11 : decode jdk_52_method_21_code 11 = .ok (.iload_n 1, 1) := by decide +kernel
theorem d_jdk_52_method_21_12 : decode jdk_52_method_21_code 12 = .ok (.caload, 1) := by decide +kernel
theorem d_jdk_52_method_21_13 : decode jdk_52_method_21_code 13 = .ok (.istore 6, 2) := by decide +kernel
theorem d_jdk_52_method_21_15 : decode jdk_52_method_21_code 15 = .ok (.iload 6, 2) := by decide +kernel
theorem d_jdk_52_method_21_17 : decode jdk_52_method_21_code 17 = .ok (.sipush 255, 3) := by decide +kernel
theorem d_jdk_52_method_21_20 : decode jdk_52_method_21_code 20 = .ok (.if_icmp .le 6, 3) := by decide +kernel
theorem d_jdk_52_method_21_23 : decode jdk_52_method_21_code 23 = .ok (.iload 5, 2) := by decide +kernel
theorem d_jdk_52_method_21_25 : decode jdk_52_method_21_code 25 = .ok (.ireturn, 1) := by decide +kernel
theorem d_jdk_52_method_21_26 : decode jdk_52_method_21_code 26 = .ok (.aload_n 2, 1) := by decide +kernel
theorem d_jdk_52_method_21_27 : decode jdk_52_method_21_code 27 = .ok (.iload_n 3, 1) := by decide +kernel
theorem d_jdk_52_method_21_28 : decode jdk_52_method_21_code 28 = .ok (.iload 6, 2) := by decide +kernel
theorem d_jdk_52_method_21_30 : decode jdk_52_method_21_code 30 = .ok (.i2b, 1) := by decide +kernel
theorem d_jdk_52_method_21_31 : decode jdk_52_method_21_code 31 = .ok (.bastore, 1) := by decide +kernel
theorem d_jdk_52_method_21_32 : decode jdk_52_method_21_code 32 = .ok (.iinc 1 1, 3) := by decide +kernel
theorem d_jdk_52_method_21_35 : decode jdk_52_method_21_code 35 = .ok (.iinc 3 1, 3) := by decide +kernel
theorem d_jdk_52_method_21_38 : decode jdk_52_method_21_code 38 = .ok (.iinc 5 1, 3) := by decide +kernel
theorem d_jdk_52_method_21_41 : decode jdk_52_method_21_code 41 = .ok (.goto (-38), 3) := by decide +kernel
theorem d_jdk_52_method_21_0 : decode jdk_52_method_21_code 0 = .ok (.iconst 0, 1) := by decide +kernel
theorem d_jdk_52_method_21_1 : decode jdk_52_method_21_code 1 = .ok (.istore 5, 2) := by decide +kernel
theorem d_jdk_52_method_16_0 : decode jdk_52_method_16_code 0 = .ok (.iload_n 2, 1) := by decide +kernel
theorem d_jdk_52_method_16_1 : decode jdk_52_method_16_code 1 = .ok (.newarray .byte, 2) := by decide +kernel
theorem d_jdk_52_method_16_3 : decode jdk_52_method_16_code 3 = .ok (.astore_n 3, 1) := by decide +kernel
theorem d_jdk_52_method_16_4 : decode jdk_52_method_16_code 4 = .ok (.aload_n 0, 1) := by decide +kernel
theorem d_jdk_52_method_16_5 : decode jdk_52_method_16_code 5 = .ok (.iload_n 1, 1) := by decide +kernel
theorem d_jdk_52_method_16_6 : decode jdk_52_method_16_code 6 = .ok (.aload_n 3, 1) := by decide +kernel
theorem d_jdk_52_method_16_7 : decode jdk_52_method_16_code 7 = .ok (.iconst 0, 1) := by decide +kernel
theorem d_jdk_52_method_16_8 : decode jdk_52_method_16_code 8 = .ok (.iload_n 2, 1) := by decide +kernel
theorem d_jdk_52_method_16_9 : decode jdk_52_method_16_code 9 = .ok (.invokestatic 115, 3) := by decide +kernel
theorem d_jdk_52_method_16_12 : decode jdk_52_method_16_code 12 = .ok (.istore 4, 2) := by decide +kernel
theorem d_jdk_52_method_16_14 : decode jdk_52_method_16_code 14 = .ok (.iload 4, 2) := by decide +kernel
theorem d_jdk_52_method_16_16 : decode jdk_52_method_16_code 16 = .ok (.iload_n 2, 1) := by decide +kernel
theorem d_jdk_52_method_16_17 : decode jdk_52_method_16_code 17 = .ok (.if_icmp .eq 40, 3) := by decide +kernel
theorem d_jdk_52_method_16_57 : decode jdk_52_method_16_code 57 = .ok (.aload_n 3, 1) := by decide +kernel
theorem d_jdk_52_method_16_58 : decode jdk_52_method_16_code 58 = .ok (.areturn, 1) := by decide +kernel
theorem d_jdk_52_method_15_0 : decode jdk_52_method_15_code 0 = .ok (.iload_n 1, 1) := by decide +kernel
theorem d_jdk_52_method_15_1 : decode jdk_52_method_15_code 1 = .ok (.aload_n 0, 1) := by decide +kernel
theorem d_jdk_52_method_15_2 : decode jdk_52_method_15_code 2 = .ok (.arraylength, 1) := by decide +kernel
theorem d_jdk_52_method_15_3 : decode jdk_52_method_15_code 3 = .ok (.isub, 1) := by decide +kernel
theorem d_jdk_52_method_15_4 : decode jdk_52_method_15_code 4 = .ok (.bipush 31, 2) := by decide +kernel
theorem d_jdk_52_method_15_6 : decode jdk_52_method_15_code 6 = .ok (.iushr, 1) := by decide +kernel
theorem d_jdk_52_method_15_7 : decode jdk_52_method_15_code 7 = .ok (.i2b, 1) := by decide +kernel
theorem d_jdk_52_method_15_8 : decode jdk_52_method_15_code 8 = .ok (.ireturn, 1) := by decide +kernel
theorem d_jdk_42_method_149_0 : decode jdk_42_method_149_code 0 = .ok (.aload_n 0, 1) := by decide +kernel
theorem d_jdk_42_method_149_1 : decode jdk_42_method_149_code 1 = .ok (.invokespecial 1, 3) := by decide +kernel
theorem d_jdk_42_method_149_4 : decode jdk_42_method_149_code 4 = .ok (.iload_n 3, 1) := by decide +kernel
theorem d_jdk_42_method_149_5 : decode jdk_42_method_149_code 5 = .ok (.ifCond .ne 22, 3) := by decide +kernel
theorem d_jdk_42_method_149_8 : decode jdk_42_method_149_code 8 = .ok (.aload_n 0, 1) := by decide +kernel
theorem d_jdk_42_method_149_9 : decode jdk_42_method_149_code 9 = .ok (.ldc 7, 2) := by decide +kernel
theorem d_jdk_42_method_149_11 : decode jdk_42_method_149_code 11 = .ok (.getfield 9, 3) := by decide +kernel
theorem d_jdk_42_method_149_14 : decode jdk_42_method_149_code 14 = .ok (.putfield 9, 3) := by decide +kernel
theorem d_jdk_42_method_149_17 : decode jdk_42_method_149_code 17 = .ok (.aload_n 0, 1) := by decide +kernel
theorem d_jdk_42_method_149_18 : decode jdk_42_method_149_code 18 = .ok (.ldc 7, 2) := by decide +kernel
theorem d_jdk_42_method_149_20 : decode jdk_42_method_149_code 20 = .ok (.getfield 15, 3) := by decide +kernel
theorem d_jdk_42_method_149_23 : decode jdk_42_method_149_code 23 = .ok (.putfield 15, 3) := by decide +kernel
theorem d_jdk_42_method_149_26 : decode jdk_42_method_149_code 26 = .ok (.return_, 1) := by decide +kernel
theorem d_jdk_42_method_149_27 : decode jdk_42_method_149_code 27 = .ok (.getstatic 38, 3) := by decide +kernel
theorem d_jdk_42_method_149_30 : decode jdk_42_method_149_code 30 = .ok (.ifCond .eq 28, 3) := by decide +kernel
theorem d_jdk_42_method_149_33 : decode jdk_42_method_149_code 33 = .ok (.aload_n 1, 1) := by decide +kernel
theorem d_jdk_42_method_149_34 : decode jdk_42_method_149_code 34 = .ok (.iload_n 2, 1) := by decide +kernel
theorem d_jdk_42_method_149_35 : decode jdk_42_method_149_code 35 = .ok (.iload_n 3, 1) := by decide +kernel
theorem d_jdk_42_method_149_36 : decode jdk_42_method_149_code 36 = .ok (.invokestatic 177, 3) := by decide +kernel
theorem d_jdk_42_method_149_39 : decode jdk_42_method_149_code 39 = .ok (.astore 5, 2) := by decide +kernel
theorem d_jdk_42_method_149_41 : decode jdk_42_method_149_code 41 = .ok (.aload_n 0, 1) := by decide +kernel
theorem d_jdk_42_method_149_42 : decode jdk_42_method_149_code 42 = .ok (.aload 5, 2) := by decide +kernel
theorem d_jdk_42_method_149_44 : decode jdk_42_method_149_code 44 = .ok (.iload_n 3, 1) := by decide +kernel
theorem d_jdk_42_method_149_45 : decode jdk_42_method_149_code 45 = .ok (.invokestatic 47, 3) := by decide +kernel
theorem d_jdk_42_method_149_48 : decode jdk_42_method_149_code 48 = .ok (.putfield 15, 3) := by decide +kernel
theorem d_jdk_42_method_149_51 : decode jdk_42_method_149_code 51 = .ok (.aload_n 0, 1) := by decide +kernel
theorem d_jdk_42_method_149_52 : decode jdk_42_method_149_code 52 = .ok (.aload 5, 2) := by decide +kernel
theorem d_jdk_42_method_149_54 : decode jdk_42_method_149_code 54 = .ok (.putfield 9, 3) := by decide +kernel
theorem d_jdk_42_method_149_57 : decode jdk_42_method_149_code 57 = .ok (.return_, 1) := by decide +kernel
theorem d_jdk_42_method_3_0 : decode jdk_42_method_3_code 0 = .ok (.aload_n 0, 1) := by decide +kernel
theorem d_jdk_42_method_3_1 : decode jdk_42_method_3_code 1 = .ok (.aload_n 1, 1) := by decide +kernel
theorem d_jdk_42_method_3_2 : decode jdk_42_method_3_code 2 = .ok (.iconst 0, 1) := by decide +kernel
theorem d_jdk_42_method_3_3 : decode jdk_42_method_3_code 3 = .ok (.aload_n 1, 1) := by decide +kernel
theorem d_jdk_42_method_3_4 : decode jdk_42_method_3_code 4 = .ok (.arraylength, 1) := by decide +kernel
theorem d_jdk_42_method_3_5 : decode jdk_42_method_3_code 5 = .ok (.aconst_null, 1) := by decide +kernel
theorem d_jdk_42_method_3_6 : decode jdk_42_method_3_code 6 = .ok (.invokespecial 27, 3) := by decide +kernel
theorem d_jdk_42_method_3_9 : decode jdk_42_method_3_code 9 = .ok (.return_, 1) := by decide +kernel
theorem d_jdk_42_method_152_0 : decode jdk_42_method_152_code 0 = .ok (.getstatic 38, 3) := by decide +kernel
theorem d_jdk_42_method_152_3 : decode jdk_42_method_152_code 3 = .ok (.ifCond .eq 10, 3) := by decide +kernel
theorem d_jdk_42_method_152_6 : decode jdk_42_method_152_code 6 = .ok (.aload_n 0, 1) := by decide +kernel
theorem d_jdk_42_method_152_7 : decode jdk_42_method_152_code 7 = .ok (.getfield 15, 3) := by decide +kernel
theorem d_jdk_42_method_152_10 : decode jdk_42_method_152_code 10 = .ok (.goto 4, 3) := by decide +kernel
theorem d_jdk_42_method_152_14 : decode jdk_42_method_152_code 14 = .ok (.ireturn, 1) := by decide +kernel
theorem d_jdk_42_method_54_0 : decode jdk_42_method_54_code 0 = .ok (.aload_n 0, 1) := by decide +kernel
theorem d_jdk_42_method_54_1 : decode jdk_42_method_54_code 1 = .ok (.getfield 9, 3) := by decide +kernel
theorem d_jdk_42_method_54_4 : decode jdk_42_method_54_code 4 = .ok (.arraylength, 1) := by decide +kernel
theorem d_jdk_42_method_54_5 : decode jdk_42_method_54_code 5 = .ok (.aload_n 0, 1) := by decide +kernel
theorem d_jdk_42_method_54_6 : decode jdk_42_method_54_code 6 = .ok (.invokevirtual 335, 3) := by decide +kernel
theorem d_jdk_42_method_54_9 : decode jdk_42_method_54_code 9 = .ok (.ishr, 1) := by decide +kernel
theorem d_jdk_42_method_54_10 : decode jdk_42_method_54_code 10 = .ok (.ireturn, 1) := by decide +kernel
theorem d_jdk_42_method_154_0 : decode jdk_42_method_154_code 0 = .ok (.getstatic 38, 3) := by decide +kernel
theorem d_jdk_42_method_154_3 : decode jdk_42_method_154_code 3 = .ok (.ifCond .eq 14, 3) := by decide +kernel
theorem d_jdk_42_method_154_6 : decode jdk_42_method_154_code 6 = .ok (.aload_n 0, 1) := by decide +kernel
theorem d_jdk_42_method_154_7 : decode jdk_42_method_154_code 7 = .ok (.getfield 15, 3) := by decide +kernel
theorem d_jdk_42_method_154_10 : decode jdk_42_method_154_code 10 = .ok (.ifCond .ne 7, 3) := by decide +kernel
theorem d_jdk_42_method_154_13 : decode jdk_42_method_154_code 13 = .ok (.iconst 1, 1) := by decide +kernel
theorem d_jdk_42_method_154_14 : decode jdk_42_method_154_code 14 = .ok (.goto 4, 3) := by decide +kernel
theorem d_jdk_42_method_154_18 : decode jdk_42_method_154_code 18 = .ok (.ireturn, 1) := by decide +kernel
theorem d_jdk_41_method_11_0 : decode jdk_41_method_11_code 0 = .ok (.iload_n 0, 1) := by decide +kernel
theorem d_jdk_41_method_11_1 : decode jdk_41_method_11_code 1 = .ok (.ifCond .lt 8, 3) := by decide +kernel
theorem d_jdk_41_method_11_4 : decode jdk_41_method_11_code 4 = .ok (.iload_n 0, 1) := by decide +kernel
theorem d_jdk_41_method_11_5 : decode jdk_41_method_11_code 5 = .ok (.iload_n 1, 1) := by decide +kernel
theorem d_jdk_41_method_11_6 : decode jdk_41_method_11_code 6 = .ok (.if_icmp .lt 10, 3) := by decide +kernel
theorem d_jdk_41_method_11_16 : decode jdk_41_method_11_code 16 = .ok (.iload_n 0, 1) := by decide +kernel
theorem d_jdk_41_method_11_17 : decode jdk_41_method_11_code 17 = .ok (.ireturn, 1) := by decide +kernel
theorem d_jdk_42_method_155_0 : decode jdk_42_method_155_code 0 = .ok (.iload_n 0, 1) := by decide +kernel
theorem d_jdk_42_method_155_1 : decode jdk_42_method_155_code 1 = .ok (.iload_n 1, 1) := by decide +kernel
theorem d_jdk_42_method_155_2 : decode jdk_42_method_155_code 2 = .ok (.getstatic 1053, 3) := by decide +kernel
theorem d_jdk_42_method_155_5 : decode jdk_42_method_155_code 5 = .ok (.invokestatic 1059, 3) := by decide +kernel
theorem d_jdk_42_method_155_8 : decode jdk_42_method_155_code 8 = .ok (.pop, 1) := by decide +kernel
theorem d_jdk_42_method_155_9 : decode jdk_42_method_155_code 9 = .ok (.return_, 1) := by decide +kernel
theorem d_jdk_43_method_2_0 : decode jdk_43_method_2_code 0 = .ok (.iload_n 1, 1) := by decide +kernel
theorem d_jdk_43_method_2_1 : decode jdk_43_method_2_code 1 = .ok (.aload_n 0, 1) := by decide +kernel
theorem d_jdk_43_method_2_2 : decode jdk_43_method_2_code 2 = .ok (.arraylength, 1) := by decide +kernel
theorem d_jdk_43_method_2_3 : decode jdk_43_method_2_code 3 = .ok (.invokestatic 9, 3) := by decide +kernel
theorem d_jdk_43_method_2_6 : decode jdk_43_method_2_code 6 = .ok (.aload_n 0, 1) := by decide +kernel
theorem d_jdk_43_method_2_7 : decode jdk_43_method_2_code 7 = .ok (.iload_n 1, 1) := by decide +kernel
theorem d_jdk_43_method_2_8 : decode jdk_43_method_2_code 8 = .ok (.baload, 1) := by decide +kernel
theorem d_jdk_43_method_2_9 : decode jdk_43_method_2_code 9 = .ok (.sipush 255, 3) := by decide +kernel
theorem d_jdk_43_method_2_12 : decode jdk_43_method_2_code 12 = .ok (.iand, 1) := by decide +kernel
theorem d_jdk_43_method_2_13 : decode jdk_43_method_2_code 13 = .ok (.i2c, 1) := by decide +kernel
theorem d_jdk_43_method_2_14 : decode jdk_43_method_2_code 14 = .ok (.ireturn, 1) := by decide +kernel
theorem d_jdk_42_method_56_0 : decode jdk_42_method_56_code 0 = .ok (.aload_n 0, 1) := by decide +kernel
theorem d_jdk_42_method_56_1 : decode jdk_42_method_56_code 1 = .ok (.invokevirtual 492, 3) := by decide +kernel
theorem d_jdk_42_method_56_4 : decode jdk_42_method_56_code 4 = .ok (.ifCond .eq 12, 3) := by decide +kernel
theorem d_jdk_42_method_56_7 : decode jdk_42_method_56_code 7 = .ok (.aload_n 0, 1) := by decide +kernel
theorem d_jdk_42_method_56_8 : decode jdk_42_method_56_code 8 = .ok (.getfield 9, 3) := by decide +kernel
theorem d_jdk_42_method_56_11 : decode jdk_42_method_56_code 11 = .ok (.iload_n 1, 1) := by decide +kernel
theorem d_jdk_42_method_56_12 : decode jdk_42_method_56_code 12 = .ok (.invokestatic 495, 3) := by decide +kernel
theorem d_jdk_42_method_56_15 : decode jdk_42_method_56_code 15 = .ok (.ireturn, 1) := by decide +kernel
theorem d_jdk_29_method_69_0 : decode jdk_29_method_69_code 0 = .ok (.iload_n 0, 1) := by decide +kernel
theorem d_jdk_29_method_69_1 : decode jdk_29_method_69_code 1 = .ok (.iload_n 1, 1) := by decide +kernel
theorem d_jdk_29_method_69_2 : decode jdk_29_method_69_code 2 = .ok (.if_icmp .gt 7, 3) := by decide +kernel
theorem d_jdk_29_method_69_9 : decode jdk_29_method_69_code 9 = .ok (.iload_n 1, 1) := by decide +kernel
theorem d_jdk_29_method_69_10 : decode jdk_29_method_69_code 10 = .ok (.ireturn, 1) := by decide +kernel
theorem d_jdk_29_method_69_5 : decode jdk_29_method_69_code 5 = .ok (.iload_n 0, 1) := by decide +kernel
theorem d_jdk_29_method_69_6 : decode jdk_29_method_69_code 6 = .ok (.goto 4, 3) := by decide +kernel
theorem d_jdk_68_method_2_0 : decode jdk_68_method_2_code 0 = .ok (.aload_n 0, 1) := by decide +kernel
theorem d_jdk_68_method_2_1 : decode jdk_68_method_2_code 1 = .ok (.invokespecial 3, 3) := by decide +kernel
theorem d_jdk_68_method_2_4 : decode jdk_68_method_2_code 4 = .ok (.getstatic 18, 3) := by decide +kernel
theorem d_jdk_68_method_2_7 : decode jdk_68_method_2_code 7 = .ok (.ifCond .eq 18, 3) := by decide +kernel
theorem d_jdk_68_method_2_10 : decode jdk_68_method_2_code 10 = .ok (.aload_n 0, 1) := by decide +kernel
theorem d_jdk_68_method_2_11 : decode jdk_68_method_2_code 11 = .ok (.iload_n 1, 1) := by decide +kernel
theorem d_jdk_68_method_2_12 : decode jdk_68_method_2_code 12 = .ok (.newarray .byte, 2) := by decide +kernel
theorem d_jdk_68_method_2_14 : decode jdk_68_method_2_code 14 = .ok (.putfield 15, 3) := by decide +kernel
theorem d_jdk_68_method_2_17 : decode jdk_68_method_2_code 17 = .ok (.aload_n 0, 1) := by decide +kernel
theorem d_jdk_68_method_2_18 : decode jdk_68_method_2_code 18 = .ok (.iconst 0, 1) := by decide +kernel
theorem d_jdk_68_method_2_19 : decode jdk_68_method_2_code 19 = .ok (.putfield 22, 3) := by decide +kernel
theorem d_jdk_68_method_2_22 : decode jdk_68_method_2_code 22 = .ok (.goto 16, 3) := by decide +kernel
theorem d_jdk_68_method_2_38 : decode jdk_68_method_2_code 38 = .ok (.return_, 1) := by decide +kernel
theorem d_jdk_29_method_65_0 : decode jdk_29_method_65_code 0 = .ok (.iload_n 0, 1) := by decide +kernel
theorem d_jdk_29_method_65_1 : decode jdk_29_method_65_code 1 = .ok (.iload_n 1, 1) := by decide +kernel
theorem d_jdk_29_method_65_2 : decode jdk_29_method_65_code 2 = .ok (.if_icmp .lt 7, 3) := by decide +kernel
theorem d_jdk_29_method_65_9 : decode jdk_29_method_65_code 9 = .ok (.iload_n 1, 1) := by decide +kernel
theorem d_jdk_29_method_65_10 : decode jdk_29_method_65_code 10 = .ok (.ireturn, 1) := by decide +kernel
theorem d_jdk_29_method_65_5 : decode jdk_29_method_65_code 5 = .ok (.iload_n 0, 1) := by decide +kernel
theorem d_jdk_29_method_65_6 : decode jdk_29_method_65_code 6 = .ok (.goto 4, 3) := by decide +kernel
theorem d_jdk_48_method_27_0 : decode jdk_48_method_27_code 0 = .ok (.iload_n 0, 1) := by decide +kernel
theorem d_jdk_48_method_27_1 : decode jdk_48_method_27_code 1 = .ok (.iload_n 1, 1) := by decide +kernel
theorem d_jdk_48_method_27_2 : decode jdk_48_method_27_code 2 = .ok (.iload_n 2, 1) := by decide +kernel
theorem d_jdk_48_method_27_3 : decode jdk_48_method_27_code 3 = .ok (.invokestatic 194, 3) := by decide +kernel
theorem d_jdk_48_method_27_6 : decode jdk_48_method_27_code 6 = .ok (.iadd, 1) := by decide +kernel
theorem d_jdk_48_method_27_7 : decode jdk_48_method_27_code 7 = .ok (.istore_n 3, 1) := by decide +kernel
theorem d_jdk_48_method_27_8 : decode jdk_48_method_27_code 8 = .ok (.iconst 0, 1) := by decide +kernel
theorem d_jdk_48_method_27_9 : decode jdk_48_method_27_code 9 = .ok (.iload_n 3, 1) := by decide +kernel
theorem d_jdk_48_method_27_10 : decode jdk_48_method_27_code 10 = .ok (.if_icmp .ge 11, 3) := by decide +kernel
theorem d_jdk_48_method_27_13 : decode jdk_48_method_27_code 13 = .ok (.iload_n 3, 1) := by decide +kernel
theorem d_jdk_48_method_27_14 : decode jdk_48_method_27_code 14 = .ok (.ldc 200, 2) := by decide +kernel
theorem d_jdk_48_method_27_16 : decode jdk_48_method_27_code 16 = .ok (.if_icmp .gt 5, 3) := by decide +kernel
theorem d_jdk_48_method_27_19 : decode jdk_48_method_27_code 19 = .ok (.iload_n 3, 1) := by decide +kernel
theorem d_jdk_48_method_27_20 : decode jdk_48_method_27_code 20 = .ok (.ireturn, 1) := by decide +kernel
theorem d_jdk_68_method_10_0 : decode jdk_68_method_10_code 0 = .ok (.aload_n 0, 1) := by decide +kernel
theorem d_jdk_68_method_10_1 : decode jdk_68_method_10_code 1 = .ok (.getfield 15, 3) := by decide +kernel
theorem d_jdk_68_method_10_4 : decode jdk_68_method_10_code 4 = .ok (.arraylength, 1) := by decide +kernel
theorem d_jdk_68_method_10_5 : decode jdk_68_method_10_code 5 = .ok (.istore_n 2, 1) := by decide +kernel
theorem d_jdk_68_method_10_6 : decode jdk_68_method_10_code 6 = .ok (.iload_n 1, 1) := by decide +kernel
theorem d_jdk_68_method_10_7 : decode jdk_68_method_10_code 7 = .ok (.aload_n 0, 1) := by decide +kernel
theorem d_jdk_68_method_10_8 : decode jdk_68_method_10_code 8 = .ok (.getfield 22, 3) := by decide +kernel
theorem d_jdk_68_method_10_11 : decode jdk_68_method_10_code 11 = .ok (.ishl, 1) := by decide +kernel
theorem d_jdk_68_method_10_12 : decode jdk_68_method_10_code 12 = .ok (.istore_n 3, 1) := by decide +kernel
theorem d_jdk_68_method_10_13 : decode jdk_68_method_10_code 13 = .ok (.iload_n 3, 1) := by decide +kernel
theorem d_jdk_68_method_10_14 : decode jdk_68_method_10_code 14 = .ok (.iload_n 2, 1) := by decide +kernel
theorem d_jdk_68_method_10_15 : decode jdk_68_method_10_code 15 = .ok (.isub, 1) := by decide +kernel
theorem d_jdk_68_method_10_16 : decode jdk_68_method_10_code 16 = .ok (.istore 4, 2) := by decide +kernel
theorem d_jdk_68_method_10_18 : decode jdk_68_method_10_code 18 = .ok (.iload_n 2, 1) := by decide +kernel
theorem d_jdk_68_method_10_19 : decode jdk_68_method_10_code 19 = .ok (.iload 4, 2) := by decide +kernel
theorem d_jdk_68_method_10_21 : decode jdk_68_method_10_code 21 = .ok (.iload_n 2, 1) := by decide +kernel
theorem d_jdk_68_method_10_22 : decode jdk_68_method_10_code 22 = .ok (.iconst 2, 1) := by decide +kernel
theorem d_jdk_68_method_10_23 : decode jdk_68_method_10_code 23 = .ok (.aload_n 0, 1) := by decide +kernel
theorem d_jdk_68_method_10_24 : decode jdk_68_method_10_code 24 = .ok (.getfield 22, 3) := by decide +kernel
theorem d_jdk_68_method_10_27 : decode jdk_68_method_10_code 27 = .ok (.ishl, 1) := by decide +kernel
theorem d_jdk_68_method_10_28 : decode jdk_68_method_10_code 28 = .ok (.iadd, 1) := by decide +kernel
theorem d_jdk_68_method_10_29 : decode jdk_68_method_10_code 29 = .ok (.invokestatic 114, 3) := by decide +kernel
theorem d_jdk_68_method_10_32 : decode jdk_68_method_10_code 32 = .ok (.istore 5, 2) := by decide +kernel
theorem d_jdk_68_method_10_34 : decode jdk_68_method_10_code 34 = .ok (.iload 5, 2) := by decide +kernel
theorem d_jdk_68_method_10_36 : decode jdk_68_method_10_code 36 = .ok (.ldc 39, 2) := by decide +kernel
theorem d_jdk_68_method_10_38 : decode jdk_68_method_10_code 38 = .ok (.if_icmp .ne 13, 3) := by decide +kernel
theorem d_jdk_68_method_10_51 : decode jdk_68_method_10_code 51 = .ok (.iload 5, 2) := by decide +kernel
theorem d_jdk_68_method_10_53 : decode jdk_68_method_10_code 53 = .ok (.aload_n 0, 1) := by decide +kernel
theorem d_jdk_68_method_10_54 : decode jdk_68_method_10_code 54 = .ok (.getfield 22, 3) := by decide +kernel
theorem d_jdk_68_method_10_57 : decode jdk_68_method_10_code 57 = .ok (.ishr, 1) := by decide +kernel
theorem d_jdk_68_method_10_58 : decode jdk_68_method_10_code 58 = .ok (.ireturn, 1) := by decide +kernel
theorem d_jdk_65_method_121_0 : decode jdk_65_method_121_code 0 = .ok (.iload_n 1, 1) := by decide +kernel
theorem d_jdk_65_method_121_1 : decode jdk_65_method_121_code 1 = .ok (.aload_n 0, 1) := by decide +kernel
theorem d_jdk_65_method_121_2 : decode jdk_65_method_121_code 2 = .ok (.arraylength, 1) := by decide +kernel
theorem d_jdk_65_method_121_3 : decode jdk_65_method_121_code 3 = .ok (.if_icmp .ne 11, 3) := by decide +kernel
theorem d_jdk_65_method_121_14 : decode jdk_65_method_121_code 14 = .ok (.iload_n 1, 1) := by decide +kernel
theorem d_jdk_65_method_121_15 : decode jdk_65_method_121_code 15 = .ok (.newarray .byte, 2) := by decide +kernel
theorem d_jdk_65_method_121_17 : decode jdk_65_method_121_code 17 = .ok (.astore_n 2, 1) := by decide +kernel
theorem d_jdk_65_method_121_18 : decode jdk_65_method_121_code 18 = .ok (.aload_n 0, 1) := by decide +kernel
theorem d_jdk_65_method_121_19 : decode jdk_65_method_121_code 19 = .ok (.iconst 0, 1) := by decide +kernel
theorem d_jdk_65_method_121_20 : decode jdk_65_method_121_code 20 = .ok (.aload_n 2, 1) := by decide +kernel
theorem d_jdk_65_method_121_21 : decode jdk_65_method_121_code 21 = .ok (.iconst 0, 1) := by decide +kernel
theorem d_jdk_65_method_121_22 : decode jdk_65_method_121_code 22 = .ok (.aload_n 0, 1) := by decide +kernel
theorem d_jdk_65_method_121_23 : decode jdk_65_method_121_code 23 = .ok (.arraylength, 1) := by decide +kernel
theorem d_jdk_65_method_121_24 : decode jdk_65_method_121_code 24 = .ok (.iload_n 1, 1) := by decide +kernel
theorem d_jdk_65_method_121_25 : decode jdk_65_method_121_code 25 = .ok (.invokestatic 304, 3) := by decide +kernel
theorem d_jdk_65_method_121_28 : decode jdk_65_method_121_code 28 = .ok (.invokestatic 150, 3) := by decide +kernel
theorem d_jdk_65_method_121_31 : decode jdk_65_method_121_code 31 = .ok (.aload_n 2, 1) := by decide +kernel
theorem d_jdk_65_method_121_32 : decode jdk_65_method_121_code 32 = .ok (.areturn, 1) := by decide +kernel
theorem d_jdk_68_method_9_0 : decode jdk_68_method_9_code 0 = .ok (.aload_n 0, 1) := by decide +kernel
theorem d_jdk_68_method_9_1 : decode jdk_68_method_9_code 1 = .ok (.getfield 15, 3) := by decide +kernel
theorem d_jdk_68_method_9_4 : decode jdk_68_method_9_code 4 = .ok (.arraylength, 1) := by decide +kernel
theorem d_jdk_68_method_9_5 : decode jdk_68_method_9_code 5 = .ok (.aload_n 0, 1) := by decide +kernel
theorem d_jdk_68_method_9_6 : decode jdk_68_method_9_code 6 = .ok (.getfield 22, 3) := by decide +kernel
theorem d_jdk_68_method_9_9 : decode jdk_68_method_9_code 9 = .ok (.ishr, 1) := by decide +kernel
theorem d_jdk_68_method_9_10 : decode jdk_68_method_9_code 10 = .ok (.istore_n 2, 1) := by decide +kernel
theorem d_jdk_68_method_9_11 : decode jdk_68_method_9_code 11 = .ok (.iload_n 1, 1) := by decide +kernel
theorem d_jdk_68_method_9_12 : decode jdk_68_method_9_code 12 = .ok (.iload_n 2, 1) := by decide +kernel
theorem d_jdk_68_method_9_13 : decode jdk_68_method_9_code 13 = .ok (.isub, 1) := by decide +kernel
theorem d_jdk_68_method_9_14 : decode jdk_68_method_9_code 14 = .ok (.ifCond .le 24, 3) := by decide +kernel
theorem d_jdk_68_method_9_38 : decode jdk_68_method_9_code 38 = .ok (.return_, 1) := by decide +kernel
theorem d_jdk_68_method_9_17 : decode jdk_68_method_9_code 17 = .ok (.aload_n 0, 1) := by decide +kernel
theorem d_jdk_68_method_9_18 : decode jdk_68_method_9_code 18 = .ok (.aload_n 0, 1) := by decide +kernel
theorem d_jdk_68_method_9_19 : decode jdk_68_method_9_code 19 = .ok (.getfield 15, 3) := by decide +kernel
theorem d_jdk_68_method_9_22 : decode jdk_68_method_9_code 22 = .ok (.aload_n 0, 1) := by decide +kernel
theorem d_jdk_68_method_9_23 : decode jdk_68_method_9_code 23 = .ok (.iload_n 1, 1) := by decide +kernel
theorem d_jdk_68_method_9_24 : decode jdk_68_method_9_code 24 = .ok (.invokevirtual 104, 3) := by decide +kernel
theorem d_jdk_68_method_9_27 : decode jdk_68_method_9_code 27 = .ok (.aload_n 0, 1) := by decide +kernel
theorem d_jdk_68_method_9_28 : decode jdk_68_method_9_code 28 = .ok (.getfield 22, 3) := by decide +kernel
theorem d_jdk_68_method_9_31 : decode jdk_68_method_9_code 31 = .ok (.ishl, 1) := by decide +kernel
theorem d_jdk_68_method_9_32 : decode jdk_68_method_9_code 32 = .ok (.invokestatic 108, 3) := by decide +kernel
theorem d_jdk_68_method_9_35 : decode jdk_68_method_9_code 35 = .ok (.putfield 15, 3) := by decide +kernel
theorem d_jdk_68_method_71_0 : decode jdk_68_method_71_code 0 = .ok (.getstatic 18, 3) := by decide +kernel
theorem d_jdk_68_method_71_3 : decode jdk_68_method_71_code 3 = .ok (.ifCond .eq 18, 3) := by decide +kernel
theorem d_jdk_68_method_71_6 : decode jdk_68_method_71_code 6 = .ok (.aload_n 0, 1) := by decide +kernel
theorem d_jdk_68_method_71_7 : decode jdk_68_method_71_code 7 = .ok (.getfield 22, 3) := by decide +kernel
theorem d_jdk_68_method_71_10 : decode jdk_68_method_71_code 10 = .ok (.aload_n 1, 1) := by decide +kernel
theorem d_jdk_68_method_71_11 : decode jdk_68_method_71_code 11 = .ok (.invokevirtual 40, 3) := by decide +kernel
theorem d_jdk_68_method_71_14 : decode jdk_68_method_71_code 14 = .ok (.if_icmp .eq 7, 3) := by decide +kernel
theorem d_jdk_68_method_71_21 : decode jdk_68_method_71_code 21 = .ok (.return_, 1) := by decide +kernel
theorem d_jdk_42_method_147_0 : decode jdk_42_method_147_code 0 = .ok (.aload_n 0, 1) := by decide +kernel
theorem d_jdk_42_method_147_1 : decode jdk_42_method_147_code 1 = .ok (.invokevirtual 335, 3) := by decide +kernel
theorem d_jdk_42_method_147_4 : decode jdk_42_method_147_code 4 = .ok (.iload_n 3, 1) := by decide +kernel
theorem d_jdk_42_method_147_5 : decode jdk_42_method_147_code 5 = .ok (.if_icmp .ne 23, 3) := by decide +kernel
theorem d_jdk_42_method_147_8 : decode jdk_42_method_147_code 8 = .ok (.aload_n 0, 1) := by decide +kernel
theorem d_jdk_42_method_147_9 : decode jdk_42_method_147_code 9 = .ok (.getfield 9, 3) := by decide +kernel
theorem d_jdk_42_method_147_12 : decode jdk_42_method_147_code 12 = .ok (.iconst 0, 1) := by decide +kernel
theorem d_jdk_42_method_147_13 : decode jdk_42_method_147_code 13 = .ok (.aload_n 1, 1) := by decide +kernel
theorem d_jdk_42_method_147_14 : decode jdk_42_method_147_code 14 = .ok (.iload_n 2, 1) := by decide +kernel
theorem d_jdk_42_method_147_15 : decode jdk_42_method_147_code 15 = .ok (.iload_n 3, 1) := by decide +kernel
theorem d_jdk_42_method_147_16 : decode jdk_42_method_147_code 16 = .ok (.ishl, 1) := by decide +kernel
theorem d_jdk_42_method_147_17 : decode jdk_42_method_147_code 17 = .ok (.aload_n 0, 1) := by decide +kernel
theorem d_jdk_42_method_147_18 : decode jdk_42_method_147_code 18 = .ok (.getfield 9, 3) := by decide +kernel
theorem d_jdk_42_method_147_21 : decode jdk_42_method_147_code 21 = .ok (.arraylength, 1) := by decide +kernel
theorem d_jdk_42_method_147_22 : decode jdk_42_method_147_code 22 = .ok (.invokestatic 212, 3) := by decide +kernel
theorem d_jdk_42_method_147_25 : decode jdk_42_method_147_code 25 = .ok (.goto 18, 3) := by decide +kernel
theorem d_jdk_42_method_147_43 : decode jdk_42_method_147_code 43 = .ok (.return_, 1) := by decide +kernel
theorem d_jdk_68_method_73_0 : decode jdk_68_method_73_code 0 = .ok (.aload_n 0, 1) := by decide +kernel
theorem d_jdk_68_method_73_1 : decode jdk_68_method_73_code 1 = .ok (.aload_n 2, 1) := by decide +kernel
theorem d_jdk_68_method_73_2 : decode jdk_68_method_73_code 2 = .ok (.invokevirtual 397, 3) := by decide +kernel
theorem d_jdk_68_method_73_5 : decode jdk_68_method_73_code 5 = .ok (.aload_n 2, 1) := by decide +kernel
theorem d_jdk_68_method_73_6 : decode jdk_68_method_73_code 6 = .ok (.aload_n 0, 1) := by decide +kernel
theorem d_jdk_68_method_73_7 : decode jdk_68_method_73_code 7 = .ok (.getfield 15, 3) := by decide +kernel
theorem d_jdk_68_method_73_10 : decode jdk_68_method_73_code 10 = .ok (.iload_n 1, 1) := by decide +kernel
theorem d_jdk_68_method_73_11 : decode jdk_68_method_73_code 11 = .ok (.aload_n 0, 1) := by decide +kernel
theorem d_jdk_68_method_73_12 : decode jdk_68_method_73_code 12 = .ok (.getfield 22, 3) := by decide +kernel
theorem d_jdk_68_method_73_15 : decode jdk_68_method_73_code 15 = .ok (.invokevirtual 399, 3) := by decide +kernel
theorem d_jdk_68_method_73_18 : decode jdk_68_method_73_code 18 = .ok (.return_, 1) := by decide +kernel
theorem d_jdk_68_method_22_0 : decode jdk_68_method_22_code 0 = .ok (.aload_n 1, 1) := by decide +kernel
theorem d_jdk_68_method_22_1 : decode jdk_68_method_22_code 1 = .ok (.ifnonnull 8, 3) := by decide +kernel
theorem d_jdk_68_method_22_9 : decode jdk_68_method_22_code 9 = .ok (.aload_n 1, 1) := by decide +kernel
theorem d_jdk_68_method_22_10 : decode jdk_68_method_22_code 10 = .ok (.invokevirtual 32, 3) := by decide +kernel
theorem d_jdk_68_method_22_13 : decode jdk_68_method_22_code 13 = .ok (.istore_n 2, 1) := by decide +kernel
theorem d_jdk_68_method_22_14 : decode jdk_68_method_22_code 14 = .ok (.aload_n 0, 1) := by decide +kernel
theorem d_jdk_68_method_22_15 : decode jdk_68_method_22_code 15 = .ok (.aload_n 0, 1) := by decide +kernel
theorem d_jdk_68_method_22_16 : decode jdk_68_method_22_code 16 = .ok (.getfield 79, 3) := by decide +kernel
theorem d_jdk_68_method_22_19 : decode jdk_68_method_22_code 19 = .ok (.iload_n 2, 1) := by decide +kernel
theorem d_jdk_68_method_22_20 : decode jdk_68_method_22_code 20 = .ok (.iadd, 1) := by decide +kernel
theorem d_jdk_68_method_22_21 : decode jdk_68_method_22_code 21 = .ok (.invokevirtual 100, 3) := by decide +kernel
theorem d_jdk_68_method_22_24 : decode jdk_68_method_22_code 24 = .ok (.aload_n 0, 1) := by decide +kernel
theorem d_jdk_68_method_22_25 : decode jdk_68_method_22_code 25 = .ok (.aload_n 0, 1) := by decide +kernel
theorem d_jdk_68_method_22_26 : decode jdk_68_method_22_code 26 = .ok (.getfield 79, 3) := by decide +kernel
theorem d_jdk_68_method_22_29 : decode jdk_68_method_22_code 29 = .ok (.aload_n 1, 1) := by decide +kernel
theorem d_jdk_68_method_22_30 : decode jdk_68_method_22_code 30 = .ok (.invokevirtual 208, 3) := by decide +kernel
theorem d_jdk_68_method_22_33 : decode jdk_68_method_22_code 33 = .ok (.aload_n 0, 1) := by decide +kernel
theorem d_jdk_68_method_22_34 : decode jdk_68_method_22_code 34 = .ok (.dup, 1) := by decide +kernel
theorem d_jdk_68_method_22_35 : decode jdk_68_method_22_code 35 = .ok (.getfield 79, 3) := by decide +kernel
theorem d_jdk_68_method_22_38 : decode jdk_68_method_22_code 38 = .ok (.iload_n 2, 1) := by decide +kernel
theorem d_jdk_68_method_22_39 : decode jdk_68_method_22_code 39 = .ok (.iadd, 1) := by decide +kernel
theorem d_jdk_68_method_22_40 : decode jdk_68_method_22_code 40 = .ok (.putfield 79, 3) := by decide +kernel
theorem d_jdk_68_method_22_43 : decode jdk_68_method_22_code 43 = .ok (.aload_n 0, 1) := by decide +kernel
theorem d_jdk_68_method_22_44 : decode jdk_68_method_22_code 44 = .ok (.areturn, 1) := by decide +kernel
theorem d_jdk_67_method_7_0 : decode jdk_67_method_7_code 0 = .ok (.aload_n 0, 1) := by decide +kernel
theorem d_jdk_67_method_7_1 : decode jdk_67_method_7_code 1 = .ok (.aload_n 1, 1) := by decide +kernel
theorem d_jdk_67_method_7_2 : decode jdk_67_method_7_code 2 = .ok (.invokespecial 29, 3) := by decide +kernel
theorem d_jdk_67_method_7_5 : decode jdk_67_method_7_code 5 = .ok (.pop, 1) := by decide +kernel
theorem d_jdk_67_method_7_6 : decode jdk_67_method_7_code 6 = .ok (.aload_n 0, 1) := by decide +kernel
theorem d_jdk_67_method_7_7 : decode jdk_67_method_7_code 7 = .ok (.areturn, 1) := by decide +kernel
theorem d_jdk_68_method_68_0 : decode jdk_68_method_68_code 0 = .ok (.getstatic 18, 3) := by decide +kernel
theorem d_jdk_68_method_68_3 : decode jdk_68_method_68_code 3 = .ok (.ifCond .eq 14, 3) := by decide +kernel
theorem d_jdk_68_method_68_6 : decode jdk_68_method_68_code 6 = .ok (.aload_n 0, 1) := by decide +kernel
theorem d_jdk_68_method_68_7 : decode jdk_68_method_68_code 7 = .ok (.getfield 22, 3) := by decide +kernel
theorem d_jdk_68_method_68_10 : decode jdk_68_method_68_code 10 = .ok (.ifCond .ne 7, 3) := by decide +kernel
theorem d_jdk_68_method_68_13 : decode jdk_68_method_68_code 13 = .ok (.iconst 1, 1) := by decide +kernel
theorem d_jdk_68_method_68_14 : decode jdk_68_method_68_code 14 = .ok (.goto 4, 3) := by decide +kernel
theorem d_jdk_68_method_68_18 : decode jdk_68_method_68_code 18 = .ok (.ireturn, 1) := by decide +kernel
theorem d_jdk_65_method_131_0 : decode jdk_65_method_131_code 0 = .ok (.iload_n 1, 1) := by decide +kernel
theorem d_jdk_65_method_131_1 : decode jdk_65_method_131_code 1 = .ok (.iload_n 0, 1) := by decide +kernel
theorem d_jdk_65_method_131_2 : decode jdk_65_method_131_code 2 = .ok (.if_icmp .ge 35, 3) := by decide +kernel
theorem d_jdk_65_method_131_37 : decode jdk_65_method_131_code 37 = .ok (.return_, 1) := by decide +kernel
theorem d_jdk_65_method_133_0 : decode jdk_65_method_133_code 0 = .ok (.iload_n 1, 1) := by decide +kernel
theorem d_jdk_65_method_133_1 : decode jdk_65_method_133_code 1 = .ok (.iload_n 2, 1) := by decide +kernel
theorem d_jdk_65_method_133_2 : decode jdk_65_method_133_code 2 = .ok (.invokestatic 343, 3) := by decide +kernel
theorem d_jdk_65_method_133_5 : decode jdk_65_method_133_code 5 = .ok (.iload_n 2, 1) := by decide +kernel
theorem d_jdk_65_method_133_6 : decode jdk_65_method_133_code 6 = .ok (.iload_n 1, 1) := by decide +kernel
theorem d_jdk_65_method_133_7 : decode jdk_65_method_133_code 7 = .ok (.isub, 1) := by decide +kernel
theorem d_jdk_65_method_133_8 : decode jdk_65_method_133_code 8 = .ok (.istore_n 3, 1) := by decide +kernel
theorem d_jdk_65_method_133_9 : decode jdk_65_method_133_code 9 = .ok (.iload_n 3, 1) := by decide +kernel
theorem d_jdk_65_method_133_10 : decode jdk_65_method_133_code 10 = .ok (.newarray .byte, 2) := by decide +kernel
theorem d_jdk_65_method_133_12 : decode jdk_65_method_133_code 12 = .ok (.astore 4, 2) := by decide +kernel
theorem d_jdk_65_method_133_14 : decode jdk_65_method_133_code 14 = .ok (.aload_n 0, 1) := by decide +kernel
theorem d_jdk_65_method_133_15 : decode jdk_65_method_133_code 15 = .ok (.iload_n 1, 1) := by decide +kernel
theorem d_jdk_65_method_133_16 : decode jdk_65_method_133_code 16 = .ok (.aload 4, 2) := by decide +kernel
theorem d_jdk_65_method_133_18 : decode jdk_65_method_133_code 18 = .ok (.iconst 0, 1) := by decide +kernel
theorem d_jdk_65_method_133_19 : decode jdk_65_method_133_code 19 = .ok (.aload_n 0, 1) := by decide +kernel
theorem d_jdk_65_method_133_20 : decode jdk_65_method_133_code 20 = .ok (.arraylength, 1) := by decide +kernel
theorem d_jdk_65_method_133_21 : decode jdk_65_method_133_code 21 = .ok (.iload_n 1, 1) := by decide +kernel
theorem d_jdk_65_method_133_22 : decode jdk_65_method_133_code 22 = .ok (.isub, 1) := by decide +kernel
theorem d_jdk_65_method_133_23 : decode jdk_65_method_133_code 23 = .ok (.iload_n 3, 1) := by decide +kernel
theorem d_jdk_65_method_133_24 : decode jdk_65_method_133_code 24 = .ok (.invokestatic 304, 3) := by decide +kernel
theorem d_jdk_65_method_133_27 : decode jdk_65_method_133_code 27 = .ok (.invokestatic 150, 3) := by decide +kernel
theorem d_jdk_65_method_133_30 : decode jdk_65_method_133_code 30 = .ok (.aload 4, 2) := by decide +kernel
theorem d_jdk_65_method_133_32 : decode jdk_65_method_133_code 32 = .ok (.areturn, 1) := by decide +kernel
theorem d_jdk_65_method_132_0 : decode jdk_65_method_132_code 0 = .ok (.iload_n 1, 1) := by decide +kernel
theorem d_jdk_65_method_132_1 : decode jdk_65_method_132_code 1 = .ok (.ifCond .ne 9, 3) := by decide +kernel
theorem d_jdk_65_method_132_4 : decode jdk_65_method_132_code 4 = .ok (.iload_n 2, 1) := by decide +kernel
theorem d_jdk_65_method_132_5 : decode jdk_65_method_132_code 5 = .ok (.aload_n 0, 1) := by decide +kernel
theorem d_jdk_65_method_132_6 : decode jdk_65_method_132_code 6 = .ok (.arraylength, 1) := by decide +kernel
theorem d_jdk_65_method_132_7 : decode jdk_65_method_132_code 7 = .ok (.if_icmp .eq 10, 3) := by decide +kernel
theorem d_jdk_65_method_132_10 : decode jdk_65_method_132_code 10 = .ok (.aload_n 0, 1) := by decide +kernel
theorem d_jdk_65_method_132_11 : decode jdk_65_method_132_code 11 = .ok (.iload_n 1, 1) := by decide +kernel
theorem d_jdk_65_method_132_12 : decode jdk_65_method_132_code 12 = .ok (.iload_n 2, 1) := by decide +kernel
theorem d_jdk_65_method_132_13 : decode jdk_65_method_132_code 13 = .ok (.invokestatic 339, 3) := by decide +kernel
theorem d_jdk_65_method_132_16 : decode jdk_65_method_132_code 16 = .ok (.areturn, 1) := by decide +kernel
theorem d_jdk_65_method_132_17 : decode jdk_65_method_132_code 17 = .ok (.aload_n 0, 1) := by decide +kernel
theorem d_jdk_65_method_132_18 : decode jdk_65_method_132_code 18 = .ok (.invokevirtual 310, 3) := by decide +kernel
theorem d_jdk_65_method_132_21 : decode jdk_65_method_132_code 21 = .ok (.checkcast 311, 3) := by decide +kernel
theorem d_jdk_65_method_132_24 : decode jdk_65_method_132_code 24 = .ok (.areturn, 1) := by decide +kernel
theorem d_jdk_68_method_64_0 : decode jdk_68_method_64_code 0 = .ok (.aload_n 0, 1) := by decide +kernel
theorem d_jdk_68_method_64_1 : decode jdk_68_method_64_code 1 = .ok (.getfield 15, 3) := by decide +kernel
theorem d_jdk_68_method_64_4 : decode jdk_68_method_64_code 4 = .ok (.areturn, 1) := by decide +kernel
theorem d_jdk_68_method_6_0 : decode jdk_68_method_6_code 0 = .ok (.aload_n 0, 1) := by decide +kernel
theorem d_jdk_68_method_6_1 : decode jdk_68_method_6_code 1 = .ok (.getfield 79, 3) := by decide +kernel
theorem d_jdk_68_method_6_4 : decode jdk_68_method_6_code 4 = .ok (.ireturn, 1) := by decide +kernel
theorem d_jdk_67_method_93_0 : decode jdk_67_method_93_code 0 = .ok (.aload_n 0, 1) := by decide +kernel
theorem d_jdk_67_method_93_1 : decode jdk_67_method_93_code 1 = .ok (.invokespecial 343, 3) := by decide +kernel
theorem d_jdk_67_method_93_4 : decode jdk_67_method_93_code 4 = .ok (.ireturn, 1) := by decide +kernel
theorem d_jdk_42_method_150_0 : decode jdk_42_method_150_code 0 = .ok (.aload_n 0, 1) := by decide +kernel
theorem d_jdk_42_method_150_1 : decode jdk_42_method_150_code 1 = .ok (.invokespecial 1, 3) := by decide +kernel
theorem d_jdk_42_method_150_4 : decode jdk_42_method_150_code 4 = .ok (.aload_n 1, 1) := by decide +kernel
theorem d_jdk_42_method_150_5 : decode jdk_42_method_150_code 5 = .ok (.invokevirtual 552, 3) := by decide +kernel
theorem d_jdk_42_method_150_8 : decode jdk_42_method_150_code 8 = .ok (.astore_n 3, 1) := by decide +kernel
theorem d_jdk_42_method_150_9 : decode jdk_42_method_150_code 9 = .ok (.aload_n 1, 1) := by decide +kernel
theorem d_jdk_42_method_150_10 : decode jdk_42_method_150_code 10 = .ok (.invokevirtual 549, 3) := by decide +kernel
theorem d_jdk_42_method_150_13 : decode jdk_42_method_150_code 13 = .ok (.istore 4, 2) := by decide +kernel
theorem d_jdk_42_method_150_15 : decode jdk_42_method_150_code 15 = .ok (.aload_n 1, 1) := by decide +kernel
theorem d_jdk_42_method_150_16 : decode jdk_42_method_150_code 16 = .ok (.invokevirtual 1047, 3) := by decide +kernel
theorem d_jdk_42_method_150_19 : decode jdk_42_method_150_code 19 = .ok (.ifCond .eq 22, 3) := by decide +kernel
theorem d_jdk_42_method_150_22 : decode jdk_42_method_150_code 22 = .ok (.aload_n 0, 1) := by decide +kernel
theorem d_jdk_42_method_150_23 : decode jdk_42_method_150_code 23 = .ok (.iconst 0, 1) := by decide +kernel
theorem d_jdk_42_method_150_24 : decode jdk_42_method_150_code 24 = .ok (.putfield 15, 3) := by decide +kernel
theorem d_jdk_42_method_150_27 : decode jdk_42_method_150_code 27 = .ok (.aload_n 0, 1) := by decide +kernel
theorem d_jdk_42_method_150_28 : decode jdk_42_method_150_code 28 = .ok (.aload_n 3, 1) := by decide +kernel
theorem d_jdk_42_method_150_29 : decode jdk_42_method_150_code 29 = .ok (.iconst 0, 1) := by decide +kernel
theorem d_jdk_42_method_150_30 : decode jdk_42_method_150_code 30 = .ok (.iload 4, 2) := by decide +kernel
theorem d_jdk_42_method_150_32 : decode jdk_42_method_150_code 32 = .ok (.invokestatic 54, 3) := by decide +kernel
theorem d_jdk_42_method_150_35 : decode jdk_42_method_150_code 35 = .ok (.putfield 9, 3) := by decide +kernel
theorem d_jdk_42_method_150_38 : decode jdk_42_method_150_code 38 = .ok (.goto 59, 3) := by decide +kernel
theorem d_jdk_42_method_150_97 : decode jdk_42_method_150_code 97 = .ok (.return_, 1) := by decide +kernel
theorem d_jdk_42_method_53_0 : decode jdk_42_method_53_code 0 = .ok (.aload_n 0, 1) := by decide +kernel
theorem d_jdk_42_method_53_1 : decode jdk_42_method_53_code 1 = .ok (.aload_n 1, 1) := by decide +kernel
theorem d_jdk_42_method_53_2 : decode jdk_42_method_53_code 2 = .ok (.aconst_null, 1) := by decide +kernel
theorem d_jdk_42_method_53_3 : decode jdk_42_method_53_code 3 = .ok (.invokespecial 489, 3) := by decide +kernel
theorem d_jdk_42_method_53_6 : decode jdk_42_method_53_code 6 = .ok (.return_, 1) := by decide +kernel
theorem d_jdk_67_method_42_0 : decode jdk_67_method_42_code 0 = .ok (.new 18, 3) := by decide +kernel
theorem d_jdk_67_method_42_3 : decode jdk_67_method_42_code 3 = .ok (.dup, 1) := by decide +kernel
theorem d_jdk_67_method_42_4 : decode jdk_67_method_42_code 4 = .ok (.aload_n 0, 1) := by decide +kernel
theorem d_jdk_67_method_42_5 : decode jdk_67_method_42_code 5 = .ok (.invokespecial 137, 3) := by decide +kernel
theorem d_jdk_67_method_42_8 : decode jdk_67_method_42_code 8 = .ok (.areturn, 1) := by decide +kernel
theorem d_jdk_67_method_1_0 : decode jdk_67_method_1_code 0 = .ok (.aload_n 0, 1) := by decide +kernel
theorem d_jdk_67_method_1_1 : decode jdk_67_method_1_code 1 = .ok (.bipush 16, 2) := by decide +kernel
theorem d_jdk_67_method_1_3 : decode jdk_67_method_1_code 3 = .ok (.invokespecial 1, 3) := by decide +kernel
theorem d_jdk_67_method_1_6 : decode jdk_67_method_1_code 6 = .ok (.return_, 1) := by decide +kernel
theorem d_jdk_35_method_15_0 : decode jdk_35_method_15_code 0 = .ok (.iconst 1, 1) := by decide +kernel
theorem d_jdk_35_method_15_1 : decode jdk_35_method_15_code 1 = .ok (.istore_n 2, 1) := by decide +kernel
theorem d_jdk_35_method_15_2 : decode jdk_35_method_15_code 2 = .ok (.lload_n 0, 1) := by decide +kernel
theorem d_jdk_35_method_15_3 : decode jdk_35_method_15_code 3 = .ok (.lconst 0, 1) := by decide +kernel
theorem d_jdk_35_method_15_4 : decode jdk_35_method_15_code 4 = .ok (.lcmp, 1) := by decide +kernel
theorem d_jdk_35_method_15_5 : decode jdk_35_method_15_code 5 = .ok (.ifCond .lt 8, 3) := by decide +kernel
theorem d_jdk_35_method_15_13 : decode jdk_35_method_15_code 13 = .ok (.ldc2_w 140, 3) := by decide +kernel
theorem d_jdk_35_method_15_16 : decode jdk_35_method_15_code 16 = .ok (.lstore_n 3, 1) := by decide +kernel
theorem d_jdk_35_method_15_17 : decode jdk_35_method_15_code 17 = .ok (.iconst 1, 1) := by decide +kernel
theorem d_jdk_35_method_15_18 : decode jdk_35_method_15_code 18 = .ok (.istore 5, 2) := by decide +kernel
theorem d_jdk_35_method_15_20 : decode jdk_35_method_15_code 20 = .ok (.iload 5, 2) := by decide +kernel
theorem d_jdk_35_method_15_22 : decode jdk_35_method_15_code 22 = .ok (.bipush 19, 2) := by decide +kernel
theorem d_jdk_35_method_15_24 : decode jdk_35_method_15_code 24 = .ok (.if_icmp .ge 26, 3) := by decide +kernel
theorem d_jdk_35_method_15_27 : decode jdk_35_method_15_code 27 = .ok (.lload_n 0, 1) := by decide +kernel
theorem d_jdk_35_method_15_28 : decode jdk_35_method_15_code 28 = .ok (.lload_n 3, 1) := by decide +kernel
theorem d_jdk_35_method_15_29 : decode jdk_35_method_15_code 29 = .ok (.lcmp, 1) := by decide +kernel
theorem d_jdk_35_method_15_30 : decode jdk_35_method_15_code 30 = .ok (.ifCond .le 8, 3) := by decide +kernel
theorem d_jdk_35_method_15_33 : decode jdk_35_method_15_code 33 = .ok (.iload 5, 2) := by decide +kernel
theorem d_jdk_35_method_15_35 : decode jdk_35_method_15_code 35 = .ok (.iload_n 2, 1) := by decide +kernel
theorem d_jdk_35_method_15_36 : decode jdk_35_method_15_code 36 = .ok (.iadd, 1) := by decide +kernel
theorem d_jdk_35_method_15_37 : decode jdk_35_method_15_code 37 = .ok (.ireturn, 1) := by decide +kernel
theorem d_jdk_35_method_15_38 : decode jdk_35_method_15_code 38 = .ok (.ldc2_w 53, 3) := by decide +kernel
theorem d_jdk_35_method_15_41 : decode jdk_35_method_15_code 41 = .ok (.lload_n 3, 1) := by decide +kernel
theorem d_jdk_35_method_15_42 : decode jdk_35_method_15_code 42 = .ok (.lmul, 1) := by decide +kernel
theorem d_jdk_35_method_15_43 : decode jdk_35_method_15_code 43 = .ok (.lstore_n 3, 1) := by decide +kernel
theorem d_jdk_35_method_15_44 : decode jdk_35_method_15_code 44 = .ok (.iinc 5 1, 3) := by decide +kernel
theorem d_jdk_35_method_15_47 : decode jdk_35_method_15_code 47 = .ok (.goto (-27), 3) := by decide +kernel
theorem d_jdk_35_method_15_50 : decode jdk_35_method_15_code 50 = .ok (.bipush 19, 2) := by decide +kernel
theorem d_jdk_35_method_15_52 : decode jdk_35_method_15_code 52 = .ok (.iload_n 2, 1) := by decide +kernel
theorem d_jdk_35_method_15_53 : decode jdk_35_method_15_code 53 = .ok (.iadd, 1) := by decide +kernel
theorem d_jdk_35_method_15_54 : decode jdk_35_method_15_code 54 = .ok (.ireturn, 1) := by decide +kernel
theorem d_jdk_35_method_15_8 : decode jdk_35_method_15_code 8 = .ok (.iconst 0, 1) := by decide +kernel
theorem d_jdk_35_method_15_9 : decode jdk_35_method_15_code 9 = .ok (.istore_n 2, 1) := by decide +kernel
theorem d_jdk_35_method_15_10 : decode jdk_35_method_15_code 10 = .ok (.lload_n 0, 1) := by decide +kernel
theorem d_jdk_35_method_15_11 : decode jdk_35_method_15_code 11 = .ok (.lneg, 1) := by decide +kernel
theorem d_jdk_35_method_15_12 : decode jdk_35_method_15_code 12 = .ok (.lstore_n 0, 1) := by decide +kernel
theorem d_jdk_35_method_14_86 : decode jdk_35_method_14_code 86 = .ok (.iload 10, 2) := by decide +kernel
theorem d_jdk_35_method_14_88 : decode jdk_35_method_14_code 88 = .ok (.bipush (-100), 2) := by decide +kernel
theorem d_jdk_35_method_14_90 : decode jdk_35_method_14_code 90 = .ok (.if_icmp .gt 53, 3) := by decide +kernel
theorem d_jdk_35_method_14_93 : decode jdk_35_method_14_code 93 = .ok (.iload 10, 2) := by decide +kernel
theorem d_jdk_35_method_14_95 : decode jdk_35_method_14_code 95 = .ok (.bipush 100, 2) := by decide +kernel
theorem d_jdk_35_method_14_97 : decode jdk_35_method_14_code 97 = .ok (.idiv, 1) := by decide +kernel
theorem d_jdk_35_method_14_98 : decode jdk_35_method_14_code 98 = .ok (.istore 9, 2) := by decide +kernel
theorem d_jdk_35_method_14_100 : decode jdk_35_method_14_code 100 = .ok (.iload 9, 2) := by decide +kernel
theorem d_jdk_35_method_14_102 : decode jdk_35_method_14_code 102 = .ok (.bipush 100, 2) := by decide +kernel
theorem d_jdk_35_method_14_104 : decode jdk_35_method_14_code 104 = .ok (.imul, 1) := by decide +kernel
theorem d_jdk_35_method_14_105 : decode jdk_35_method_14_code 105 = .ok (.iload 10, 2) := by decide +kernel
theorem d_jdk_35_method_14_107 : decode jdk_35_method_14_code 107 = .ok (.isub, 1) := by decide +kernel
theorem d_jdk_35_method_14_108 : decode jdk_35_method_14_code 108 = .ok (.istore 6, 2) := by decide +kernel
theorem d_jdk_35_method_14_110 : decode jdk_35_method_14_code 110 = .ok (.iload 9, 2) := by decide +kernel
theorem d_jdk_35_method_14_112 : decode jdk_35_method_14_code 112 = .ok (.istore 10, 2) := by decide +kernel
theorem d_jdk_35_method_14_114 : decode jdk_35_method_14_code 114 = .ok (.aload_n 3, 1) := by decide +kernel
theorem d_jdk_35_method_14_115 : decode jdk_35_method_14_code 115 = .ok (.iinc 7 (-1), 3) := by decide +kernel
theorem d_jdk_35_method_14_118 : decode jdk_35_method_14_code 118 = .ok (.iload 7, 2) := by decide +kernel
theorem d_jdk_35_method_14_120 : decode jdk_35_method_14_code 120 = .ok (.getstatic 133, 3) := by decide +kernel
theorem d_jdk_35_method_14_123 : decode jdk_35_method_14_code 123 = .ok (.iload 6, 2) := by decide +kernel
theorem d_jdk_35_method_14_125 : decode jdk_35_method_14_code 125 = .ok (.baload, 1) := by decide +kernel
theorem d_jdk_35_method_14_126 : decode jdk_35_method_14_code 126 = .ok (.bastore, 1) := by decide +kernel
theorem d_jdk_35_method_14_127 : decode jdk_35_method_14_code 127 = .ok (.aload_n 3, 1) := by decide +kernel
theorem d_jdk_35_method_14_128 : decode jdk_35_method_14_code 128 = .ok (.iinc 7 (-1), 3) := by decide +kernel
theorem d_jdk_35_method_14_131 : decode jdk_35_method_14_code 131 = .ok (.iload 7, 2) := by decide +kernel
theorem d_jdk_35_method_14_133 : decode jdk_35_method_14_code 133 = .ok (.getstatic 137, 3) := by decide +kernel
theorem d_jdk_35_method_14_136 : decode jdk_35_method_14_code 136 = .ok (.iload 6, 2) := by decide +kernel
theorem d_jdk_35_method_14_138 : decode jdk_35_method_14_code 138 = .ok (.baload, 1) := by decide +kernel
theorem d_jdk_35_method_14_139 : decode jdk_35_method_14_code 139 = .ok (.bastore, 1) := by decide +kernel
theorem d_jdk_35_method_14_140 : decode jdk_35_method_14_code 140 = .ok (.goto (-54), 3) := by decide +kernel
theorem d_jdk_35_method_14_143 : decode jdk_35_method_14_code 143 = .ok (.aload_n 3, 1) := by decide +kernel
theorem d_jdk_35_method_14_144 : decode jdk_35_method_14_code 144 = .ok (.iinc 7 (-1), 3) := by decide +kernel
theorem d_jdk_35_method_14_147 : decode jdk_35_method_14_code 147 = .ok (.iload 7, 2) := by decide +kernel
theorem d_jdk_35_method_14_149 : decode jdk_35_method_14_code 149 = .ok (.getstatic 133, 3) := by decide +kernel
theorem d_jdk_35_method_14_152 : decode jdk_35_method_14_code 152 = .ok (.iload 10, 2) := by decide +kernel
theorem d_jdk_35_method_14_154 : decode jdk_35_method_14_code 154 = .ok (.ineg, 1) := by decide +kernel
theorem d_jdk_35_method_14_155 : decode jdk_35_method_14_code 155 = .ok (.baload, 1) := by decide +kernel
theorem d_jdk_35_method_14_156 : decode jdk_35_method_14_code 156 = .ok (.bastore, 1) := by decide +kernel
theorem d_jdk_35_method_14_157 : decode jdk_35_method_14_code 157 = .ok (.iload 10, 2) := by decide +kernel
theorem d_jdk_35_method_14_159 : decode jdk_35_method_14_code 159 = .ok (.bipush (-9), 2) := by decide +kernel
theorem d_jdk_35_method_14_161 : decode jdk_35_method_14_code 161 = .ok (.if_icmp .ge 17, 3) := by decide +kernel
theorem d_jdk_35_method_14_164 : decode jdk_35_method_14_code 164 = .ok (.aload_n 3, 1) := by decide +kernel
theorem d_jdk_35_method_14_165 : decode jdk_35_method_14_code 165 = .ok (.iinc 7 (-1), 3) := by decide +kernel
theorem d_jdk_35_method_14_168 : decode jdk_35_method_14_code 168 = .ok (.iload 7, 2) := by decide +kernel
theorem d_jdk_35_method_14_170 : decode jdk_35_method_14_code 170 = .ok (.getstatic 137, 3) := by decide +kernel
theorem d_jdk_35_method_14_173 : decode jdk_35_method_14_code 173 = .ok (.iload 10, 2) := by decide +kernel
theorem d_jdk_35_method_14_175 : decode jdk_35_method_14_code 175 = .ok (.ineg, 1) := by decide +kernel
theorem d_jdk_35_method_14_176 : decode jdk_35_method_14_code 176 = .ok (.baload, 1) := by decide +kernel
theorem d_jdk_35_method_14_177 : decode jdk_35_method_14_code 177 = .ok (.bastore, 1) := by decide +kernel
theorem d_jdk_35_method_14_178 : decode jdk_35_method_14_code 178 = .ok (.iload 8, 2) := by decide +kernel
theorem d_jdk_35_method_14_180 : decode jdk_35_method_14_code 180 = .ok (.ifCond .eq 12, 3) := by decide +kernel
theorem d_jdk_35_method_14_192 : decode jdk_35_method_14_code 192 = .ok (.iload 7, 2) := by decide +kernel
theorem d_jdk_35_method_14_194 : decode jdk_35_method_14_code 194 = .ok (.ireturn, 1) := by decide +kernel
theorem d_jdk_35_method_14_183 : decode jdk_35_method_14_code 183 = .ok (.aload_n 3, 1) := by decide +kernel
theorem d_jdk_35_method_14_184 : decode jdk_35_method_14_code 184 = .ok (.iinc 7 (-1), 3) := by decide +kernel
theorem d_jdk_35_method_14_187 : decode jdk_35_method_14_code 187 = .ok (.iload 7, 2) := by decide +kernel
theorem d_jdk_35_method_14_189 : decode jdk_35_method_14_code 189 = .ok (.bipush 45, 2) := by decide +kernel
theorem d_jdk_35_method_14_191 : decode jdk_35_method_14_code 191 = .ok (.bastore, 1) := by decide +kernel
theorem d_jdk_35_method_14_24 : decode jdk_35_method_14_code 24 = .ok (.lload_n 0, 1) := by decide +kernel
theorem d_jdk_35_method_14_25 : decode jdk_35_method_14_code 25 = .ok (.ldc2_w 129, 3) := by decide +kernel
theorem d_jdk_35_method_14_28 : decode jdk_35_method_14_code 28 = .ok (.lcmp, 1) := by decide +kernel
theorem d_jdk_35_method_14_29 : decode jdk_35_method_14_code 29 = .ok (.ifCond .gt 53, 3) := by decide +kernel
theorem d_jdk_35_method_14_32 : decode jdk_35_method_14_code 32 = .ok (.lload_n 0, 1) := by decide +kernel
theorem d_jdk_35_method_14_33 : decode jdk_35_method_14_code 33 = .ok (.ldc2_w 131, 3) := by decide +kernel
theorem d_jdk_35_method_14_36 : decode jdk_35_method_14_code 36 = .ok (.ldiv, 1) := by decide +kernel
theorem d_jdk_35_method_14_37 : decode jdk_35_method_14_code 37 = .ok (.lstore 4, 2) := by decide +kernel
theorem d_jdk_35_method_14_39 : decode jdk_35_method_14_code 39 = .ok (.lload 4, 2) := by decide +kernel
theorem d_jdk_35_method_14_41 : decode jdk_35_method_14_code 41 = .ok (.ldc2_w 131, 3) := by decide +kernel
theorem d_jdk_35_method_14_44 : decode jdk_35_method_14_code 44 = .ok (.lmul, 1) := by decide +kernel
theorem d_jdk_35_method_14_45 : decode jdk_35_method_14_code 45 = .ok (.lload_n 0, 1) := by decide +kernel
theorem d_jdk_35_method_14_46 : decode jdk_35_method_14_code 46 = .ok (.lsub, 1) := by decide +kernel
theorem d_jdk_35_method_14_47 : decode jdk_35_method_14_code 47 = .ok (.l2i, 1) := by decide +kernel
theorem d_jdk_35_method_14_48 : decode jdk_35_method_14_code 48 = .ok (.istore 6, 2) := by decide +kernel
theorem d_jdk_35_method_14_50 : decode jdk_35_method_14_code 50 = .ok (.lload 4, 2) := by decide +kernel
theorem d_jdk_35_method_14_52 : decode jdk_35_method_14_code 52 = .ok (.lstore_n 0, 1) := by decide +kernel
theorem d_jdk_35_method_14_53 : decode jdk_35_method_14_code 53 = .ok (.aload_n 3, 1) := by decide +kernel
theorem d_jdk_35_method_14_54 : decode jdk_35_method_14_code 54 = .ok (.iinc 7 (-1), 3) := by decide +kernel
theorem d_jdk_35_method_14_57 : decode jdk_35_method_14_code 57 = .ok (.iload 7, 2) := by decide +kernel
theorem d_jdk_35_method_14_59 : decode jdk_35_method_14_code 59 = .ok (.getstatic 133, 3) := by decide +kernel
theorem d_jdk_35_method_14_62 : decode jdk_35_method_14_code 62 = .ok (.iload 6, 2) := by decide +kernel
theorem d_jdk_35_method_14_64 : decode jdk_35_method_14_code 64 = .ok (.baload, 1) := by decide +kernel
theorem d_jdk_35_method_14_65 : decode jdk_35_method_14_code 65 = .ok (.bastore, 1) := by decide +kernel
theorem d_jdk_35_method_14_66 : decode jdk_35_method_14_code 66 = .ok (.aload_n 3, 1) := by decide +kernel
theorem d_jdk_35_method_14_67 : decode jdk_35_method_14_code 67 = .ok (.iinc 7 (-1), 3) := by decide +kernel
theorem d_jdk_35_method_14_70 : decode jdk_35_method_14_code 70 = .ok (.iload 7, 2) := by decide +kernel
theorem d_jdk_35_method_14_72 : decode jdk_35_method_14_code 72 = .ok (.getstatic 137, 3) := by decide +kernel
theorem d_jdk_35_method_14_75 : decode jdk_35_method_14_code 75 = .ok (.iload 6, 2) := by decide +kernel
theorem d_jdk_35_method_14_77 : decode jdk_35_method_14_code 77 = .ok (.baload, 1) := by decide +kernel
theorem d_jdk_35_method_14_78 : decode jdk_35_method_14_code 78 = .ok (.bastore, 1) := by decide +kernel
theorem d_jdk_35_method_14_79 : decode jdk_35_method_14_code 79 = .ok (.goto (-55), 3) := by decide +kernel
theorem d_jdk_35_method_14_82 : decode jdk_35_method_14_code 82 = .ok (.lload_n 0, 1) := by decide +kernel
theorem d_jdk_35_method_14_83 : decode jdk_35_method_14_code 83 = .ok (.l2i, 1) := by decide +kernel
theorem d_jdk_35_method_14_84 : decode jdk_35_method_14_code 84 = .ok (.istore 10, 2) := by decide +kernel
theorem d_jdk_35_method_14_0 : decode jdk_35_method_14_code 0 = .ok (.iload_n 2, 1) := by decide +kernel
theorem d_jdk_35_method_14_1 : decode jdk_35_method_14_code 1 = .ok (.istore 7, 2) := by decide +kernel
theorem d_jdk_35_method_14_3 : decode jdk_35_method_14_code 3 = .ok (.lload_n 0, 1) := by decide +kernel
theorem d_jdk_35_method_14_4 : decode jdk_35_method_14_code 4 = .ok (.lconst 0, 1) := by decide +kernel
theorem d_jdk_35_method_14_5 : decode jdk_35_method_14_code 5 = .ok (.lcmp, 1) := by decide +kernel
theorem d_jdk_35_method_14_6 : decode jdk_35_method_14_code 6 = .ok (.ifCond .ge 7, 3) := by decide +kernel
theorem d_jdk_35_method_14_13 : decode jdk_35_method_14_code 13 = .ok (.iconst 0, 1) := by decide +kernel
theorem d_jdk_35_method_14_14 : decode jdk_35_method_14_code 14 = .ok (.istore 8, 2) := by decide +kernel
theorem d_jdk_35_method_14_16 : decode jdk_35_method_14_code 16 = .ok (.iload 8, 2) := by decide +kernel
theorem d_jdk_35_method_14_18 : decode jdk_35_method_14_code 18 = .ok (.ifCond .ne 6, 3) := by decide +kernel
theorem d_jdk_35_method_14_21 : decode jdk_35_method_14_code 21 = .ok (.lload_n 0, 1) := by decide +kernel
theorem d_jdk_35_method_14_22 : decode jdk_35_method_14_code 22 = .ok (.lneg, 1) := by decide +kernel
theorem d_jdk_35_method_14_23 : decode jdk_35_method_14_code 23 = .ok (.lstore_n 0, 1) := by decide +kernel
theorem d_jdk_35_method_14_9 : decode jdk_35_method_14_code 9 = .ok (.iconst 1, 1) := by decide +kernel
theorem d_jdk_35_method_14_10 : decode jdk_35_method_14_code 10 = .ok (.goto 4, 3) := by decide +kernel
theorem d_jdk_68_method_33_0 : decode jdk_68_method_33_code 0 = .ok (.aload_n 0, 1) := by decide +kernel
theorem d_jdk_68_method_33_1 : decode jdk_68_method_33_code 1 = .ok (.getfield 79, 3) := by decide +kernel
theorem d_jdk_68_method_33_4 : decode jdk_68_method_33_code 4 = .ok (.istore_n 3, 1) := by decide +kernel
theorem d_jdk_68_method_33_5 : decode jdk_68_method_33_code 5 = .ok (.iload_n 3, 1) := by decide +kernel
theorem d_jdk_68_method_33_6 : decode jdk_68_method_33_code 6 = .ok (.lload_n 1, 1) := by decide +kernel
theorem d_jdk_68_method_33_7 : decode jdk_68_method_33_code 7 = .ok (.invokestatic 254, 3) := by decide +kernel
theorem d_jdk_68_method_33_10 : decode jdk_68_method_33_code 10 = .ok (.iadd, 1) := by decide +kernel
theorem d_jdk_68_method_33_11 : decode jdk_68_method_33_code 11 = .ok (.istore 4, 2) := by decide +kernel
theorem d_jdk_68_method_33_13 : decode jdk_68_method_33_code 13 = .ok (.aload_n 0, 1) := by decide +kernel
theorem d_jdk_68_method_33_14 : decode jdk_68_method_33_code 14 = .ok (.iload 4, 2) := by decide +kernel
theorem d_jdk_68_method_33_16 : decode jdk_68_method_33_code 16 = .ok (.invokevirtual 100, 3) := by decide +kernel
theorem d_jdk_68_method_33_19 : decode jdk_68_method_33_code 19 = .ok (.aload_n 0, 1) := by decide +kernel
theorem d_jdk_68_method_33_20 : decode jdk_68_method_33_code 20 = .ok (.invokevirtual 83, 3) := by decide +kernel
theorem d_jdk_68_method_33_23 : decode jdk_68_method_33_code 23 = .ok (.ifCond .eq 17, 3) := by decide +kernel
theorem d_jdk_68_method_33_26 : decode jdk_68_method_33_code 26 = .ok (.lload_n 1, 1) := by decide +kernel
theorem d_jdk_68_method_33_27 : decode jdk_68_method_33_code 27 = .ok (.iload 4, 2) := by decide +kernel
theorem d_jdk_68_method_33_29 : decode jdk_68_method_33_code 29 = .ok (.aload_n 0, 1) := by decide +kernel
theorem d_jdk_68_method_33_30 : decode jdk_68_method_33_code 30 = .ok (.getfield 15, 3) := by decide +kernel
theorem d_jdk_68_method_33_33 : decode jdk_68_method_33_code 33 = .ok (.invokestatic 259, 3) := by decide +kernel
theorem d_jdk_68_method_33_36 : decode jdk_68_method_33_code 36 = .ok (.pop, 1) := by decide +kernel
theorem d_jdk_68_method_33_37 : decode jdk_68_method_33_code 37 = .ok (.goto 15, 3) := by decide +kernel
theorem d_jdk_68_method_33_52 : decode jdk_68_method_33_code 52 = .ok (.aload_n 0, 1) := by decide +kernel
theorem d_jdk_68_method_33_53 : decode jdk_68_method_33_code 53 = .ok (.iload 4, 2) := by decide +kernel
theorem d_jdk_68_method_33_55 : decode jdk_68_method_33_code 55 = .ok (.putfield 79, 3) := by decide +kernel
theorem d_jdk_68_method_33_58 : decode jdk_68_method_33_code 58 = .ok (.aload_n 0, 1) := by decide +kernel
theorem d_jdk_68_method_33_59 : decode jdk_68_method_33_code 59 = .ok (.areturn, 1) := by decide +kernel
theorem d_jdk_67_method_16_0 : decode jdk_67_method_16_code 0 = .ok (.aload_n 0, 1) := by decide +kernel
theorem d_jdk_67_method_16_1 : decode jdk_67_method_16_code 1 = .ok (.lload_n 1, 1) := by decide +kernel
theorem d_jdk_67_method_16_2 : decode jdk_67_method_16_code 2 = .ok (.invokespecial 56, 3) := by decide +kernel
theorem d_jdk_67_method_16_5 : decode jdk_67_method_16_code 5 = .ok (.pop, 1) := by decide +kernel
theorem d_jdk_67_method_16_6 : decode jdk_67_method_16_code 6 = .ok (.aload_n 0, 1) := by decide +kernel
theorem d_jdk_67_method_16_7 : decode jdk_67_method_16_code 7 = .ok (.areturn, 1) := by decide +kernel
theorem d_jdk_43_method_3_0 : decode jdk_43_method_3_code 0 = .ok (.iload_n 0, 1) := by decide +kernel
theorem d_jdk_43_method_3_1 : decode jdk_43_method_3_code 1 = .ok (.sipush 255, 3) := by decide +kernel
theorem d_jdk_43_method_3_4 : decode jdk_43_method_3_code 4 = .ok (.if_icmp .gt 7, 3) := by decide +kernel
theorem d_jdk_43_method_3_7 : decode jdk_43_method_3_code 7 = .ok (.iconst 1, 1) := by decide +kernel
theorem d_jdk_43_method_3_8 : decode jdk_43_method_3_code 8 = .ok (.goto 4, 3) := by decide +kernel
theorem d_jdk_43_method_3_12 : decode jdk_43_method_3_code 12 = .ok (.ireturn, 1) := by decide +kernel
theorem d_jdk_43_method_46_0 : decode jdk_43_method_46_code 0 = .ok (.iconst 1, 1) := by decide +kernel
theorem d_jdk_43_method_46_1 : decode jdk_43_method_46_code 1 = .ok (.newarray .byte, 2) := by decide +kernel
theorem d_jdk_43_method_46_3 : decode jdk_43_method_46_code 3 = .ok (.dup, 1) := by decide +kernel
theorem d_jdk_43_method_46_4 : decode jdk_43_method_46_code 4 = .ok (.iconst 0, 1) := by decide +kernel
theorem d_jdk_43_method_46_5 : decode jdk_43_method_46_code 5 = .ok (.iload_n 0, 1) := by decide +kernel
theorem d_jdk_43_method_46_6 : decode jdk_43_method_46_code 6 = .ok (.i2b, 1) := by decide +kernel
theorem d_jdk_43_method_46_7 : decode jdk_43_method_46_code 7 = .ok (.bastore, 1) := by decide +kernel
theorem d_jdk_43_method_46_8 : decode jdk_43_method_46_code 8 = .ok (.areturn, 1) := by decide +kernel
theorem d_jdk_42_method_151_0 : decode jdk_42_method_151_code 0 = .ok (.aload_n 0, 1) := by decide +kernel
theorem d_jdk_42_method_151_1 : decode jdk_42_method_151_code 1 = .ok (.invokespecial 1, 3) := by decide +kernel
theorem d_jdk_42_method_151_4 : decode jdk_42_method_151_code 4 = .ok (.aload_n 0, 1) := by decide +kernel
theorem d_jdk_42_method_151_5 : decode jdk_42_method_151_code 5 = .ok (.aload_n 1, 1) := by decide +kernel
theorem d_jdk_42_method_151_6 : decode jdk_42_method_151_code 6 = .ok (.putfield 9, 3) := by decide +kernel
theorem d_jdk_42_method_151_9 : decode jdk_42_method_151_code 9 = .ok (.aload_n 0, 1) := by decide +kernel
theorem d_jdk_42_method_151_10 : decode jdk_42_method_151_code 10 = .ok (.iload_n 2, 1) := by decide +kernel
theorem d_jdk_42_method_151_11 : decode jdk_42_method_151_code 11 = .ok (.putfield 15, 3) := by decide +kernel
theorem d_jdk_42_method_151_14 : decode jdk_42_method_151_code 14 = .ok (.return_, 1) := by decide +kernel
theorem d_jdk_42_method_139_0 : decode jdk_42_method_139_code 0 = .ok (.getstatic 38, 3) := by decide +kernel
theorem d_jdk_42_method_139_3 : decode jdk_42_method_139_code 3 = .ok (.ifCond .eq 23, 3) := by decide +kernel
theorem d_jdk_42_method_139_6 : decode jdk_42_method_139_code 6 = .ok (.iload_n 0, 1) := by decide +kernel
theorem d_jdk_42_method_139_7 : decode jdk_42_method_139_code 7 = .ok (.invokestatic 1015, 3) := by decide +kernel
theorem d_jdk_42_method_139_10 : decode jdk_42_method_139_code 10 = .ok (.ifCond .eq 16, 3) := by decide +kernel
theorem d_jdk_42_method_139_13 : decode jdk_42_method_139_code 13 = .ok (.new 10, 3) := by decide +kernel
theorem d_jdk_42_method_139_16 : decode jdk_42_method_139_code 16 = .ok (.dup, 1) := by decide +kernel
theorem d_jdk_42_method_139_17 : decode jdk_42_method_139_code 17 = .ok (.iload_n 0, 1) := by decide +kernel
theorem d_jdk_42_method_139_18 : decode jdk_42_method_139_code 18 = .ok (.invokestatic 1018, 3) := by decide +kernel
theorem d_jdk_42_method_139_21 : decode jdk_42_method_139_code 21 = .ok (.iconst 0, 1) := by decide +kernel
theorem d_jdk_42_method_139_22 : decode jdk_42_method_139_code 22 = .ok (.invokespecial 209, 3) := by decide +kernel
theorem d_jdk_42_method_139_25 : decode jdk_42_method_139_code 25 = .ok (.areturn, 1) := by decide +kernel
theorem d_jdk_78_method_2_0 : decode jdk_78_method_2_code 0 = .ok (.aload_n 0, 1) := by decide +kernel
theorem d_jdk_78_method_2_1 : decode jdk_78_method_2_code 1 = .ok (.invokespecial 1, 3) := by decide +kernel
theorem d_jdk_78_method_2_4 : decode jdk_78_method_2_code 4 = .ok (.aload_n 0, 1) := by decide +kernel
theorem d_jdk_78_method_2_5 : decode jdk_78_method_2_code 5 = .ok (.aload_n 0, 1) := by decide +kernel
theorem d_jdk_78_method_2_6 : decode jdk_78_method_2_code 6 = .ok (.putfield 7, 3) := by decide +kernel
theorem d_jdk_78_method_2_9 : decode jdk_78_method_2_code 9 = .ok (.aload_n 0, 1) := by decide +kernel
theorem d_jdk_78_method_2_10 : decode jdk_78_method_2_code 10 = .ok (.getstatic 13, 3) := by decide +kernel
theorem d_jdk_78_method_2_13 : decode jdk_78_method_2_code 13 = .ok (.putfield 17, 3) := by decide +kernel
theorem d_jdk_78_method_2_16 : decode jdk_78_method_2_code 16 = .ok (.aload_n 0, 1) := by decide +kernel
theorem d_jdk_78_method_2_17 : decode jdk_78_method_2_code 17 = .ok (.getstatic 20, 3) := by decide +kernel
theorem d_jdk_78_method_2_20 : decode jdk_78_method_2_code 20 = .ok (.putfield 24, 3) := by decide +kernel
theorem d_jdk_78_method_2_23 : decode jdk_78_method_2_code 23 = .ok (.aload_n 0, 1) := by decide +kernel
theorem d_jdk_78_method_2_24 : decode jdk_78_method_2_code 24 = .ok (.invokevirtual 27, 3) := by decide +kernel
theorem d_jdk_78_method_2_27 : decode jdk_78_method_2_code 27 = .ok (.pop, 1) := by decide +kernel
theorem d_jdk_78_method_2_28 : decode jdk_78_method_2_code 28 = .ok (.aload_n 0, 1) := by decide +kernel
theorem d_jdk_78_method_2_29 : decode jdk_78_method_2_code 29 = .ok (.aload_n 1, 1) := by decide +kernel
theorem d_jdk_78_method_2_30 : decode jdk_78_method_2_code 30 = .ok (.putfield 31, 3) := by decide +kernel
theorem d_jdk_78_method_2_33 : decode jdk_78_method_2_code 33 = .ok (.return_, 1) := by decide +kernel
theorem d_jdk_59_method_2_0 : decode jdk_59_method_2_code 0 = .ok (.aload_n 0, 1) := by decide +kernel
theorem d_jdk_59_method_2_1 : decode jdk_59_method_2_code 1 = .ok (.aload_n 1, 1) := by decide +kernel
theorem d_jdk_59_method_2_2 : decode jdk_59_method_2_code 2 = .ok (.invokespecial 7, 3) := by decide +kernel
theorem d_jdk_59_method_2_5 : decode jdk_59_method_2_code 5 = .ok (.return_, 1) := by decide +kernel
theorem d_jdk_131_method_2_0 : decode jdk_131_method_2_code 0 = .ok (.aload_n 0, 1) := by decide +kernel
theorem d_jdk_131_method_2_1 : decode jdk_131_method_2_code 1 = .ok (.aload_n 1, 1) := by decide +kernel
theorem d_jdk_131_method_2_2 : decode jdk_131_method_2_code 2 = .ok (.invokespecial 7, 3) := by decide +kernel
theorem d_jdk_131_method_2_5 : decode jdk_131_method_2_code 5 = .ok (.return_, 1) := by decide +kernel
theorem d_prog_11_method_1_0 : decode prog_11_method_1_code 0 = .ok (.aload_n 0, 1) := by decide +kernel
theorem d_prog_11_method_1_1 : decode prog_11_method_1_code 1 = .ok (.aload_n 1, 1) := by decide +kernel
theorem d_prog_11_method_1_2 : decode prog_11_method_1_code 2 = .ok (.invokespecial 1, 3) := by decide +kernel
theorem d_prog_11_method_1_5 : decode prog_11_method_1_code 5 = .ok (.return_, 1) := by decide +kernel
theorem d_prog_11_method_2_0 : decode prog_11_method_2_code 0 = .ok (.new 7, 3) := by decide +kernel
theorem d_prog_11_method_2_3 : decode prog_11_method_2_code 3 = .ok (.dup, 1) := by decide +kernel
theorem d_prog_11_method_2_4 : decode prog_11_method_2_code 4 = .ok (.new 9, 3) := by decide +kernel
theorem d_prog_11_method_2_7 : decode prog_11_method_2_code 7 = .ok (.dup, 1) := by decide +kernel
theorem d_prog_11_method_2_8 : decode prog_11_method_2_code 8 = .ok (.invokespecial 11, 3) := by decide +kernel
theorem d_prog_11_method_2_11 : decode prog_11_method_2_code 11 = .ok (.ldc 14, 2) := by decide +kernel
theorem d_prog_11_method_2_13 : decode prog_11_method_2_code 13 = .ok (.invokevirtual 16, 3) := by decide +kernel
theorem d_prog_11_method_2_16 : decode prog_11_method_2_code 16 = .ok (.lload_n 0, 1) := by decide +kernel
theorem d_prog_11_method_2_17 : decode prog_11_method_2_code 17 = .ok (.invokevirtual 20, 3) := by decide +kernel
theorem d_prog_11_method_2_20 : decode prog_11_method_2_code 20 = .ok (.ldc 23, 2) := by decide +kernel
theorem d_prog_11_method_2_22 : decode prog_11_method_2_code 22 = .ok (.invokevirtual 16, 3) := by decide +kernel
theorem d_prog_11_method_2_25 : decode prog_11_method_2_code 25 = .ok (.aload_n 2, 1) := by decide +kernel
theorem d_prog_11_method_2_26 : decode prog_11_method_2_code 26 = .ok (.invokevirtual 16, 3) := by decide +kernel
theorem d_prog_11_method_2_29 : decode prog_11_method_2_code 29 = .ok (.invokevirtual 25, 3) := by decide +kernel
theorem d_prog_11_method_2_32 : decode prog_11_method_2_code 32 = .ok (.invokespecial 29, 3) := by decide +kernel
theorem d_prog_11_method_2_35 : decode prog_11_method_2_code 35 = .ok (.areturn, 1) := by decide +kernel
theorem d_jdk_78_method_6_0 : decode jdk_78_method_6_code 0 = .ok (.aload_n 0, 1) := by decide +kernel
theorem d_jdk_78_method_6_1 : decode jdk_78_method_6_code 1 = .ok (.getfield 31, 3) := by decide +kernel
theorem d_jdk_78_method_6_4 : decode jdk_78_method_6_code 4 = .ok (.areturn, 1) := by decide +kernel
theorem d_method_2_0 : decode method_2_code 0 = .ok (.iload_n 0, 1) := by decide +kernel
theorem d_method_2_1 : decode method_2_code 1 = .ok (.ifCond .ne 14, 3) := by decide +kernel
theorem d_method_2_4 : decode method_2_code 4 = .ok (.new 7, 3) := by decide +kernel
theorem d_method_2_7 : decode method_2_code 7 = .ok (.dup, 1) := by decide +kernel
theorem d_method_2_8 : decode method_2_code 8 = .ok (.iconst 0, 1) := by decide +kernel
theorem d_method_2_9 : decode method_2_code 9 = .ok (.newarray .char, 2) := by decide +kernel
theorem d_method_2_11 : decode method_2_code 11 = .ok (.invokespecial 9, 3) := by decide +kernel
theorem d_method_2_14 : decode method_2_code 14 = .ok (.areturn, 1) := by decide +kernel
theorem d_method_2_15 : decode method_2_code 15 = .ok (.iload_n 0, 1) := by decide +kernel
theorem d_method_2_16 : decode method_2_code 16 = .ok (.iconst 1, 1) := by decide +kernel
theorem d_method_2_17 : decode method_2_code 17 = .ok (.if_icmp .ne 8, 3) := by decide +kernel
theorem d_method_2_20 : decode method_2_code 20 = .ok (.iload_n 1, 1) := by decide +kernel
theorem d_method_2_21 : decode method_2_code 21 = .ok (.invokestatic 12, 3) := by decide +kernel
theorem d_method_2_24 : decode method_2_code 24 = .ok (.areturn, 1) := by decide +kernel
theorem d_method_2_25 : decode method_2_code 25 = .ok (.iload_n 0, 1) := by decide +kernel
theorem d_method_2_26 : decode method_2_code 26 = .ok (.iconst 2, 1) := by decide +kernel
theorem d_method_2_27 : decode method_2_code 27 = .ok (.if_icmp .ne 22, 3) := by decide +kernel
theorem d_method_2_30 : decode method_2_code 30 = .ok (.new 7, 3) := by decide +kernel
theorem d_method_2_33 : decode method_2_code 33 = .ok (.dup, 1) := by decide +kernel
theorem d_method_2_34 : decode method_2_code 34 = .ok (.iconst 2, 1) := by decide +kernel
theorem d_method_2_35 : decode method_2_code 35 = .ok (.newarray .char, 2) := by decide +kernel
theorem d_method_2_37 : decode method_2_code 37 = .ok (.dup, 1) := by decide +kernel
theorem d_method_2_38 : decode method_2_code 38 = .ok (.iconst 0, 1) := by decide +kernel
theorem d_method_2_39 : decode method_2_code 39 = .ok (.iload_n 1, 1) := by decide +kernel
theorem d_method_2_40 : decode method_2_code 40 = .ok (.castore, 1) := by decide +kernel
theorem d_method_2_41 : decode method_2_code 41 = .ok (.dup, 1) := by decide +kernel
theorem d_method_2_42 : decode method_2_code 42 = .ok (.iconst 1, 1) := by decide +kernel
theorem d_method_2_43 : decode method_2_code 43 = .ok (.iload_n 2, 1) := by decide +kernel
theorem d_method_2_44 : decode method_2_code 44 = .ok (.castore, 1) := by decide +kernel
theorem d_method_2_45 : decode method_2_code 45 = .ok (.invokespecial 9, 3) := by decide +kernel
theorem d_method_2_48 : decode method_2_code 48 = .ok (.areturn, 1) := by decide +kernel
theorem d_method_2_49 : decode method_2_code 49 = .ok (.new 7, 3) := by decide +kernel
theorem d_method_2_52 : decode method_2_code 52 = .ok (.dup, 1) := by decide +kernel
theorem d_method_2_53 : decode method_2_code 53 = .ok (.iconst 3, 1) := by decide +kernel
theorem d_method_2_54 : decode method_2_code 54 = .ok (.newarray .char, 2) := by decide +kernel
theorem d_method_2_56 : decode method_2_code 56 = .ok (.dup, 1) := by decide +kernel
theorem d_method_2_57 : decode method_2_code 57 = .ok (.iconst 0, 1) := by decide +kernel
theorem d_method_2_58 : decode method_2_code 58 = .ok (.iload_n 1, 1) := by decide +kernel
theorem d_method_2_59 : decode method_2_code 59 = .ok (.castore, 1) := by decide +kernel
theorem d_method_2_60 : decode method_2_code 60 = .ok (.dup, 1) := by decide +kernel
theorem d_method_2_61 : decode method_2_code 61 = .ok (.iconst 1, 1) := by decide +kernel
theorem d_method_2_62 : decode method_2_code 62 = .ok (.iload_n 2, 1) := by decide +kernel
theorem d_method_2_63 : decode method_2_code 63 = .ok (.castore, 1) := by decide +kernel
theorem d_method_2_64 : decode method_2_code 64 = .ok (.dup, 1) := by decide +kernel
theorem d_method_2_65 : decode method_2_code 65 = .ok (.iconst 2, 1) := by decide +kernel
theorem d_method_2_66 : decode method_2_code 66 = .ok (.iload_n 3, 1) := by decide +kernel
theorem d_method_2_67 : decode method_2_code 67 = .ok (.castore, 1) := by decide +kernel
theorem d_method_2_68 : decode method_2_code 68 = .ok (.invokespecial 9, 3) := by decide +kernel
theorem d_method_2_71 : decode method_2_code 71 = .ok (.areturn, 1) := by decide +kernel
abbrev EL1 : List (String × Nat) := consts_1
theorem wS {Z : State} {a0 : Array Value} (hw : Hw Z a0) : ∀ a ∈ Bundle.stringAtoms, a.before a0 Z = true := by
  intro a ha
  simp only [Bundle.stringAtoms, List.mem_cons, List.not_mem_nil, or_false] at ha
  rcases ha with rfl | rfl | rfl | rfl | rfl | rfl | rfl
  · exact (w25 hw)
  · exact (w24 hw)
  · exact (w38 hw)
  · exact (w39 hw)
  · exact (w40 hw)
  · exact (w41 hw)
  · exact (w42 hw)
theorem el {Z : State} {a0 : Array Value} (hw : Hw Z a0) : EW Z a0 EL1 := (EW.cons (w69 hw) (by decide) (EW.cons (w143 hw) (by decide) (EW.cons (w37 hw) (by decide) EW.nil)))
theorem ltNJ {y p : Int64} {n P : Nat} (hy : y.toInt = -(n : Int)) (hp : p.toInt = -(P : Int)) : p < y ↔ n < P := by
  rw [Int64.lt_iff_toInt_lt, hy, hp]; omega
theorem negJ {x : Int64} {n : Nat} (hx : x.toInt = (n : Int)) : (-x).toInt = -(n : Int) := by
  have q := c_lneg x
  have r := rng64 (-x)
  have r2 := rng64 x
  omega
theorem gcJ_q {y : Int64} {n : Nat} (hy : y.toInt = -(n : Int)) : (y / (100 : Int64)).toInt = -((n / 100 : Nat) : Int) := by
  have q := c_ldiv y 100 100 rfl (by decide)
  rcases Nat.eq_zero_or_pos n with z | z
  · subst z
    rw [q.1 (by omega)]; rw [hy]; rfl
  · rw [q.2 (by omega), hy]; omega
theorem gcJ_r {y : Int64} {n : Nat} (hy : y.toInt = -(n : Int)) : ((y / (100 : Int64)) * (100 : Int64) - y).toInt32 = Int32.ofNat (n % 100) := by
  have hq := gcJ_q hy
  have m := c_lmul (y / (100 : Int64)) 100
  have e100 : (100 : Int64).toInt = 100 := rfl
  have s := c_lsub ((y / (100 : Int64)) * (100 : Int64)) y
  have r1 := rng64 ((y / (100 : Int64)) * (100 : Int64))
  have r2 := rng64 ((y / (100 : Int64)) * (100 : Int64) - y)
  have ry := rng64 y
  rw [hq, e100] at m
  have l := c_l2i ((y / (100 : Int64)) * (100 : Int64) - y)
  have rl := rng32 ((y / (100 : Int64)) * (100 : Int64) - y).toInt32
  apply Int32.toInt_inj.mp
  rw [n_toInt (by omega)]
  omega
def p10s : List Int64 := [1, 10, 100, 1000, 10000, 100000, 1000000, 10000000, 100000000, 1000000000, 10000000000, 100000000000, 1000000000000, 10000000000000, 100000000000000, 1000000000000000, 10000000000000000, 100000000000000000, 1000000000000000000]
def p10 (j : Nat) : Int64 := p10s.getD j 0
theorem p10_all : ∀ j : Fin 19, (p10 j).toInt = ((10 ^ j.val : Nat) : Int) := by decide +kernel
theorem p10_toInt {j : Nat} (h : j < 19) : (p10 j).toInt = ((10 ^ j : Nat) : Int) := p10_all ⟨j, h⟩
theorem p10_ne {j : Nat} (h : j < 19) : p10 j ≠ 0 ∧ p10 j ≠ -1 := by
  have e := p10_toInt h
  have hp : 0 < 10 ^ j := Nat.pow_pos (by decide)
  refine ⟨fun q => ?_, fun q => ?_⟩
  · rw [q] at e; have z : (0 : Int64).toInt = 0 := rfl; omega
  · rw [q] at e; have z : (-1 : Int64).toInt = -1 := rfl; omega
theorem lv_getD (l : List Int64) (i : Nat) : (l.map Value.long).getD i (.long 0) = .long (l.getD i 0) := by
  rw [List.getD_eq_getElem?_getD, List.getD_eq_getElem?_getD, List.getElem?_map]
  cases l[i]? <;> rfl
theorem qneg {v p : Int64} {n P : Nat} (hv : v.toInt = -(n : Int)) (hp : p.toInt = (P : Int)) (h1 : p ≠ -1) : (v / p).toInt = -((n / P : Nat) : Int) := by
  have q := c_ldiv v p _ hp h1
  rcases Nat.eq_zero_or_pos n with z | z
  · subst z
    rw [q.1 (by omega), hv]; simp
  · rw [q.2 (by omega), hv, Int.neg_neg, Int.natCast_ediv]
theorem digit_neg {v p : Int64} {n e : Nat} (hv : v.toInt = -(n : Int)) (hp : p.toInt = ((10 ^ e : Nat) : Int)) (h1 : p ≠ -1) : (((48 : Int32) + (-((v / p) % (10 : Int64))).toInt32).toUInt32.toUInt16.toUInt32.toInt32) = dch n e := by
  have q2 := qneg hv hp h1
  have hm : n / 10 ^ e % 10 < 10 := Nat.mod_lt _ (by decide)
  rw [dch]
  generalize n / 10 ^ e = k at q2 hm ⊢
  have m2 : ((v / p) % (10 : Int64)).toInt = -((k % 10 : Nat) : Int) := by
    have m := c_lrem (v / p) 10 10 rfl
    rw [lrem_mod, q2] at m
    rcases Nat.eq_zero_or_pos k with z | z
    · rw [m.1 (by omega)]; omega
    · rw [m.2 (by omega)]; omega
  have ng := c_lneg ((v / p) % (10 : Int64))
  have rn := rng64 (-((v / p) % (10 : Int64)))
  have l := c_l2i (-((v / p) % (10 : Int64)))
  have rl := rng32 (-((v / p) % (10 : Int64))).toInt32
  have a := c_iadd (48 : Int32) (-((v / p) % (10 : Int64))).toInt32
  have e48 : (48 : Int32).toInt = 48 := rfl
  have ra := rng32 ((48 : Int32) + (-((v / p) % (10 : Int64))).toInt32)
  have c := c_i2c ((48 : Int32) + (-((v / p) % (10 : Int64))).toInt32)
  rw [m2] at ng
  apply Int32.toInt_inj.mp
  rw [n_toInt (by omega)]
  omega
theorem remj (x : Int32) {d : Nat} (h1 : 1 ≤ d) (h2 : d ≤ 19) : ∃ j : Nat, j < d ∧ (x &&& (2147483647 : Int32)) % Int32.ofNat d = Int32.ofNat j := by
  have q := c_and x 2147483647 (by decide)
  have ed : (Int32.ofNat d).toInt = d := n_toInt (by omega)
  have r := (c_iremV (x &&& 2147483647) (Int32.ofNat d)).1 q.1 (by omega)
  rw [ed] at r
  exact ⟨((x &&& 2147483647) % Int32.ofNat d).toInt.toNat, by omega, Int32.toInt_inj.mp (by rw [n_toInt (by omega)]; omega)⟩
theorem and3 (x : Int32) : ∃ k : Nat, k ≤ 3 ∧ x &&& (3 : Int32) = Int32.ofNat k := by
  have q := c_and x 3 (by decide)
  have e3 : (3 : Int32).toInt = 3 := rfl
  exact ⟨(x &&& 3).toInt.toNat, by omega, Int32.toInt_inj.mp (by rw [n_toInt (by omega)]; omega)⟩
theorem pos_eq {q j : Nat} (h : j + 1 ≤ q) : (Int32.ofNat q - (1 : Int32)) - Int32.ofNat j = Int32.ofNat (q - 1 - j) := by
  rw [show (1 : Int32) = Int32.ofNat 1 from rfl, n_sub (by omega), n_sub (by omega)]
/-- Throwable's two statics -/
def ThSt (Z : State) : Prop := ∃ us sv : Value, Sta Z Z.heap "java/lang/Throwable" "UNASSIGNED_STACK" "[Ljava/lang/StackTraceElement;" us ∧ us.isRef = true ∧ us ≠ .null ∧ Sta Z Z.heap "java/lang/Throwable" "SUPPRESSED_SENTINEL" "Ljava/util/List;" sv ∧ sv.isRef = true
theorem take3_len {c0 c1 c2 : Int32} {k : Nat} (h : k ≤ 3) : ([c0, c1, c2].take k).length = k := by simp; omega
theorem take3_getD {c0 c1 c2 : Int32} {k i : Nat} (h : i < k) : ([c0, c1, c2].take k).getD i 0 = [c0, c1, c2].getD i 0 := by
  rw [List.getD_eq_getElem?_getD, List.getD_eq_getElem?_getD, List.getElem?_take_of_lt h]
set_option maxRecDepth 65536 in
set_option maxHeartbeats 40000000 in
theorem thrA {Z : State} {a0 : Array Value} (hw : Hw Z a0) : ∀ d ∈ thrW "com/example/nerai/nerai/crawler/MalformedFileException", d.before a0 Z = true := by
  intro d hd
  simp only [thrW, List.mem_cons, List.not_mem_nil, or_false] at hd
  rcases hd with rfl | rfl | rfl | rfl | rfl | rfl | rfl | rfl | rfl | rfl | rfl | rfl | rfl | rfl | rfl | rfl | rfl | rfl | rfl | rfl | rfl | rfl | rfl | rfl | rfl | rfl | rfl | rfl | rfl | rfl | rfl
  · exact (w203 hw)
  · exact (w221 hw)
  · exact (w216 hw)
  · exact (w222 hw)
  · exact (w223 hw)
  · exact (w224 hw)
  · exact (w35 hw)
  · exact (w36 hw)
  · exact (w205 hw)
  · exact (w214 hw)
  · exact (w227 hw)
  · exact (w206 hw)
  · exact (w207 hw)
  · exact (w209 hw)
  · exact (w210 hw)
  · exact (w212 hw)
  · exact (w213 hw)
  · exact (w208 hw)
  · exact (w234 hw)
  · exact (w211 hw)
  · exact (w235 hw)
  · exact (w237 hw)
  · exact (w238 hw)
  · exact (w239 hw)
  · exact (w232 hw)
  · exact (w215 hw)
  · exact (w217 hw)
  · exact (w236 hw)
  · exact (w219 hw)
  · exact (w220 hw)
  · exact (w218 hw)
set_option maxRecDepth 65536 in
set_option maxHeartbeats 40000000 in
theorem lp_compress {p : Program} {l : Launch} {e : Env} {R : Room} {s : State} {m : MethodId} {args : Array Value} {below : List Frame} {meth : Method} {c : Code} {Z : State} {a0 : Array Value} (hw : Hw Z a0) {n0 : Nat} {cells slots : Nat} (hc : cells ≤ R.cells) (hl : slots ≤ R.slots) {a d : Addr} {ka kd : ClassId} {cs : List Int32} {n : Nat} (hn : cs.length = n) (hbig : n < 2147483648) {hh : Heap} (hne : a ≠ d) : ∀ (r i : Nat), i + r = n → ∀ (T : State) (vm : Vm) (h : Heap) (o : Slot), One o → (∀ c ∈ cs.take i, ¬ 255 < c) → Wk p l e R s m args below meth c Z a0 EL1 n0 "java/lang/StringUTF16" "compress" jdk_52_method_21_code 7 (some .int) T vm h cells slots → Arv Z h a ka .char (Int32.ofNat n) (cs.map cv) (.int 0) → Arv Z h d kd .byte (Int32.ofNat n) ((cs.take i).map bv ++ List.replicate (n - i) (.int 0)) (.int 0) → Mine Z EL1 n0 vm h d → Keep hh h [d] → Go p e below s R Z EL1 n0 (fun v vm' h' => ∃ k, k ≤ n ∧ v = some (.int (Int32.ofNat k)) ∧ (∀ c ∈ cs.take k, ¬ 255 < c) ∧ (k < n → 255 < cs.getD k 0) ∧ Keep hh h' [d] ∧ Arv Z h' d kd .byte (Int32.ofNat n) ((cs.take k).map bv ++ List.replicate (n - k) (.int 0)) (.int 0)) (T.setTop (mkF m 3 #[rv a, iv (Int32.ofNat i), rv d, iv (Int32.ofNat i), iv (Int32.ofNat n), iv (Int32.ofNat i), o] [])) := by
  intro r
  induction r with
  | zero =>
    intro i hi T vm h o ho hle W A D M K
    obtain rfl : i = n := by omega
    refine s_iload (pc' := 5) W d_jdk_52_method_21_3 rfl rfl ?_
    refine s_iload (pc' := 7) W d_jdk_52_method_21_5 rfl rfl ?_
    refine s_icmpge (pc' := 10) (pcT := 44) W d_jdk_52_method_21_7 (by decide) rfl rfl (fun _ => ?_) (fun hq => absurd hq (n_ge (Nat.le_refl _) hbig))
    refine s_iload (pc' := 46) W d_jdk_52_method_21_44 rfl rfl ?_
    refine s_ireturn W rfl d_jdk_52_method_21_46 hc hl ?_
    intro vm' C'
    exact ⟨i, Nat.le_refl _, rfl, hle, fun q => absurd q (Nat.lt_irrefl _), K, D⟩
  | succ r ih =>
    intro i hi T vm h o ho hle W A D M K
    have hin : i < n := by omega
    have hi31 : i < 2147483648 := by omega
    refine s_iload (pc' := 5) W d_jdk_52_method_21_3 rfl rfl ?_
    refine s_iload (pc' := 7) W d_jdk_52_method_21_5 rfl rfl ?_
    refine s_icmpge (pc' := 10) (pcT := 44) W d_jdk_52_method_21_7 (by decide) rfl rfl (fun hq => absurd (n_lt hin hbig) hq) (fun _ => ?_)
    refine s_aload_n (pc' := 11) W d_jdk_52_method_21_10 rfl rfl rfl ?_
    refine s_iload_n (pc' := 12) W d_jdk_52_method_21_11 rfl rfl ?_
    refine s_caload (pc' := 13) W (.int (cs.getD i 0)) A (n_nn hi31) (n_lt hin hbig) (by rw [n_clamp hi31]; exact cv_getD cs i) d_jdk_52_method_21_12 rfl ?_
    refine s_istore (pc' := 15) W #[rv a, iv (Int32.ofNat i), rv d, iv (Int32.ofNat i), iv (Int32.ofNat n), iv (Int32.ofNat i), iv (cs.getD i 0)] d_jdk_52_method_21_13 (Jvm.Free.XS.store1 (i := 6) rfl ho rfl) rfl ?_
    refine s_iload (pc' := 17) W d_jdk_52_method_21_15 rfl rfl ?_
    refine s_sipush (pc' := 20) W (255 : Int32) d_jdk_52_method_21_17 rfl rfl ?_
    refine s_icmple (pc' := 23) (pcT := 26) W d_jdk_52_method_21_20 (by decide) rfl rfl (fun hx => ?_) (fun hx => ?_)
    · refine s_aload_n (pc' := 27) W d_jdk_52_method_21_26 rfl rfl rfl ?_
      refine s_iload_n (pc' := 28) W d_jdk_52_method_21_27 rfl rfl ?_
      refine s_iload (pc' := 30) W d_jdk_52_method_21_28 rfl rfl ?_
      refine s_i2b (pc' := 31) W d_jdk_52_method_21_30 rfl ?_
      refine s_bastore (pc' := 32) W i D M (n_clamp hi31) (n_nn hi31) (n_lt hin hbig) (by rw [len_mid hn (Nat.le_of_lt hin)]; exact hin) d_jdk_52_method_21_31 rfl ?_
      intro T h W K1 C1 Vn1
      replace A := A.keep K1 (ninS hne nin0)
      replace M := M.mv C1
      have D := Vn1
      clear Vn1
      replace K := K.trans K1 (fun x hx => Or.inl hx)
      rw [bb, set_step hn hin (x := .int (cs.getD i 0).toInt8.toInt32) rfl] at D
      refine s_iinc (pc' := 35) W (1 : Int32) #[rv a, iv ((Int32.ofNat i) + (1 : Int32)), rv d, iv (Int32.ofNat i), iv (Int32.ofNat n), iv (Int32.ofNat i), iv (cs.getD i 0)] d_jdk_52_method_21_32 rfl rfl rfl rfl ?_
      refine s_iinc (pc' := 38) W (1 : Int32) #[rv a, iv ((Int32.ofNat i) + (1 : Int32)), rv d, iv ((Int32.ofNat i) + (1 : Int32)), iv (Int32.ofNat n), iv (Int32.ofNat i), iv (cs.getD i 0)] d_jdk_52_method_21_35 rfl rfl rfl rfl ?_
      refine s_iinc (pc' := 41) W (1 : Int32) #[rv a, iv ((Int32.ofNat i) + (1 : Int32)), rv d, iv ((Int32.ofNat i) + (1 : Int32)), iv (Int32.ofNat n), iv ((Int32.ofNat i) + (1 : Int32)), iv (cs.getD i 0)] d_jdk_52_method_21_38 rfl rfl rfl rfl ?_
      refine s_goto (pc' := 3) W d_jdk_52_method_21_41 (by decide) rfl ?_
      simp only [n_succ]
      exact ih (i + 1) (by omega) T _ h _ (One.val rfl) (mem_take_succ (by omega) hle hx) W A D M K
    · refine s_iload (pc' := 25) W d_jdk_52_method_21_23 rfl rfl ?_
      refine s_ireturn W rfl d_jdk_52_method_21_25 hc hl ?_
      intro vm' C'
      exact ⟨i, Nat.le_of_lt hin, rfl, hle, fun _ => hx, K, D⟩
set_option maxRecDepth 65536 in
set_option maxHeartbeats 40000000 in
theorem ef_compress5 (m : MethodId) (x0 : Addr) (x1 : Int32) (x2 : Addr) (x3 : Int32) (x4 : Int32) : entryFrame m #[(.ref x0), (.int x1), (.ref x2), (.int x3), (.int x4)] 7 = mkF m 0 #[.val (.ref x0), .val (.int x1), .val (.ref x2), .val (.int x3), .val (.int x4), .unset, .unset] [] := by first | (simp [entryFrame, mkF, argsToLocals, Value.category]; done) | rfl
set_option maxRecDepth 65536 in
set_option maxHeartbeats 40000000 in
theorem c_compress5 (l : Launch) {Z : State} {a0 : Array Value} (hw : Hw Z a0) {n0 : Nat} {h : Heap} (O : Old Z n0 h) {a d : Nat} {ka kd : ClassId} {cs : List Int32} {n : Nat} (hn : cs.length = n) (hbig : n < 2147483648) (hne : a ≠ d) (A : Arv Z h a ka .char (Int32.ofNat n) (cs.map cv) (.int 0)) (D : Arv Z h d kd .byte (Int32.ofNat n) (List.replicate n (.int 0)) (.int 0)) (M0 : n0 ≤ d) (Md : d < h.size) :
    Con l Z EL1 n0 (⟨"java/lang/StringUTF16", "compress", "([CI[BII)I"⟩ : MethodName) jdk_52_method_21_code 7 (some .int) [] ({ frames := 0, cells := 0, slots := 0, locals := 0 } : Room) #[(.ref a), (.int (0 : Int32)), (.ref d), (.int (0 : Int32)), (.int (Int32.ofNat n))] h [d] (fun v vm' h' => ∃ k, k ≤ n ∧ v = some (.int (Int32.ofNat k)) ∧ (∀ c ∈ cs.take k, ¬ 255 < c) ∧ (k < n → 255 < cs.getD k 0) ∧ Keep h h' [d] ∧ Arv Z h' d kd .byte (Int32.ofNat n) ((cs.take k).map bv ++ List.replicate (n - k) (.int 0)) (.int 0)) := by
  refine Con.of pn0 O (el hw) ?_
  intro pg_ e s m below meth cd_ T W hs_ hSf
  rw [ef_compress5]
  refine s_iconst (pc' := 1) W (0 : Int32) d_jdk_52_method_21_0 rfl rfl ?_
  refine s_istore (pc' := 3) W #[rv a, iv (0 : Int32), rv d, iv (0 : Int32), iv (Int32.ofNat n), iv (0 : Int32), .unset] d_jdk_52_method_21_1 rfl rfl ?_
  have Qs := lp_compress (e := e) (R := ({ frames := 0, cells := 0, slots := 0, locals := 0 } : Room)) hw (Nat.le_refl _) (Nat.le_refl _) (cs := cs) (n := n) hn hbig (hh := h) hne n 0 (Nat.zero_add n) T s.vm h .unset One.u (fun c hc => by simp at hc) W A (by simpa using D) ⟨M0, Md, hSf d (by simp)⟩ (Keep.refl _ _)
  exact Qs
set_option maxRecDepth 65536 in
set_option maxHeartbeats 40000000 in
theorem ef_compress3 (m : MethodId) (x0 : Addr) (x1 : Int32) (x2 : Int32) : entryFrame m #[(.ref x0), (.int x1), (.int x2)] 6 = mkF m 0 #[.val (.ref x0), .val (.int x1), .val (.int x2), .unset, .unset, .unset] [] := by first | (simp [entryFrame, mkF, argsToLocals, Value.category]; done) | rfl
set_option maxRecDepth 65536 in
set_option maxHeartbeats 40000000 in
theorem c_compress3 (l : Launch) {Z : State} {a0 : Array Value} (hw : Hw Z a0) {n0 : Nat} {h : Heap} (O : Old Z n0 h) {a : Nat} {ka : ClassId} {cs : List Int32} {n : Nat} (hn : cs.length = n) (hbig : n ≤ 4096) (hL : ∀ c ∈ cs, L1 c) (A : Arv Z h a ka .char (Int32.ofNat n) (cs.map cv) (.int 0)) :
    Con l Z EL1 n0 (⟨"java/lang/StringUTF16", "compress", "([CII)[B"⟩ : MethodName) jdk_52_method_16_code 6 (some (.array .byte)) [] ({ frames := 1, cells := 1, slots := n, locals := 18 } : Room) #[(.ref a), (.int (0 : Int32)), (.int (Int32.ofNat n))] h [] (fun v vm' h' => ∃ b kb, v = some (.ref b) ∧ Keep h h' [] ∧ Arv Z h' b kb .byte (Int32.ofNat n) (cs.map bv) (.int 0) ∧ h.size ≤ b) := by
  refine Con.of pn1 O (el hw) ?_
  intro pg_ e s m below meth cd_ T W hs_ hSf
  rw [ef_compress3]
  have hn31 : n < 2147483648 := by omega
  refine s_iload_n (pc' := 1) W d_jdk_52_method_16_0 rfl rfl ?_
  refine s_newarr (pc' := 3) W (aty := .byte) n "[B" (by decide) (w38 hw) d_jdk_52_method_16_1 (n_nn hn31) (by rw [n_clamp hn31]; exact Nat.le_refl _) (by omega) (by (try dsimp only) <;> omega) (by (try dsimp only) <;> omega) rfl ?_
  intro b T h k_b g_b
  have ne_a_b : @Ne Nat a b := by have := nlt A.lt; omega
  intro W K1 C1 M_b V_b X_b
  replace A := A.keep K1 nin0
  have V_b : Arv Z h b k_b .byte (Int32.ofNat n) (List.replicate n (.int 0)) (.int 0) := by have q := V_b; rw [n_clamp hn31] at q; exact q
  have K0 := K1
  refine s_astore_n (pc' := 4) W #[rv a, iv (0 : Int32), iv (Int32.ofNat n), rv b, .unset, .unset] d_jdk_52_method_16_3 rfl rfl rfl ?_
  refine s_aload_n (pc' := 5) W d_jdk_52_method_16_4 rfl rfl rfl ?_
  refine s_iload_n (pc' := 6) W d_jdk_52_method_16_5 rfl rfl ?_
  refine s_aload_n (pc' := 7) W d_jdk_52_method_16_6 rfl rfl rfl ?_
  refine s_iconst (pc' := 8) W (0 : Int32) d_jdk_52_method_16_7 rfl rfl ?_
  refine s_iload_n (pc' := 9) W d_jdk_52_method_16_8 rfl rfl ?_
  refine s_static (pc' := 12) W (w276 hw) (w277 hw) (w274 hw) (w278 hw) (by decide) pd0 [(.ref a), (.int (0 : Int32)), (.ref b), (.int (0 : Int32)), (.int (Int32.ofNat n))] rfl (c_compress5 l hw W.old hn hn31 ne_a_b A V_b M_b.1 M_b.2.1) (allS ⟨M_b.2.1, M_b.2.2⟩ all0) rfl d_jdk_52_method_16_9 0 (le rfl) (bl rfl) (bl rfl) (by (try dsimp only) <;> omega) (by (try dsimp only) <;> omega) rfl ?_
  rintro _ T vm h W C2 ⟨k, hk, rfl, hle, hgt, K2, Vn⟩
  replace A := A.keep K2 (ninS ne_a_b nin0)
  replace M_b := M_b.mv C2
  replace X_b := X_b.keep K2
  obtain rfl : k = n := by
      rcases Nat.lt_or_ge k n with q | q
      · exact absurd (hgt q) (hL _ (mem_getD (by omega))).2
      · omega
  refine s_istore (pc' := 14) W #[rv a, iv (0 : Int32), iv (Int32.ofNat k), rv b, iv (Int32.ofNat k), .unset] d_jdk_52_method_16_12 rfl rfl ?_
  refine s_iload (pc' := 16) W d_jdk_52_method_16_14 rfl rfl ?_
  refine s_iload_n (pc' := 17) W d_jdk_52_method_16_16 rfl rfl ?_
  refine s_icmpeq (pc' := 20) (pcT := 57) W d_jdk_52_method_16_17 (by decide) rfl rfl (fun _ => ?_) (fun hq => absurd (rfl : (Int32.ofNat k) = Int32.ofNat k) hq)
  refine s_aload_n (pc' := 58) W d_jdk_52_method_16_57 rfl rfl rfl ?_
  refine s_areturn W rfl rfl rfl d_jdk_52_method_16_58 (by (try dsimp only) <;> omega) (by (try dsimp only) <;> omega) ?_
  intro vm' C'
  exact ⟨b, k_b, rfl, K0.trans K2 (fun x hx => Or.inr (by cases List.mem_singleton.mp hx; omega)), by simpa [List.take_of_length_le (Nat.le_of_eq hn)] using Vn, by omega⟩
set_option maxRecDepth 65536 in
set_option maxHeartbeats 40000000 in
theorem ef_coderfrom (m : MethodId) (x0 : Addr) (x1 : Int32) : entryFrame m #[(.ref x0), (.int x1)] 2 = mkF m 0 #[.val (.ref x0), .val (.int x1)] [] := by first | (simp [entryFrame, mkF, argsToLocals, Value.category]; done) | rfl
set_option maxRecDepth 65536 in
set_option maxHeartbeats 40000000 in
theorem c_coderfrom (l : Launch) {Z : State} {a0 : Array Value} (hw : Hw Z a0) {n0 : Nat} {h : Heap} (O : Old Z n0 h) {a : Nat} {ka : ClassId} {z : Int32} {vs : List Value} {dv : Value} (A : Arv Z h a ka .byte z vs dv) :
    Con l Z EL1 n0 (⟨"java/lang/StringUTF16", "coderFromArrayLen", "([BI)B"⟩ : MethodName) jdk_52_method_15_code 2 (some .byte) [] ({ frames := 0, cells := 0, slots := 0, locals := 0 } : Room) #[(.ref a), (.int z)] h [] (fun v vm' h' => v = some (.int 0) ∧ h = h') := by
  refine Con.of pn2 O (el hw) ?_
  intro pg_ e s m below meth cd_ T W hs_ hSf
  rw [ef_coderfrom]
  refine s_iload_n (pc' := 1) W d_jdk_52_method_15_0 rfl rfl ?_
  refine s_aload_n (pc' := 2) W d_jdk_52_method_15_1 rfl rfl rfl ?_
  refine s_alen (pc' := 3) W A d_jdk_52_method_15_2 rfl ?_
  refine s_isub (pc' := 4) W d_jdk_52_method_15_3 rfl ?_
  refine s_bipush (pc' := 6) W (31 : Int32) d_jdk_52_method_15_4 rfl rfl ?_
  refine s_iushr (pc' := 7) W d_jdk_52_method_15_6 rfl ?_
  refine s_i2b (pc' := 8) W d_jdk_52_method_15_7 rfl ?_
  refine s_nreturn W (t := .byte) rfl (by simp) d_jdk_52_method_15_8 (bl rfl) (bl rfl) ?_
  intro vm' C'
  exact ⟨by rw [sub_self32]; rfl, rfl⟩
set_option maxRecDepth 65536 in
set_option maxHeartbeats 40000000 in
theorem ef_strinit4 (m : MethodId) (x0 : Addr) (x1 : Addr) (x2 : Int32) (x3 : Int32) : entryFrame m #[(.ref x0), (.ref x1), (.int x2), (.int x3), .null] 6 = mkF m 0 #[.val (.ref x0), .val (.ref x1), .val (.int x2), .val (.int x3), .val .null, .unset] [] := by first | (simp [entryFrame, mkF, argsToLocals, Value.category]; done) | rfl
set_option maxRecDepth 65536 in
set_option maxHeartbeats 40000000 in
theorem c_strinit4 (l : Launch) {Z : State} {a0 : Array Value} (hw : Hw Z a0) {n0 : Nat} {h : Heap} (O : Old Z n0 h) {a : Nat} {cs : List Int32} {n : Nat} (CS0 : CS Z) (hn : cs.length = n) (hbig : n ≤ 4096) (hL : ∀ c ∈ cs, L1 c) (E : Exa Z h a "java/lang/String") (M0 : n0 ≤ a) (Ma : a < h.size) (Fc : Fld Z h a "java/lang/String" "coder" "B" (.int 0)) (Fv : Fld Z h a "java/lang/String" "value" "[B" .null) {d : Nat} {kd : ClassId} (A : Arv Z h d kd .char (Int32.ofNat n) (cs.map cv) (.int 0)) :
    Con l Z EL1 n0 (⟨"java/lang/String", "<init>", "([CIILjava/lang/Void;)V"⟩ : MethodName) jdk_42_method_149_code 6 none [] ({ frames := 2, cells := 4, slots := n + 8, locals := 35 } : Room) #[(.ref a), (.ref d), (.int (0 : Int32)), (.int (Int32.ofNat n)), .null] h [a] (fun v vm' h' => v = none ∧ Keep h h' [a] ∧ ∃ b kb, LatB Z h' a b kb cs) := by
  refine Con.of pn3 O (el hw) ?_
  intro pg_ e s m below meth cd_ T W hs_ hSf
  rw [ef_strinit4]
  have M : Mine Z EL1 n0 s.vm h a := ⟨M0, Ma, hSf a (by simp)⟩
  refine s_aload_n (pc' := 1) W d_jdk_42_method_149_0 rfl rfl rfl ?_
  refine s_objinit (pc' := 4) W (w34 hw) (w35 hw) (w36 hw) rfl d_jdk_42_method_149_1 0 (le rfl) (bl rfl) (bl rfl) rfl ?_
  intro T W
  refine s_iload_n (pc' := 5) W d_jdk_42_method_149_4 rfl rfl ?_
  refine s_ifne (pc' := 8) (pcT := 27) W d_jdk_42_method_149_5 (by decide) rfl rfl (fun hz => ?_) (fun hz => ?_)
  · obtain ⟨vc, Sc, hvc⟩ := CS0
    refine s_gets (pc' := 30) W (w90 hw) Via.refl Sc d_jdk_42_method_149_27 rfl ?_
    intro T W
    refine s_ifeq (pc' := 33) (pcT := 58) W d_jdk_42_method_149_30 (by decide) rfl rfl (fun hq => absurd hq hvc) (fun _ => ?_)
    refine s_aload_n (pc' := 34) W d_jdk_42_method_149_33 rfl rfl rfl ?_
    refine s_iload_n (pc' := 35) W d_jdk_42_method_149_34 rfl rfl ?_
    refine s_iload_n (pc' := 36) W d_jdk_42_method_149_35 rfl rfl ?_
    refine s_static (pc' := 39) W (w272 hw) (w273 hw) (w274 hw) (w275 hw) (by decide) pd1 [(.ref d), (.int (0 : Int32)), (.int (Int32.ofNat n))] rfl (c_compress3 l hw W.old hn hbig hL A) all0 rfl d_jdk_42_method_149_36 0 (le rfl) (bl rfl) (bl rfl) (by (try dsimp only) <;> omega) (by (try dsimp only) <;> omega) rfl ?_
    rintro _ T vm h W C5 ⟨b, kb, rfl, K5, V_b, hb⟩
    replace E := E.keep K5
    replace Fc := Fc.keep K5 nin0
    replace Fv := Fv.keep K5 nin0
    replace M := M.mv C5
    replace A := A.keep K5 nin0
    have Kt := K5
    have nab : @Ne Nat a b := by omega
    refine s_astore (pc' := 41) W #[rv a, rv d, iv (0 : Int32), iv (Int32.ofNat n), .val .null, rv b] d_jdk_42_method_149_39 rfl rfl rfl ?_
    refine s_aload_n (pc' := 42) W d_jdk_42_method_149_41 rfl rfl rfl ?_
    refine s_aload (pc' := 44) W d_jdk_42_method_149_42 rfl rfl rfl ?_
    refine s_iload_n (pc' := 45) W d_jdk_42_method_149_44 rfl rfl ?_
    refine s_static (pc' := 48) W (w279 hw) (w280 hw) (w274 hw) (w281 hw) (by decide) pd2 [(.ref b), (.int (Int32.ofNat n))] rfl (c_coderfrom l hw W.old V_b) all0 rfl d_jdk_42_method_149_45 1 (le rfl) (bl rfl) (bl rfl) (by (try dsimp only) <;> omega) (by (try dsimp only) <;> omega) rfl ?_
    rintro _ T vm _ W C6 ⟨rfl, rfl⟩
    replace M := M.mv C6
    refine s_putfn (pc' := 51) W (w44 hw) Via.refl Fc E M (Or.inr ⟨(w40 hw), rfl, rfl⟩) (w24 hw) (ty := .byte) (v' := .int 0) (by decide) rfl rfl d_jdk_42_method_149_48 rfl ?_
    intro T h W K7 C7 Wr7 Fn7
    replace Fv := Fv.other Wr7 (Or.inr (slot_ne (Or.inr (w39 hw)) (Or.inr (w40 hw)) (by decide) (by decide : parseFieldDescriptor "[B" = some (.array .byte)) (by decide : parseFieldDescriptor "B" = some .byte)))
    replace E := E.keep K7
    replace M := M.mv C7
    replace V_b := V_b.keep K7 (ninS (Ne.symm nab) nin0)
    have Fc := Fn7
    clear Fn7
    replace Kt := ((Keep.refl _ [a]).trans Kt all0).trans K7 (fun x hx => Or.inl hx)
    refine s_aload_n (pc' := 52) W d_jdk_42_method_149_51 rfl rfl rfl ?_
    refine s_aload (pc' := 54) W d_jdk_42_method_149_52 rfl rfl rfl ?_
    refine s_putf (pc' := 57) W (w43 hw) Via.refl Fv E M (Or.inr ⟨(w39 hw), rfl, rfl⟩) (w24 hw) (ty := (.array .byte)) (by decide) rfl rfl d_jdk_42_method_149_54 rfl ?_
    intro T h W K8 C8 Wr8 Fn8
    replace Fc := Fc.other Wr8 (Or.inr (slot_ne (Or.inr (w40 hw)) (Or.inr (w39 hw)) (by decide) (by decide : parseFieldDescriptor "B" = some .byte) (by decide : parseFieldDescriptor "[B" = some (.array .byte))))
    replace E := E.keep K8
    replace M := M.mv C8
    replace V_b := V_b.keep K8 (ninS (Ne.symm nab) nin0)
    have Fv := Fn8
    clear Fn8
    replace Kt := Kt.trans K8 (fun x hx => Or.inl hx)
    refine s_ret W rfl d_jdk_42_method_149_57 (by (try dsimp only) <;> omega) (by (try dsimp only) <;> omega) ?_
    intro vm' C'
    exact ⟨rfl, Kt, b, kb, E, Fc, Fv, by rw [hn]; exact V_b, hL, by omega⟩
  · obtain rfl : n = 0 := n_inj (by omega) (by omega) hz
    obtain rfl : cs = [] := List.eq_nil_of_length_eq_zero hn
    refine s_aload_n (pc' := 9) W d_jdk_42_method_149_8 rfl rfl rfl ?_
    refine s_ldcS (pc' := 11) W 0 (w37 hw) (wS hw) (by decide +kernel) (vs := []) (z := 0) (by decide +kernel) (by decide) (by decide) d_jdk_42_method_149_9 (by decide +kernel) (by decide) (by (try dsimp only) <;> omega) (by (try dsimp only) <;> omega) rfl ?_
    intro e1 b_e1 k_e1 T vm h W K1 C1 E_e1 Fc_e1 Fv_e1 V_e1 N_e1
    replace E := E.keep K1
    replace Fc := Fc.keep K1 nin0
    replace Fv := Fv.keep K1 nin0
    replace M := M.mv C1
    have q1 := N_e1 _ M.2.2
    have Kt := K1
    refine s_getf (pc' := 14) W (w43 hw) Via.refl Fv_e1 d_jdk_42_method_149_11 rfl ?_
    intro T W
    refine s_putf (pc' := 17) W (w43 hw) Via.refl Fv E M (Or.inr ⟨(w39 hw), rfl, rfl⟩) (w24 hw) (ty := (.array .byte)) (by decide) rfl rfl d_jdk_42_method_149_14 rfl ?_
    intro T h W K2 C2 Wr2 Fn2
    replace Fc := Fc.other Wr2 (Or.inr (slot_ne (Or.inr (w40 hw)) (Or.inr (w39 hw)) (by decide) (by decide : parseFieldDescriptor "B" = some .byte) (by decide : parseFieldDescriptor "[B" = some (.array .byte))))
    replace E := E.keep K2
    replace M := M.mv C2
    replace V_e1 := V_e1.keep K2 (ninS (Ne.symm q1.2) nin0)
    have Fv := Fn2
    clear Fn2
    replace Kt := ((Keep.refl _ [a]).trans Kt all0).trans K2 (fun x hx => Or.inl hx)
    refine s_aload_n (pc' := 18) W d_jdk_42_method_149_17 rfl rfl rfl ?_
    refine s_ldcS (pc' := 20) W 0 (w37 hw) (wS hw) (by decide +kernel) (vs := []) (z := 0) (by decide +kernel) (by decide) (by decide) d_jdk_42_method_149_18 (by decide +kernel) (by decide) (by (try dsimp only) <;> omega) (by (try dsimp only) <;> omega) rfl ?_
    intro e2 b_e2 k_e2 T vm h W K3 C3 E_e2 Fc_e2 Fv_e2 V_e2 N_e2
    replace E := E.keep K3
    replace M := M.mv C3
    replace V_e1 := V_e1.keep K3 nin0
    replace Fc := Fc.keep K3 nin0
    replace Fv := Fv.keep K3 nin0
    have q2 := N_e2 _ M.2.2
    replace Kt := Kt.trans K3 all0
    refine s_getf (pc' := 23) W (w44 hw) Via.refl Fc_e2 d_jdk_42_method_149_20 rfl ?_
    intro T W
    refine s_putfn (pc' := 26) W (w44 hw) Via.refl Fc E M (Or.inr ⟨(w40 hw), rfl, rfl⟩) (w24 hw) (ty := .byte) (v' := .int 0) (by decide) rfl rfl d_jdk_42_method_149_23 rfl ?_
    intro T h W K4 C4 Wr4 Fn4
    replace Fv := Fv.other Wr4 (Or.inr (slot_ne (Or.inr (w39 hw)) (Or.inr (w40 hw)) (by decide) (by decide : parseFieldDescriptor "[B" = some (.array .byte)) (by decide : parseFieldDescriptor "B" = some .byte)))
    replace E := E.keep K4
    replace M := M.mv C4
    replace V_e1 := V_e1.keep K4 (ninS (Ne.symm q1.2) nin0)
    have Fc := Fn4
    clear Fn4
    replace Kt := Kt.trans K4 (fun x hx => Or.inl hx)
    refine s_ret W rfl d_jdk_42_method_149_26 (by (try dsimp only) <;> omega) (by (try dsimp only) <;> omega) ?_
    intro vm' C'
    exact ⟨rfl, Kt, b_e1, k_e1, E, Fc, Fv, V_e1, fun c hc => by simp at hc, by decide⟩
set_option maxRecDepth 65536 in
set_option maxHeartbeats 40000000 in
theorem ef_strinit (m : MethodId) (x0 : Addr) (x1 : Addr) : entryFrame m #[(.ref x0), (.ref x1)] 2 = mkF m 0 #[.val (.ref x0), .val (.ref x1)] [] := by first | (simp [entryFrame, mkF, argsToLocals, Value.category]; done) | rfl
set_option maxRecDepth 65536 in
set_option maxHeartbeats 40000000 in
theorem c_strinit (l : Launch) {Z : State} {a0 : Array Value} (hw : Hw Z a0) {n0 : Nat} {h : Heap} (O : Old Z n0 h) {a : Nat} {cs : List Int32} {n : Nat} (CS0 : CS Z) (hn : cs.length = n) (hbig : n ≤ 4096) (hL : ∀ c ∈ cs, L1 c) (E : Exa Z h a "java/lang/String") (M0 : n0 ≤ a) (Ma : a < h.size) (Fc : Fld Z h a "java/lang/String" "coder" "B" (.int 0)) (Fv : Fld Z h a "java/lang/String" "value" "[B" .null) {d : Nat} {kd : ClassId} (A : Arv Z h d kd .char (Int32.ofNat n) (cs.map cv) (.int 0)) :
    Con l Z EL1 n0 (⟨"java/lang/String", "<init>", "([C)V"⟩ : MethodName) jdk_42_method_3_code 2 none [] ({ frames := 3, cells := 4, slots := n + 8, locals := 52 } : Room) #[(.ref a), (.ref d)] h [a] (fun v vm' h' => v = none ∧ Keep h h' [a] ∧ ∃ b kb, LatB Z h' a b kb cs) := by
  refine Con.of pn4 O (el hw) ?_
  intro pg_ e s m below meth cd_ T W hs_ hSf
  rw [ef_strinit]
  have Sa := hSf a (by simp)
  refine s_aload_n (pc' := 1) W d_jdk_42_method_3_0 rfl rfl rfl ?_
  refine s_aload_n (pc' := 2) W d_jdk_42_method_3_1 rfl rfl rfl ?_
  refine s_iconst (pc' := 3) W (0 : Int32) d_jdk_42_method_3_2 rfl rfl ?_
  refine s_aload_n (pc' := 4) W d_jdk_42_method_3_3 rfl rfl rfl ?_
  refine s_alen (pc' := 5) W A d_jdk_42_method_3_4 rfl ?_
  refine s_aconst_null (pc' := 6) W d_jdk_42_method_3_5 rfl ?_
  refine s_init (pc' := 9) W rfl (w30 hw) (w31 hw) (w25 hw) (w33 hw) (by decide) pd3 [(.ref d), (.int (0 : Int32)), (.int (Int32.ofNat n)), .null] rfl (c_strinit4 l hw W.old CS0 hn hbig hL E M0 Ma Fc Fv A) (allS ⟨Ma, Sa⟩ all0) rfl d_jdk_42_method_3_6 0 (le rfl) (bl rfl) (bl rfl) (by (try dsimp only) <;> omega) (by (try dsimp only) <;> omega) rfl ?_
  rintro _ T vm h W C1 ⟨rfl, K1, L⟩
  refine s_ret W rfl d_jdk_42_method_3_9 (by (try dsimp only) <;> omega) (by (try dsimp only) <;> omega) ?_
  intro vm' C'
  exact ⟨rfl, K1, L⟩
set_option maxRecDepth 65536 in
set_option maxHeartbeats 40000000 in
theorem ef_strcoder (m : MethodId) (x0 : Addr) : entryFrame m #[(.ref x0)] 1 = mkF m 0 #[.val (.ref x0)] [] := by first | (simp [entryFrame, mkF, argsToLocals, Value.category]; done) | rfl
set_option maxRecDepth 65536 in
set_option maxHeartbeats 40000000 in
theorem c_strcoder (l : Launch) {Z : State} {a0 : Array Value} (hw : Hw Z a0) {n0 : Nat} {h : Heap} (O : Old Z n0 h) (CS0 : CS Z) {a b : Nat} {kb : ClassId} {cs : List Int32} (F : LatB Z h a b kb cs) :
    Con l Z EL1 n0 (⟨"java/lang/String", "coder", "()B"⟩ : MethodName) jdk_42_method_152_code 1 (some .byte) [] ({ frames := 0, cells := 0, slots := 0, locals := 0 } : Room) #[(.ref a)] h [] (fun v vm' h' => v = some (.int 0) ∧ h = h') := by
  refine Con.of pn5 O (el hw) ?_
  intro pg_ e s m below meth cd_ T W hs_ hSf
  rw [ef_strcoder]
  obtain ⟨vc, Sc, hvc⟩ := CS0
  refine s_gets (pc' := 3) W (w90 hw) Via.refl Sc d_jdk_42_method_152_0 rfl ?_
  intro T W
  refine s_ifeq (pc' := 6) (pcT := 13) W d_jdk_42_method_152_3 (by decide) rfl rfl (fun hq => absurd hq hvc) (fun _ => ?_)
  refine s_aload_n (pc' := 7) W d_jdk_42_method_152_6 rfl rfl rfl ?_
  refine s_getf (pc' := 10) W (w44 hw) Via.refl F.2.1 d_jdk_42_method_152_7 rfl ?_
  intro T W
  refine s_goto (pc' := 14) W d_jdk_42_method_152_10 (by decide) rfl ?_
  refine s_nreturn W (t := .byte) rfl (by simp) d_jdk_42_method_152_14 (bl rfl) (bl rfl) ?_
  intro vm' C'
  exact ⟨rfl, rfl⟩
set_option maxRecDepth 65536 in
set_option maxHeartbeats 40000000 in
theorem ef_strlength (m : MethodId) (x0 : Addr) : entryFrame m #[(.ref x0)] 1 = mkF m 0 #[.val (.ref x0)] [] := by first | (simp [entryFrame, mkF, argsToLocals, Value.category]; done) | rfl
set_option maxRecDepth 65536 in
set_option maxHeartbeats 40000000 in
theorem c_strlength (l : Launch) {Z : State} {a0 : Array Value} (hw : Hw Z a0) {n0 : Nat} {h : Heap} (O : Old Z n0 h) (CS0 : CS Z) {a b : Nat} {kb : ClassId} {cs : List Int32} (F : LatB Z h a b kb cs) :
    Con l Z EL1 n0 (⟨"java/lang/String", "length", "()I"⟩ : MethodName) jdk_42_method_54_code 1 (some .int) [] ({ frames := 1, cells := 0, slots := 0, locals := 13 } : Room) #[(.ref a)] h [] (fun v vm' h' => v = some (.int (Int32.ofNat cs.length)) ∧ h = h') := by
  refine Con.of pn6 O (el hw) ?_
  intro pg_ e s m below meth cd_ T W hs_ hSf
  rw [ef_strlength]
  refine s_aload_n (pc' := 1) W d_jdk_42_method_54_0 rfl rfl rfl ?_
  refine s_getf (pc' := 4) W (w43 hw) Via.refl F.2.2.1 d_jdk_42_method_54_1 rfl ?_
  intro T W
  refine s_alen (pc' := 5) W F.2.2.2.1 d_jdk_42_method_54_4 rfl ?_
  refine s_aload_n (pc' := 6) W d_jdk_42_method_54_5 rfl rfl rfl ?_
  refine s_virt (pc' := 9) W (C0 := "java/lang/String") (w85 hw) (w86 hw) (w88 hw) (w87 hw) (w25 hw) (w89 hw) (notFace_of_selects (args := a0) (w88 hw)) (by decide) pd4 [] rfl F.1 (c_strcoder l hw W.old CS0 F) all0 rfl d_jdk_42_method_54_6 1 (le rfl) (bl rfl) (bl rfl) (bl rfl) (bl rfl) rfl ?_
  rintro _ T vm _ W C1 ⟨rfl, rfl⟩
  refine s_ishr (pc' := 10) W d_jdk_42_method_54_9 rfl ?_
  refine s_ireturn W rfl d_jdk_42_method_54_10 (bl rfl) (bl rfl) ?_
  intro vm' C'
  exact ⟨by rw [shr0], rfl⟩
set_option maxRecDepth 65536 in
set_option maxHeartbeats 40000000 in
theorem ef_islatin1 (m : MethodId) (x0 : Addr) : entryFrame m #[(.ref x0)] 1 = mkF m 0 #[.val (.ref x0)] [] := by first | (simp [entryFrame, mkF, argsToLocals, Value.category]; done) | rfl
set_option maxRecDepth 65536 in
set_option maxHeartbeats 40000000 in
theorem c_islatin1 (l : Launch) {Z : State} {a0 : Array Value} (hw : Hw Z a0) {n0 : Nat} {h : Heap} (O : Old Z n0 h) (CS0 : CS Z) {a b : Nat} {kb : ClassId} {cs : List Int32} (F : LatB Z h a b kb cs) :
    Con l Z EL1 n0 (⟨"java/lang/String", "isLatin1", "()Z"⟩ : MethodName) jdk_42_method_154_code 1 (some .boolean) [] ({ frames := 0, cells := 0, slots := 0, locals := 0 } : Room) #[(.ref a)] h [] (fun v vm' h' => v = some (.int 1) ∧ h = h') := by
  refine Con.of pn7 O (el hw) ?_
  intro pg_ e s m below meth cd_ T W hs_ hSf
  rw [ef_islatin1]
  obtain ⟨vc, Sc, hvc⟩ := CS0
  refine s_gets (pc' := 3) W (w90 hw) Via.refl Sc d_jdk_42_method_154_0 rfl ?_
  intro T W
  refine s_ifeq (pc' := 6) (pcT := 17) W d_jdk_42_method_154_3 (by decide) rfl rfl (fun hq => absurd hq hvc) (fun _ => ?_)
  refine s_aload_n (pc' := 7) W d_jdk_42_method_154_6 rfl rfl rfl ?_
  refine s_getf (pc' := 10) W (w44 hw) Via.refl F.2.1 d_jdk_42_method_154_7 rfl ?_
  intro T W
  refine s_ifne (pc' := 13) (pcT := 17) W d_jdk_42_method_154_10 (by decide) rfl rfl (fun hq => absurd (by decide) hq) (fun _ => ?_)
  refine s_iconst (pc' := 14) W (1 : Int32) d_jdk_42_method_154_13 rfl rfl ?_
  refine s_goto (pc' := 18) W d_jdk_42_method_154_14 (by decide) rfl ?_
  refine s_nreturn W (t := .boolean) rfl (by simp) d_jdk_42_method_154_18 (bl rfl) (bl rfl) ?_
  intro vm' C'
  exact ⟨rfl, rfl⟩
set_option maxRecDepth 65536 in
set_option maxHeartbeats 40000000 in
theorem ef_pchkN (m : MethodId) (x0 : Int32) (x1 : Int32) : entryFrame m #[(.int x0), (.int x1), .null] 3 = mkF m 0 #[.val (.int x0), .val (.int x1), .val .null] [] := by first | (simp [entryFrame, mkF, argsToLocals, Value.category]; done) | rfl
set_option maxRecDepth 65536 in
set_option maxHeartbeats 40000000 in
theorem c_pchkN (l : Launch) {Z : State} {a0 : Array Value} (hw : Hw Z a0) {n0 : Nat} {h : Heap} (O : Old Z n0 h) {i z : Int32} (h0 : ¬ i < 0) (h1 : i < z) :
    Con l Z EL1 n0 (⟨"jdk/internal/util/Preconditions", "checkIndex", "(IILjava/util/function/BiFunction;)I"⟩ : MethodName) jdk_41_method_11_code 3 (some .int) [] ({ frames := 0, cells := 0, slots := 0, locals := 0 } : Room) #[(.int i), (.int z), .null] h [] (fun v vm' h' => v = some (.int i) ∧ h = h') := by
  refine Con.of pn8 O (el hw) ?_
  intro pg_ e s m below meth cd_ T W hs_ hSf
  rw [ef_pchkN]
  refine s_iload_n (pc' := 1) W d_jdk_41_method_11_0 rfl rfl ?_
  refine s_iflt (pc' := 4) (pcT := 9) W d_jdk_41_method_11_1 (by decide) rfl rfl (fun hq => absurd hq h0) (fun _ => ?_)
  refine s_iload_n (pc' := 5) W d_jdk_41_method_11_4 rfl rfl ?_
  refine s_iload_n (pc' := 6) W d_jdk_41_method_11_5 rfl rfl ?_
  refine s_icmplt (pc' := 9) (pcT := 16) W d_jdk_41_method_11_6 (by decide) rfl rfl (fun _ => ?_) (fun hq => absurd h1 hq)
  refine s_iload_n (pc' := 17) W d_jdk_41_method_11_16 rfl rfl ?_
  refine s_ireturn W rfl d_jdk_41_method_11_17 (bl rfl) (bl rfl) ?_
  intro vm' C'
  exact ⟨rfl, rfl⟩
set_option maxRecDepth 65536 in
set_option maxHeartbeats 40000000 in
theorem ef_pchkR (m : MethodId) (x0 : Int32) (x1 : Int32) (x2 : Addr) : entryFrame m #[(.int x0), (.int x1), (.ref x2)] 3 = mkF m 0 #[.val (.int x0), .val (.int x1), .val (.ref x2)] [] := by first | (simp [entryFrame, mkF, argsToLocals, Value.category]; done) | rfl
set_option maxRecDepth 65536 in
set_option maxHeartbeats 40000000 in
theorem c_pchkR (l : Launch) {Z : State} {a0 : Array Value} (hw : Hw Z a0) {n0 : Nat} {h : Heap} (O : Old Z n0 h) {i z : Int32} {f : Nat} (h0 : ¬ i < 0) (h1 : i < z) :
    Con l Z EL1 n0 (⟨"jdk/internal/util/Preconditions", "checkIndex", "(IILjava/util/function/BiFunction;)I"⟩ : MethodName) jdk_41_method_11_code 3 (some .int) [] ({ frames := 0, cells := 0, slots := 0, locals := 0 } : Room) #[(.int i), (.int z), (.ref f)] h [] (fun v vm' h' => v = some (.int i) ∧ h = h') := by
  refine Con.of pn8 O (el hw) ?_
  intro pg_ e s m below meth cd_ T W hs_ hSf
  rw [ef_pchkR]
  refine s_iload_n (pc' := 1) W d_jdk_41_method_11_0 rfl rfl ?_
  refine s_iflt (pc' := 4) (pcT := 9) W d_jdk_41_method_11_1 (by decide) rfl rfl (fun hq => absurd hq h0) (fun _ => ?_)
  refine s_iload_n (pc' := 5) W d_jdk_41_method_11_4 rfl rfl ?_
  refine s_iload_n (pc' := 6) W d_jdk_41_method_11_5 rfl rfl ?_
  refine s_icmplt (pc' := 9) (pcT := 16) W d_jdk_41_method_11_6 (by decide) rfl rfl (fun _ => ?_) (fun hq => absurd h1 hq)
  refine s_iload_n (pc' := 17) W d_jdk_41_method_11_16 rfl rfl ?_
  refine s_ireturn W rfl d_jdk_41_method_11_17 (bl rfl) (bl rfl) ?_
  intro vm' C'
  exact ⟨rfl, rfl⟩
set_option maxRecDepth 65536 in
set_option maxHeartbeats 40000000 in
theorem ef_schk (m : MethodId) (x0 : Int32) (x1 : Int32) : entryFrame m #[(.int x0), (.int x1)] 2 = mkF m 0 #[.val (.int x0), .val (.int x1)] [] := by first | (simp [entryFrame, mkF, argsToLocals, Value.category]; done) | rfl
set_option maxRecDepth 65536 in
set_option maxHeartbeats 40000000 in
theorem c_schk (l : Launch) {Z : State} {a0 : Array Value} (hw : Hw Z a0) {n0 : Nat} {h : Heap} (O : Old Z n0 h) (FM : Fmt Z) {i z : Int32} (h0 : ¬ i < 0) (h1 : i < z) :
    Con l Z EL1 n0 (⟨"java/lang/String", "checkIndex", "(II)V"⟩ : MethodName) jdk_42_method_155_code 2 none [] ({ frames := 1, cells := 0, slots := 0, locals := 14 } : Room) #[(.int i), (.int z)] h [] (fun v vm' h' => v = none ∧ h = h') := by
  refine Con.of pn9 O (el hw) ?_
  intro pg_ e s m below meth cd_ T W hs_ hSf
  rw [ef_schk]
  obtain ⟨vf, Sf, hvf⟩ := FM
  refine s_iload_n (pc' := 1) W d_jdk_42_method_155_0 rfl rfl ?_
  refine s_iload_n (pc' := 2) W d_jdk_42_method_155_1 rfl rfl ?_
  refine s_gets (pc' := 5) W (w266 hw) Via.refl Sf d_jdk_42_method_155_2 rfl ?_
  intro T W
  rcases ref_cases hvf with rfl | ⟨f, rfl⟩
  · refine s_static (pc' := 8) W (w268 hw) (w269 hw) (w267 hw) (w270 hw) (by decide) pd5 [(.int i), (.int z), .null] rfl (c_pchkN l hw W.old h0 h1) all0 rfl d_jdk_42_method_155_5 0 (le rfl) (bl rfl) (bl rfl) (bl rfl) (bl rfl) rfl ?_
    rintro _ T vm _ W C1 ⟨rfl, rfl⟩
    refine s_pop (pc' := 9) W d_jdk_42_method_155_8 rfl rfl ?_
    refine s_ret W rfl d_jdk_42_method_155_9 (bl rfl) (bl rfl) ?_
    intro vm' C'
    exact ⟨rfl, rfl⟩
  · refine s_static (pc' := 8) W (w268 hw) (w269 hw) (w267 hw) (w270 hw) (by decide) pd5 [(.int i), (.int z), (.ref f)] rfl (c_pchkR l hw W.old h0 h1) all0 rfl d_jdk_42_method_155_5 0 (le rfl) (bl rfl) (bl rfl) (bl rfl) (bl rfl) rfl ?_
    rintro _ T vm _ W C2 ⟨rfl, rfl⟩
    refine s_pop (pc' := 9) W d_jdk_42_method_155_8 rfl rfl ?_
    refine s_ret W rfl d_jdk_42_method_155_9 (bl rfl) (bl rfl) ?_
    intro vm' C'
    exact ⟨rfl, rfl⟩
set_option maxRecDepth 65536 in
set_option maxHeartbeats 40000000 in
theorem ef_l1charat (m : MethodId) (x0 : Addr) (x1 : Int32) : entryFrame m #[(.ref x0), (.int x1)] 2 = mkF m 0 #[.val (.ref x0), .val (.int x1)] [] := by first | (simp [entryFrame, mkF, argsToLocals, Value.category]; done) | rfl
set_option maxRecDepth 65536 in
set_option maxHeartbeats 40000000 in
theorem c_l1charat (l : Launch) {Z : State} {a0 : Array Value} (hw : Hw Z a0) {n0 : Nat} {h : Heap} (O : Old Z n0 h) (FM : Fmt Z) {b : Nat} {kb : ClassId} {cs : List Int32} {i : Nat} (A : Arv Z h b kb .byte (Int32.ofNat cs.length) (cs.map bv) (.int 0)) (hL : ∀ c ∈ cs, L1 c) (hn : cs.length < 2147483648) (hi : i < cs.length) :
    Con l Z EL1 n0 (⟨"java/lang/StringLatin1", "charAt", "([BI)C"⟩ : MethodName) jdk_43_method_2_code 2 (some .char) [] ({ frames := 2, cells := 0, slots := 0, locals := 27 } : Room) #[(.ref b), (.int (Int32.ofNat i))] h [] (fun v vm' h' => v = some (.int (cs.getD i 0)) ∧ h = h') := by
  refine Con.of pn10 O (el hw) ?_
  intro pg_ e s m below meth cd_ T W hs_ hSf
  rw [ef_l1charat]
  have hi31 : i < 2147483648 := by omega
  refine s_iload_n (pc' := 1) W d_jdk_43_method_2_0 rfl rfl ?_
  refine s_aload_n (pc' := 2) W d_jdk_43_method_2_1 rfl rfl rfl ?_
  refine s_alen (pc' := 3) W A d_jdk_43_method_2_2 rfl ?_
  refine s_static (pc' := 6) W (w263 hw) (w264 hw) (w25 hw) (w265 hw) (by decide) pd6 [(.int (Int32.ofNat i)), (.int (Int32.ofNat cs.length))] rfl (c_schk l hw W.old FM (n_nn hi31) (n_lt hi hn)) all0 rfl d_jdk_43_method_2_3 0 (le rfl) (bl rfl) (bl rfl) (bl rfl) (bl rfl) rfl ?_
  rintro _ T vm _ W C1 ⟨rfl, rfl⟩
  refine s_aload_n (pc' := 7) W d_jdk_43_method_2_6 rfl rfl rfl ?_
  refine s_iload_n (pc' := 8) W d_jdk_43_method_2_7 rfl rfl ?_
  refine s_baload (pc' := 9) W (.int (cs.getD i 0).toInt8.toInt32) A (n_nn hi31) (n_lt hi hn) (by rw [n_clamp hi31]; exact bv_getD cs i) d_jdk_43_method_2_8 rfl ?_
  refine s_sipush (pc' := 12) W (255 : Int32) d_jdk_43_method_2_9 rfl rfl ?_
  refine s_iand (pc' := 13) W d_jdk_43_method_2_12 rfl ?_
  refine s_i2c (pc' := 14) W d_jdk_43_method_2_13 rfl ?_
  refine s_nreturn W (t := .char) rfl (by simp) d_jdk_43_method_2_14 (bl rfl) (bl rfl) ?_
  intro vm' C'
  exact ⟨by have q := hL _ (mem_getD hi); rw [q.back, q.i2c, q.nar], rfl⟩
set_option maxRecDepth 65536 in
set_option maxHeartbeats 40000000 in
theorem ef_charatL (m : MethodId) (x0 : Addr) (x1 : Int32) : entryFrame m #[(.ref x0), (.int x1)] 2 = mkF m 0 #[.val (.ref x0), .val (.int x1)] [] := by first | (simp [entryFrame, mkF, argsToLocals, Value.category]; done) | rfl
set_option maxRecDepth 65536 in
set_option maxHeartbeats 40000000 in
theorem c_charatL (l : Launch) {Z : State} {a0 : Array Value} (hw : Hw Z a0) {n0 : Nat} {h : Heap} (O : Old Z n0 h) (CS0 : CS Z) (FM : Fmt Z) {a b : Nat} {kb : ClassId} {cs : List Int32} (F : LatB Z h a b kb cs) {i : Nat} (hi : i < cs.length) :
    Con l Z EL1 n0 (⟨"java/lang/String", "charAt", "(I)C"⟩ : MethodName) jdk_42_method_56_code 2 (some .char) [] ({ frames := 3, cells := 0, slots := 0, locals := 40 } : Room) #[(.ref a), (.int (Int32.ofNat i))] h [] (fun v vm' h' => v = some (.int (cs.getD i 0)) ∧ h = h') := by
  refine Con.of pn11 O (el hw) ?_
  intro pg_ e s m below meth cd_ T W hs_ hSf
  rw [ef_charatL]
  refine s_aload_n (pc' := 1) W d_jdk_42_method_56_0 rfl rfl rfl ?_
  refine s_virt (pc' := 4) W (C0 := "java/lang/String") (w254 hw) (w255 hw) (w257 hw) (w256 hw) (w25 hw) (w258 hw) (notFace_of_selects (args := a0) (w257 hw)) (by decide) pd7 [] rfl F.1 (c_islatin1 l hw W.old CS0 F) all0 rfl d_jdk_42_method_56_1 0 (le rfl) (bl rfl) (bl rfl) (bl rfl) (bl rfl) rfl ?_
  rintro _ T vm _ W C1 ⟨rfl, rfl⟩
  refine s_ifeq (pc' := 7) (pcT := 16) W d_jdk_42_method_56_4 (by decide) rfl rfl (fun hq => absurd hq (by decide)) (fun _ => ?_)
  refine s_aload_n (pc' := 8) W d_jdk_42_method_56_7 rfl rfl rfl ?_
  refine s_getf (pc' := 11) W (w43 hw) Via.refl F.2.2.1 d_jdk_42_method_56_8 rfl ?_
  intro T W
  refine s_iload_n (pc' := 12) W d_jdk_42_method_56_11 rfl rfl ?_
  refine s_static (pc' := 15) W (w259 hw) (w260 hw) (w261 hw) (w262 hw) (by decide) pd8 [(.ref b), (.int (Int32.ofNat i))] rfl (c_l1charat l hw W.old FM F.2.2.2.1 F.2.2.2.2.1 F.2.2.2.2.2 hi) all0 rfl d_jdk_42_method_56_12 0 (le rfl) (bl rfl) (bl rfl) (bl rfl) (bl rfl) rfl ?_
  rintro _ T vm _ W C2 ⟨rfl, rfl⟩
  refine s_nreturn W (t := .char) rfl (by simp) d_jdk_42_method_56_15 (bl rfl) (bl rfl) ?_
  intro vm' C'
  exact ⟨by rw [(F.2.2.2.2.1 _ (mem_getD hi)).nar], rfl⟩
set_option maxRecDepth 65536 in
set_option maxHeartbeats 40000000 in
theorem ef_mathmin (m : MethodId) (x0 : Int32) (x1 : Int32) : entryFrame m #[(.int x0), (.int x1)] 2 = mkF m 0 #[.val (.int x0), .val (.int x1)] [] := by first | (simp [entryFrame, mkF, argsToLocals, Value.category]; done) | rfl
set_option maxRecDepth 65536 in
set_option maxHeartbeats 40000000 in
theorem c_mathmin (l : Launch) {Z : State} {a0 : Array Value} (hw : Hw Z a0) {n0 : Nat} {h : Heap} (O : Old Z n0 h) {x y : Int32} :
    Con l Z EL1 n0 (⟨"java/lang/Math", "min", "(II)I"⟩ : MethodName) jdk_29_method_69_code 2 (some .int) [] ({ frames := 0, cells := 0, slots := 0, locals := 0 } : Room) #[(.int x), (.int y)] h [] (fun v vm' h' => v = some (.int (if y < x then y else x)) ∧ h = h') := by
  refine Con.of pn12 O (el hw) ?_
  intro pg_ e s m below meth cd_ T W hs_ hSf
  rw [ef_mathmin]
  refine s_iload_n (pc' := 1) W d_jdk_29_method_69_0 rfl rfl ?_
  refine s_iload_n (pc' := 2) W d_jdk_29_method_69_1 rfl rfl ?_
  refine s_icmpgt (pc' := 5) (pcT := 9) W d_jdk_29_method_69_2 (by decide) rfl rfl (fun hq => ?_) (fun hq => ?_)
  · refine s_iload_n (pc' := 10) W d_jdk_29_method_69_9 rfl rfl ?_
    refine s_ireturn W rfl d_jdk_29_method_69_10 (bl rfl) (bl rfl) ?_
    intro vm' C'
    exact ⟨by rw [if_pos hq], rfl⟩
  · refine s_iload_n (pc' := 6) W d_jdk_29_method_69_5 rfl rfl ?_
    refine s_goto (pc' := 10) W d_jdk_29_method_69_6 (by decide) rfl ?_
    refine s_ireturn W rfl d_jdk_29_method_69_10 (bl rfl) (bl rfl) ?_
    intro vm' C'
    exact ⟨by rw [if_neg hq], rfl⟩
set_option maxRecDepth 65536 in
set_option maxHeartbeats 40000000 in
theorem ef_asbinit (m : MethodId) (x0 : Addr) (x1 : Int32) : entryFrame m #[(.ref x0), (.int x1)] 2 = mkF m 0 #[.val (.ref x0), .val (.int x1)] [] := by first | (simp [entryFrame, mkF, argsToLocals, Value.category]; done) | rfl
set_option maxRecDepth 65536 in
set_option maxHeartbeats 40000000 in
theorem c_asbinit (l : Launch) {Z : State} {a0 : Array Value} (hw : Hw Z a0) {n0 : Nat} {h : Heap} (O : Old Z n0 h) {a : Nat} {cap : Nat} (CS0 : CS Z) (hcap : cap ≤ 4096) (E : Exa Z h a "java/lang/StringBuilder") (M0 : n0 ≤ a) (Ma : a < h.size) (Fc : Fld Z h a "java/lang/AbstractStringBuilder" "coder" "B" (.int 0)) (Fv : Fld Z h a "java/lang/AbstractStringBuilder" "value" "[B" .null) (Fn : Fld Z h a "java/lang/AbstractStringBuilder" "count" "I" (.int 0)) :
    Con l Z EL1 n0 (⟨"java/lang/AbstractStringBuilder", "<init>", "(I)V"⟩ : MethodName) jdk_68_method_2_code 2 none [] ({ frames := 1, cells := 1, slots := cap, locals := 12 } : Room) #[(.ref a), (.int (Int32.ofNat cap))] h [a] (fun v vm' h' => v = none ∧ Keep h h' [a] ∧ ∃ b kb, SBd Z h' a b kb cap [] ∧ h.size ≤ b ∧ Mine Z EL1 n0 vm' h' b) := by
  refine Con.of pn13 O (el hw) ?_
  intro pg_ e s m below meth cd_ T W hs_ hSf
  rw [ef_asbinit]
  have M : Mine Z EL1 n0 s.vm h a := ⟨M0, Ma, hSf a (by simp)⟩
  have Kt := Keep.refl h [a]
  refine s_aload_n (pc' := 1) W d_jdk_68_method_2_0 rfl rfl rfl ?_
  refine s_objinit (pc' := 4) W (w63 hw) (w35 hw) (w36 hw) rfl d_jdk_68_method_2_1 0 (le rfl) (bl rfl) (bl rfl) rfl ?_
  intro T W
  obtain ⟨vc, Sc, hvc⟩ := CS0
  refine s_gets (pc' := 7) W (w64 hw) Via.refl Sc d_jdk_68_method_2_4 rfl ?_
  intro T W
  refine s_ifeq (pc' := 10) (pcT := 25) W d_jdk_68_method_2_7 (by decide) rfl rfl (fun hq => absurd hq hvc) (fun _ => ?_)
  refine s_aload_n (pc' := 11) W d_jdk_68_method_2_10 rfl rfl rfl ?_
  refine s_iload_n (pc' := 12) W d_jdk_68_method_2_11 rfl rfl ?_
  refine s_newarr (pc' := 14) W (aty := .byte) cap "[B" (by decide) (w38 hw) d_jdk_68_method_2_12 (n_nn (by omega)) (by rw [n_clamp (by omega)]; exact Nat.le_refl _) (by omega) (by (try dsimp only) <;> omega) (by (try dsimp only) <;> omega) rfl ?_
  intro b T h k_b g_b
  have fs_b := Nat.le_trans Kt.1 (Nat.le_of_eq g_b.symm)
  have ne_a_b : @Ne Nat a b := by have := nlt E.lt; omega
  intro W K1 C1 M_b V_b X_b
  replace Kt := Kt.trans K1 all0
  replace E := E.keep K1
  replace Fc := Fc.keep K1 nin0
  replace Fv := Fv.keep K1 nin0
  replace Fn := Fn.keep K1 nin0
  replace M := M.mv C1
  have V_b : Arv Z h b k_b .byte (Int32.ofNat cap) (List.replicate cap (.int 0)) (.int 0) := by have q := V_b; rw [n_clamp (by omega)] at q; exact q
  refine s_putf (pc' := 17) W (w65 hw) Via.refl Fv E M (Or.inl (w66 hw)) (w52 hw) (ty := (.array .byte)) (by decide) rfl rfl d_jdk_68_method_2_14 rfl ?_
  intro T h W K2 C2 Wr2 Fn2
  replace Fc := Fc.other Wr2 (Or.inr (slot_ne (Or.inl (w68 hw)) (Or.inl (w66 hw)) (by decide) (by decide : parseFieldDescriptor "B" = some .byte) (by decide : parseFieldDescriptor "[B" = some (.array .byte))))
  replace Fn := Fn.other Wr2 (Or.inr (slot_ne (Or.inl (w92 hw)) (Or.inl (w66 hw)) (by decide) (by decide : parseFieldDescriptor "I" = some .int) (by decide : parseFieldDescriptor "[B" = some (.array .byte))))
  replace Kt := Kt.trans K2 (allS (P := fun x => _ ∨ _) (Or.inl (by simp)) all0)
  replace E := E.keep K2
  replace M := M.mv C2
  replace V_b := V_b.keep K2 (ninS (Ne.symm ne_a_b) nin0)
  replace M_b := M_b.mv C2
  replace X_b := X_b.keep K2
  have Fv := Fn2
  clear Fn2
  refine s_aload_n (pc' := 18) W d_jdk_68_method_2_17 rfl rfl rfl ?_
  refine s_iconst (pc' := 19) W (0 : Int32) d_jdk_68_method_2_18 rfl rfl ?_
  refine s_putfn (pc' := 22) W (w67 hw) Via.refl Fc E M (Or.inl (w68 hw)) (w52 hw) (ty := .byte) (v' := .int 0) (by decide) rfl rfl d_jdk_68_method_2_19 rfl ?_
  intro T h W K3 C3 Wr3 Fn3
  replace Fn := Fn.other Wr3 (Or.inr (slot_ne (Or.inl (w92 hw)) (Or.inl (w68 hw)) (by decide) (by decide : parseFieldDescriptor "I" = some .int) (by decide : parseFieldDescriptor "B" = some .byte)))
  replace Fv := Fv.other Wr3 (Or.inr (slot_ne (Or.inl (w66 hw)) (Or.inl (w68 hw)) (by decide) (by decide : parseFieldDescriptor "[B" = some (.array .byte)) (by decide : parseFieldDescriptor "B" = some .byte)))
  replace Kt := Kt.trans K3 (allS (P := fun x => _ ∨ _) (Or.inl (by simp)) all0)
  replace E := E.keep K3
  replace M := M.mv C3
  replace V_b := V_b.keep K3 (ninS (Ne.symm ne_a_b) nin0)
  replace M_b := M_b.mv C3
  replace X_b := X_b.keep K3
  have Fc := Fn3
  clear Fn3
  refine s_goto (pc' := 38) W d_jdk_68_method_2_22 (by decide) rfl ?_
  refine s_ret W rfl d_jdk_68_method_2_38 (by (try dsimp only) <;> omega) (by (try dsimp only) <;> omega) ?_
  intro vm' C'
  exact ⟨rfl, Kt, b, k_b, ⟨E, Fc, Fn, Fv, ⟨List.replicate cap (.int 0), by simp, V_b⟩, fun c hc => by simp at hc, hcap, X_b⟩, fs_b, M_b.mv C'⟩
set_option maxRecDepth 65536 in
set_option maxHeartbeats 40000000 in
theorem ef_mathmax (m : MethodId) (x0 : Int32) (x1 : Int32) : entryFrame m #[(.int x0), (.int x1)] 2 = mkF m 0 #[.val (.int x0), .val (.int x1)] [] := by first | (simp [entryFrame, mkF, argsToLocals, Value.category]; done) | rfl
set_option maxRecDepth 65536 in
set_option maxHeartbeats 40000000 in
theorem c_mathmax (l : Launch) {Z : State} {a0 : Array Value} (hw : Hw Z a0) {n0 : Nat} {h : Heap} (O : Old Z n0 h) {x y : Int32} :
    Con l Z EL1 n0 (⟨"java/lang/Math", "max", "(II)I"⟩ : MethodName) jdk_29_method_65_code 2 (some .int) [] ({ frames := 0, cells := 0, slots := 0, locals := 0 } : Room) #[(.int x), (.int y)] h [] (fun v vm' h' => v = some (.int (if x < y then y else x)) ∧ h = h') := by
  refine Con.of pn14 O (el hw) ?_
  intro pg_ e s m below meth cd_ T W hs_ hSf
  rw [ef_mathmax]
  refine s_iload_n (pc' := 1) W d_jdk_29_method_65_0 rfl rfl ?_
  refine s_iload_n (pc' := 2) W d_jdk_29_method_65_1 rfl rfl ?_
  refine s_icmplt (pc' := 5) (pcT := 9) W d_jdk_29_method_65_2 (by decide) rfl rfl (fun hq => ?_) (fun hq => ?_)
  · refine s_iload_n (pc' := 10) W d_jdk_29_method_65_9 rfl rfl ?_
    refine s_ireturn W rfl d_jdk_29_method_65_10 (bl rfl) (bl rfl) ?_
    intro vm' C'
    exact ⟨by rw [if_pos hq], rfl⟩
  · refine s_iload_n (pc' := 6) W d_jdk_29_method_65_5 rfl rfl ?_
    refine s_goto (pc' := 10) W d_jdk_29_method_65_6 (by decide) rfl ?_
    refine s_ireturn W rfl d_jdk_29_method_65_10 (bl rfl) (bl rfl) ?_
    intro vm' C'
    exact ⟨by rw [if_neg hq], rfl⟩
set_option maxRecDepth 65536 in
set_option maxHeartbeats 40000000 in
theorem ef_newlen (m : MethodId) (x0 : Int32) (x1 : Int32) (x2 : Int32) : entryFrame m #[(.int x0), (.int x1), (.int x2)] 4 = mkF m 0 #[.val (.int x0), .val (.int x1), .val (.int x2), .unset] [] := by first | (simp [entryFrame, mkF, argsToLocals, Value.category]; done) | rfl
set_option maxRecDepth 65536 in
set_option maxHeartbeats 40000000 in
theorem c_newlen (l : Launch) {Z : State} {a0 : Array Value} (hw : Hw Z a0) {n0 : Nat} {h : Heap} (O : Old Z n0 h) {k g q : Nat} (h0 : 0 < k + max g q) (hb : k + max g q ≤ 100000) :
    Con l Z EL1 n0 (⟨"jdk/internal/util/ArraysSupport", "newLength", "(III)I"⟩ : MethodName) jdk_48_method_27_code 4 (some .int) [] ({ frames := 1, cells := 0, slots := 0, locals := 14 } : Room) #[(.int (Int32.ofNat k)), (.int (Int32.ofNat g)), (.int (Int32.ofNat q))] h [] (fun v vm' h' => v = some (.int (Int32.ofNat (k + max g q))) ∧ h = h') := by
  refine Con.of pn15 O (el hw) ?_
  intro pg_ e s m below meth cd_ T W hs_ hSf
  rw [ef_newlen]
  refine s_iload_n (pc' := 1) W d_jdk_48_method_27_0 rfl rfl ?_
  refine s_iload_n (pc' := 2) W d_jdk_48_method_27_1 rfl rfl ?_
  refine s_iload_n (pc' := 3) W d_jdk_48_method_27_2 rfl rfl ?_
  refine s_static (pc' := 6) W (w306 hw) (w307 hw) (w182 hw) (w308 hw) (by decide) pd9 [(.int (Int32.ofNat g)), (.int (Int32.ofNat q))] rfl (c_mathmax l hw W.old) all0 rfl d_jdk_48_method_27_3 1 (le rfl) (bl rfl) (bl rfl) (bl rfl) (bl rfl) rfl ?_
  rintro _ T vm _ W C1 ⟨rfl, rfl⟩
  rw [n_max (by omega) (by omega)]
  refine s_iadd (pc' := 7) W d_jdk_48_method_27_6 rfl ?_
  rw [n_add]
  refine s_istore_n (pc' := 8) W #[iv (Int32.ofNat k), iv (Int32.ofNat g), iv (Int32.ofNat q), iv (Int32.ofNat (k + max g q))] d_jdk_48_method_27_7 rfl rfl ?_
  refine s_iconst (pc' := 9) W (0 : Int32) d_jdk_48_method_27_8 rfl rfl ?_
  refine s_iload_n (pc' := 10) W d_jdk_48_method_27_9 rfl rfl ?_
  refine s_icmpge (pc' := 13) (pcT := 21) W d_jdk_48_method_27_10 (by decide) rfl rfl (fun hq => absurd (n_lt (i := 0) h0 (by omega)) hq) (fun _ => ?_)
  refine s_iload_n (pc' := 14) W d_jdk_48_method_27_13 rfl rfl ?_
  refine s_ldcI (pc' := 16) W (w309 hw) d_jdk_48_method_27_14 rfl ?_
  refine s_icmpgt (pc' := 19) (pcT := 21) W d_jdk_48_method_27_16 (by decide) rfl rfl (fun hq => absurd hq (n_ge (i := 2147483639) (by omega) (by decide))) (fun _ => ?_)
  refine s_iload_n (pc' := 20) W d_jdk_48_method_27_19 rfl rfl ?_
  refine s_ireturn W rfl d_jdk_48_method_27_20 (bl rfl) (bl rfl) ?_
  intro vm' C'
  exact ⟨rfl, rfl⟩
set_option maxRecDepth 65536 in
set_option maxHeartbeats 40000000 in
theorem ef_newcap (m : MethodId) (x0 : Addr) (x1 : Int32) : entryFrame m #[(.ref x0), (.int x1)] 6 = mkF m 0 #[.val (.ref x0), .val (.int x1), .unset, .unset, .unset, .unset] [] := by first | (simp [entryFrame, mkF, argsToLocals, Value.category]; done) | rfl
set_option maxRecDepth 65536 in
set_option maxHeartbeats 40000000 in
theorem c_newcap (l : Launch) {Z : State} {a0 : Array Value} (hw : Hw Z a0) {n0 : Nat} {h : Heap} (O : Old Z n0 h) {a b : Nat} {kb : ClassId} {cap : Nat} {cs : List Int32} (F : SBd Z h a b kb cap cs) {mm : Nat} (hlt : cap < mm) (hmm : mm ≤ 4096) :
    Con l Z EL1 n0 (⟨"java/lang/AbstractStringBuilder", "newCapacity", "(I)I"⟩ : MethodName) jdk_68_method_10_code 6 (some .int) [] ({ frames := 2, cells := 0, slots := 0, locals := 29 } : Room) #[(.ref a), (.int (Int32.ofNat mm))] h [] (fun v vm' h' => v = some (.int (Int32.ofNat (cap + max (mm - cap) (cap + 2)))) ∧ h = h') := by
  refine Con.of pn16 O (el hw) ?_
  intro pg_ e s m below meth cd_ T W hs_ hSf
  rw [ef_newcap]
  obtain ⟨f1, f2, f3, f4, ⟨r, hr, A⟩, f6⟩ := F
  have hc4 := f6.2.1
  refine s_aload_n (pc' := 1) W d_jdk_68_method_10_0 rfl rfl rfl ?_
  refine s_getf (pc' := 4) W (w65 hw) Via.refl f4 d_jdk_68_method_10_1 rfl ?_
  intro T W
  refine s_alen (pc' := 5) W A d_jdk_68_method_10_4 rfl ?_
  refine s_istore_n (pc' := 6) W #[rv a, iv (Int32.ofNat mm), iv (Int32.ofNat cap), .unset, .unset, .unset] d_jdk_68_method_10_5 rfl rfl ?_
  refine s_iload_n (pc' := 7) W d_jdk_68_method_10_6 rfl rfl ?_
  refine s_aload_n (pc' := 8) W d_jdk_68_method_10_7 rfl rfl rfl ?_
  refine s_getf (pc' := 11) W (w67 hw) Via.refl f2 d_jdk_68_method_10_8 rfl ?_
  intro T W
  refine s_ishl (pc' := 12) W d_jdk_68_method_10_11 rfl ?_
  rw [shl0]
  refine s_istore_n (pc' := 13) W #[rv a, iv (Int32.ofNat mm), iv (Int32.ofNat cap), iv (Int32.ofNat mm), .unset, .unset] d_jdk_68_method_10_12 rfl rfl ?_
  refine s_iload_n (pc' := 14) W d_jdk_68_method_10_13 rfl rfl ?_
  refine s_iload_n (pc' := 15) W d_jdk_68_method_10_14 rfl rfl ?_
  refine s_isub (pc' := 16) W d_jdk_68_method_10_15 rfl ?_
  rw [n_sub (by omega)]
  refine s_istore (pc' := 18) W #[rv a, iv (Int32.ofNat mm), iv (Int32.ofNat cap), iv (Int32.ofNat mm), iv (Int32.ofNat (mm - cap)), .unset] d_jdk_68_method_10_16 rfl rfl ?_
  refine s_iload_n (pc' := 19) W d_jdk_68_method_10_18 rfl rfl ?_
  refine s_iload (pc' := 21) W d_jdk_68_method_10_19 rfl rfl ?_
  refine s_iload_n (pc' := 22) W d_jdk_68_method_10_21 rfl rfl ?_
  refine s_iconst (pc' := 23) W (2 : Int32) d_jdk_68_method_10_22 rfl rfl ?_
  refine s_aload_n (pc' := 24) W d_jdk_68_method_10_23 rfl rfl rfl ?_
  refine s_getf (pc' := 27) W (w67 hw) Via.refl f2 d_jdk_68_method_10_24 rfl ?_
  intro T W
  refine s_ishl (pc' := 28) W d_jdk_68_method_10_27 rfl ?_
  rw [shl0]
  refine s_iadd (pc' := 29) W d_jdk_68_method_10_28 rfl ?_
  rw [show Int32.ofNat cap + (2 : Int32) = Int32.ofNat (cap + 2) from n_add cap 2]
  refine s_static (pc' := 32) W (w302 hw) (w303 hw) (w304 hw) (w305 hw) (by decide) pd10 [(.int (Int32.ofNat cap)), (.int (Int32.ofNat (mm - cap))), (.int (Int32.ofNat (cap + 2)))] rfl (c_newlen l hw W.old (k := cap) (g := mm - cap) (q := cap + 2) (by omega) (by omega)) all0 rfl d_jdk_68_method_10_29 0 (le rfl) (bl rfl) (bl rfl) (bl rfl) (bl rfl) rfl ?_
  rintro _ T vm _ W C1 ⟨rfl, rfl⟩
  refine s_istore (pc' := 34) W #[rv a, iv (Int32.ofNat mm), iv (Int32.ofNat cap), iv (Int32.ofNat mm), iv (Int32.ofNat (mm - cap)), iv (Int32.ofNat (cap + max (mm - cap) (cap + 2)))] d_jdk_68_method_10_32 rfl rfl ?_
  refine s_iload (pc' := 36) W d_jdk_68_method_10_34 rfl rfl ?_
  refine s_ldcI (pc' := 38) W (w310 hw) d_jdk_68_method_10_36 rfl ?_
  refine s_icmpne (pc' := 41) (pcT := 51) W d_jdk_68_method_10_38 (by decide) rfl rfl (fun _ => ?_) (fun hq => absurd hq (fun q => by have := n_inj (j := 2147483647) (by omega) (by decide) q; omega))
  refine s_iload (pc' := 53) W d_jdk_68_method_10_51 rfl rfl ?_
  refine s_aload_n (pc' := 54) W d_jdk_68_method_10_53 rfl rfl rfl ?_
  refine s_getf (pc' := 57) W (w67 hw) Via.refl f2 d_jdk_68_method_10_54 rfl ?_
  intro T W
  refine s_ishr (pc' := 58) W d_jdk_68_method_10_57 rfl ?_
  refine s_ireturn W rfl d_jdk_68_method_10_58 (bl rfl) (bl rfl) ?_
  intro vm' C'
  exact ⟨by rw [shr0], rfl⟩
set_option maxRecDepth 65536 in
set_option maxHeartbeats 40000000 in
theorem ef_copyofB (m : MethodId) (x0 : Addr) (x1 : Int32) : entryFrame m #[(.ref x0), (.int x1)] 3 = mkF m 0 #[.val (.ref x0), .val (.int x1), .unset] [] := by first | (simp [entryFrame, mkF, argsToLocals, Value.category]; done) | rfl
set_option maxRecDepth 65536 in
set_option maxHeartbeats 40000000 in
theorem c_copyofB (l : Launch) {Z : State} {a0 : Array Value} (hw : Hw Z a0) {n0 : Nat} {h : Heap} (O : Old Z n0 h) {b : Nat} {kb : ClassId} {cap n : Nat} {vs : List Value} (hvs : vs.length = cap) (hlt : cap < n) (hn : n ≤ 100000) (A : Arv Z h b kb .byte (Int32.ofNat cap) vs (.int 0)) :
    Con l Z EL1 n0 (⟨"java/util/Arrays", "copyOf", "([BI)[B"⟩ : MethodName) jdk_65_method_121_code 3 (some (.array .byte)) [] ({ frames := 1, cells := 1, slots := n, locals := 18 } : Room) #[(.ref b), (.int (Int32.ofNat n))] h [] (fun v vm' h' => ∃ c kc, v = some (.ref c) ∧ Keep h h' [] ∧ Arv Z h' c kc .byte (Int32.ofNat n) (vs ++ List.replicate (n - cap) (.int 0)) (.int 0) ∧ Exa Z h' c "[B" ∧ h.size ≤ c ∧ Mine Z EL1 n0 vm' h' c) := by
  refine Con.of pn17 O (el hw) ?_
  intro pg_ e s m below meth cd_ T W hs_ hSf
  rw [ef_copyofB]
  have Kt := Keep.refl h []
  refine s_iload_n (pc' := 1) W d_jdk_65_method_121_0 rfl rfl ?_
  refine s_aload_n (pc' := 2) W d_jdk_65_method_121_1 rfl rfl rfl ?_
  refine s_alen (pc' := 3) W A d_jdk_65_method_121_2 rfl ?_
  refine s_icmpne (pc' := 6) (pcT := 14) W d_jdk_65_method_121_3 (by decide) rfl rfl (fun _ => ?_) (fun hq => absurd hq (fun q => by have := n_inj (by omega) (by omega) q; omega))
  refine s_iload_n (pc' := 15) W d_jdk_65_method_121_14 rfl rfl ?_
  refine s_newarr (pc' := 17) W (aty := .byte) n "[B" (by decide) (w38 hw) d_jdk_65_method_121_15 (n_nn (by omega)) (by rw [n_clamp (by omega)]; exact Nat.le_refl _) (by omega) (by (try dsimp only) <;> omega) (by (try dsimp only) <;> omega) rfl ?_
  intro c T h k_c g_c
  have fs_c := Nat.le_trans Kt.1 (Nat.le_of_eq g_c.symm)
  have ne_b_c : @Ne Nat b c := by have := nlt A.lt; omega
  intro W K1 C1 M_c V_c X_c
  replace Kt := Kt.trans K1 all0
  replace A := A.keep K1 nin0
  have V_c : Arv Z h c k_c .byte (Int32.ofNat n) (List.replicate n (.int 0)) (.int 0) := by have q := V_c; rw [n_clamp (by omega)] at q; exact q
  refine s_astore_n (pc' := 18) W #[rv b, iv (Int32.ofNat n), rv c] d_jdk_65_method_121_17 rfl rfl rfl ?_
  refine s_aload_n (pc' := 19) W d_jdk_65_method_121_18 rfl rfl rfl ?_
  refine s_iconst (pc' := 20) W (0 : Int32) d_jdk_65_method_121_19 rfl rfl ?_
  refine s_aload_n (pc' := 21) W d_jdk_65_method_121_20 rfl rfl rfl ?_
  refine s_iconst (pc' := 22) W (0 : Int32) d_jdk_65_method_121_21 rfl rfl ?_
  refine s_aload_n (pc' := 23) W d_jdk_65_method_121_22 rfl rfl rfl ?_
  refine s_alen (pc' := 24) W A d_jdk_65_method_121_23 rfl ?_
  refine s_iload_n (pc' := 25) W d_jdk_65_method_121_24 rfl rfl ?_
  refine s_static (pc' := 28) W (w180 hw) (w181 hw) (w182 hw) (w183 hw) (by decide) pd9 [(.int (Int32.ofNat cap)), (.int (Int32.ofNat n))] rfl (c_mathmin l hw W.old) all0 rfl d_jdk_65_method_121_25 4 (le rfl) (bl rfl) (bl rfl) (by (try dsimp only) <;> omega) (by (try dsimp only) <;> omega) rfl ?_
  rintro _ T vm _ W C2 ⟨rfl, rfl⟩
  replace M_c := M_c.mv C2
  rw [if_neg (n_ge (Nat.le_of_lt hlt) (by omega))]
  have hc0 : (0 : Int32).toNatClampNeg = 0 := rfl
  refine s_copy (pc' := 31) W (w184 hw) (w117 hw) (w115 hw) (w116 hw) A V_c rfl (by decide) (by decide) (n_nn (by omega)) (by rw [hc0, n_clamp (by omega)]; omega) (by rw [hc0, n_clamp (by omega), n_clamp (by omega)]; omega) (by rw [hc0, n_clamp (by omega), List.length_replicate]; omega) M_c rfl d_jdk_65_method_121_28 0 (le rfl) (bl rfl) (by rw [nfw]; exact bl rfl) rfl ?_
  intro T h W K3 C3 Vn3
  replace Kt := Kt.trans K3 (allS (P := fun x => _ ∨ _) (Or.inr fs_c) all0)
  replace A := A.keep K3 (ninS ne_b_c nin0)
  replace M_c := M_c.mv C3
  replace X_c := X_c.keep K3
  have V_c := Vn3
  clear Vn3
  rw [hc0, n_clamp (by omega), range_vs vs cap hvs] at V_c
  refine s_aload_n (pc' := 32) W d_jdk_65_method_121_31 rfl rfl rfl ?_
  refine s_areturn W rfl rfl rfl d_jdk_65_method_121_32 (by (try dsimp only) <;> omega) (by (try dsimp only) <;> omega) ?_
  intro vm' C'
  exact ⟨c, k_c, rfl, Kt, by simpa using V_c, X_c, fs_c, M_c.mv C'⟩
set_option maxRecDepth 65536 in
set_option maxHeartbeats 40000000 in
theorem ef_ensureG (m : MethodId) (x0 : Addr) (x1 : Int32) : entryFrame m #[(.ref x0), (.int x1)] 3 = mkF m 0 #[.val (.ref x0), .val (.int x1), .unset] [] := by first | (simp [entryFrame, mkF, argsToLocals, Value.category]; done) | rfl
set_option maxRecDepth 65536 in
set_option maxHeartbeats 40000000 in
theorem c_ensureG (l : Launch) {Z : State} {a0 : Array Value} (hw : Hw Z a0) {n0 : Nat} {h : Heap} (O : Old Z n0 h) {a b : Nat} {kb : ClassId} {cap : Nat} {cs : List Int32} (F : SBd Z h a b kb cap cs) {mm : Nat} (hcap : gcap cap mm ≤ 4096) (nab : a ≠ b) (M0 : n0 ≤ a) (M1 : n0 ≤ b) :
    Con l Z EL1 n0 (⟨"java/lang/AbstractStringBuilder", "ensureCapacityInternal", "(I)V"⟩ : MethodName) jdk_68_method_9_code 3 none [] ({ frames := 3, cells := 1, slots := gcap cap mm, locals := 48 } : Room) #[(.ref a), (.int (Int32.ofNat mm))] h [a, b] (fun v vm' h' => v = none ∧ Keep h h' [a] ∧ ∃ b' kb', SBd Z h' a b' kb' (gcap cap (mm)) (cs) ∧ (b' = b ∨ h.size ≤ b') ∧ Mine Z EL1 n0 vm' h' b' ∧ a ≠ b') := by
  refine Con.of pn18 O (el hw) ?_
  intro pg_ e s m below meth cd_ T W hs_ hSf
  rw [ef_ensureG]
  have F0 := F
  obtain ⟨f1, f2, f3, f4, ⟨r, hr, A⟩, f6⟩ := F
  have hc4 := f6.2.1
  have M : Mine Z EL1 n0 s.vm h a := ⟨M0, f1.lt, hSf a (by simp)⟩
  have MB : Mine Z EL1 n0 s.vm h b := ⟨M1, A.lt, hSf b (by simp)⟩
  refine s_aload_n (pc' := 1) W d_jdk_68_method_9_0 rfl rfl rfl ?_
  refine s_getf (pc' := 4) W (w65 hw) Via.refl f4 d_jdk_68_method_9_1 rfl ?_
  intro T W
  refine s_alen (pc' := 5) W A d_jdk_68_method_9_4 rfl ?_
  refine s_aload_n (pc' := 6) W d_jdk_68_method_9_5 rfl rfl rfl ?_
  refine s_getf (pc' := 9) W (w67 hw) Via.refl f2 d_jdk_68_method_9_6 rfl ?_
  intro T W
  refine s_ishr (pc' := 10) W d_jdk_68_method_9_9 rfl ?_
  rw [shr0]
  refine s_istore_n (pc' := 11) W #[rv a, iv (Int32.ofNat mm), iv (Int32.ofNat cap)] d_jdk_68_method_9_10 rfl rfl ?_
  refine s_iload_n (pc' := 12) W d_jdk_68_method_9_11 rfl rfl ?_
  refine s_iload_n (pc' := 13) W d_jdk_68_method_9_12 rfl rfl ?_
  refine s_isub (pc' := 14) W d_jdk_68_method_9_13 rfl ?_
  rcases Nat.lt_or_ge cap mm with hlt | hge
  · have hg := gcap_gt hlt
    have Kt := Keep.refl h [a]
    have la := nlt f1.lt
    refine s_ifle (pc' := 17) (pcT := 38) W d_jdk_68_method_9_14 (by decide) rfl rfl (fun hq => absurd (sub_gt0 hlt (by omega)) hq) (fun _ => ?_)
    refine s_aload_n (pc' := 18) W d_jdk_68_method_9_17 rfl rfl rfl ?_
    refine s_aload_n (pc' := 19) W d_jdk_68_method_9_18 rfl rfl rfl ?_
    refine s_getf (pc' := 22) W (w65 hw) Via.refl f4 d_jdk_68_method_9_19 rfl ?_
    intro T W
    refine s_aload_n (pc' := 23) W d_jdk_68_method_9_22 rfl rfl rfl ?_
    refine s_iload_n (pc' := 24) W d_jdk_68_method_9_23 rfl rfl ?_
    refine s_virt (pc' := 27) W (C0 := "java/lang/StringBuilder") (w297 hw) (decl_of (w298 hw) (w301 hw)) (w300 hw) (w298 hw) (w61 hw) (w301 hw) (notFace_of_selects (args := a0) (w300 hw)) (by decide) pd11 [(.int (Int32.ofNat mm))] rfl f1 (c_newcap l hw W.old F0 hlt (by omega)) all0 rfl d_jdk_68_method_9_24 2 (le rfl) (bl rfl) (bl rfl) (by (try dsimp only) <;> omega) (by (try dsimp only) <;> omega) rfl ?_
    rintro _ T vm _ W C1 ⟨rfl, rfl⟩
    replace M := M.mv C1
    refine s_aload_n (pc' := 28) W d_jdk_68_method_9_27 rfl rfl rfl ?_
    refine s_getf (pc' := 31) W (w67 hw) Via.refl f2 d_jdk_68_method_9_28 rfl ?_
    intro T W
    refine s_ishl (pc' := 32) W d_jdk_68_method_9_31 rfl ?_
    rw [shl0]
    refine s_static (pc' := 35) W (w311 hw) (w312 hw) (w172 hw) (w313 hw) (by decide) pd12 [(.ref b), (.int (Int32.ofNat (cap + max (mm - cap) (cap + 2))))] rfl (c_copyofB l hw W.old (cap := cap) (n := cap + max (mm - cap) (cap + 2)) (by simp; omega) (by omega) (by omega) A) all0 rfl d_jdk_68_method_9_32 1 (le rfl) (bl rfl) (bl rfl) (by (try dsimp only) <;> omega) (by (try dsimp only) <;> omega) rfl ?_
    rintro _ T vm h W C2 ⟨c, kc, rfl, K2, V_c, X_c, fs_c, M_c⟩
    replace Kt := Kt.trans K2 all0
    replace M := M.mv C2
    replace f1 := f1.keep K2
    replace f2 := f2.keep K2 nin0
    replace f3 := f3.keep K2 nin0
    replace f4 := f4.keep K2 nin0
    have nac : @Ne Nat a c := by omega
    refine s_putf (pc' := 38) W (w65 hw) Via.refl f4 f1 M (Or.inl (w66 hw)) (w52 hw) (ty := (.array .byte)) (by decide) rfl rfl d_jdk_68_method_9_35 rfl ?_
    intro T h W K3 C3 Wr3 Fn3
    replace f2 := f2.other Wr3 (Or.inr (slot_ne (Or.inl (w68 hw)) (Or.inl (w66 hw)) (by decide) (by decide : parseFieldDescriptor "B" = some .byte) (by decide : parseFieldDescriptor "[B" = some (.array .byte))))
    replace f3 := f3.other Wr3 (Or.inr (slot_ne (Or.inl (w92 hw)) (Or.inl (w66 hw)) (by decide) (by decide : parseFieldDescriptor "I" = some .int) (by decide : parseFieldDescriptor "[B" = some (.array .byte))))
    replace Kt := Kt.trans K3 (allS (P := fun x => _ ∨ _) (Or.inl (by simp)) all0)
    replace M := M.mv C3
    replace f1 := f1.keep K3
    replace V_c := V_c.keep K3 (ninS (Ne.symm nac) nin0)
    replace X_c := X_c.keep K3
    replace M_c := M_c.mv C3
    have f4 := Fn3
    clear Fn3
    refine s_ret W rfl d_jdk_68_method_9_38 (by (try dsimp only) <;> omega) (by (try dsimp only) <;> omega) ?_
    intro vm' C'
    exact ⟨rfl, Kt, c, kc, ⟨f1, f2, f3, f4, ⟨r ++ List.replicate (cap + max (mm - cap) (cap + 2) - cap) (.int 0), by rw [hg]; simp; omega, by rw [hg, ← List.append_assoc]; exact V_c⟩, f6.1, hcap, X_c⟩, Or.inr fs_c, M_c.mv C', nac⟩
  · refine s_ifle (pc' := 17) (pcT := 38) W d_jdk_68_method_9_14 (by decide) rfl rfl (fun _ => ?_) (fun hq => absurd hq (sub_le0' hge hc4))
    refine s_ret W rfl d_jdk_68_method_9_38 (by (try dsimp only) <;> omega) (by (try dsimp only) <;> omega) ?_
    intro vm' C'
    exact ⟨rfl, Keep.refl _ _, b, kb, by rw [gcap_le hge]; exact F0, Or.inl rfl, MB.mv C', nab⟩
set_option maxRecDepth 65536 in
set_option maxHeartbeats 40000000 in
theorem ef_inflate (m : MethodId) (x0 : Addr) (x1 : Addr) : entryFrame m #[(.ref x0), (.ref x1)] 2 = mkF m 0 #[.val (.ref x0), .val (.ref x1)] [] := by first | (simp [entryFrame, mkF, argsToLocals, Value.category]; done) | rfl
set_option maxRecDepth 65536 in
set_option maxHeartbeats 40000000 in
theorem c_inflate (l : Launch) {Z : State} {a0 : Array Value} (hw : Hw Z a0) {n0 : Nat} {h : Heap} (O : Old Z n0 h) (CS0 : CS Z) {a b : Nat} {kb : ClassId} {cap : Nat} {cs : List Int32} (F : SBd Z h a b kb cap cs) {sa sb : Nat} {ks : ClassId} {ds : List Int32} (G : LatB Z h sa sb ks ds) :
    Con l Z EL1 n0 (⟨"java/lang/AbstractStringBuilder", "inflateIfNeededFor", "(Ljava/lang/String;)V"⟩ : MethodName) jdk_68_method_71_code 2 none [] ({ frames := 1, cells := 0, slots := 0, locals := 13 } : Room) #[(.ref a), (.ref sa)] h [] (fun v vm' h' => v = none ∧ h = h') := by
  refine Con.of pn19 O (el hw) ?_
  intro pg_ e s m below meth cd_ T W hs_ hSf
  rw [ef_inflate]
  obtain ⟨vc, Sc, hvc⟩ := CS0
  refine s_gets (pc' := 3) W (w64 hw) Via.refl Sc d_jdk_68_method_71_0 rfl ?_
  intro T W
  refine s_ifeq (pc' := 6) (pcT := 21) W d_jdk_68_method_71_3 (by decide) rfl rfl (fun hq => absurd hq hvc) (fun _ => ?_)
  refine s_aload_n (pc' := 7) W d_jdk_68_method_71_6 rfl rfl rfl ?_
  refine s_getf (pc' := 10) W (w67 hw) Via.refl F.2.1 d_jdk_68_method_71_7 rfl ?_
  intro T W
  refine s_aload_n (pc' := 11) W d_jdk_68_method_71_10 rfl rfl rfl ?_
  refine s_virt (pc' := 14) W (C0 := "java/lang/String") (w108 hw) (w86 hw) (w88 hw) (w87 hw) (w25 hw) (w89 hw) (notFace_of_selects (args := a0) (w88 hw)) (by decide) pd4 [] rfl G.1 (c_strcoder l hw W.old ⟨vc, Sc, hvc⟩ G) all0 rfl d_jdk_68_method_71_11 1 (le rfl) (bl rfl) (bl rfl) (bl rfl) (bl rfl) rfl ?_
  rintro _ T vm _ W C1 ⟨rfl, rfl⟩
  refine s_icmpeq (pc' := 17) (pcT := 21) W d_jdk_68_method_71_14 (by decide) rfl rfl (fun _ => ?_) (fun hq => absurd (by decide) hq)
  refine s_ret W rfl d_jdk_68_method_71_21 (bl rfl) (bl rfl) ?_
  intro vm' C'
  exact ⟨rfl, rfl⟩
set_option maxRecDepth 65536 in
set_option maxHeartbeats 40000000 in
theorem ef_getbytes (m : MethodId) (x0 : Addr) (x1 : Addr) (x2 : Int32) (x3 : Int32) : entryFrame m #[(.ref x0), (.ref x1), (.int x2), (.int x3)] 4 = mkF m 0 #[.val (.ref x0), .val (.ref x1), .val (.int x2), .val (.int x3)] [] := by first | (simp [entryFrame, mkF, argsToLocals, Value.category]; done) | rfl
set_option maxRecDepth 65536 in
set_option maxHeartbeats 40000000 in
theorem c_getbytes (l : Launch) {Z : State} {a0 : Array Value} (hw : Hw Z a0) {n0 : Nat} {h : Heap} (O : Old Z n0 h) (CS0 : CS Z) {b sa sb : Nat} {kb ks : ClassId} {cap mm : Nat} {vs : List Value} {ds : List Int32} (hcap : cap ≤ 4096) (G : LatB Z h sa sb ks ds) (D : Arv Z h b kb .byte (Int32.ofNat cap) vs (.int 0)) (hvs : vs.length = cap) (hm : mm + ds.length ≤ cap) (M0 : n0 ≤ b) (Mb : b < h.size) :
    Con l Z EL1 n0 (⟨"java/lang/String", "getBytes", "([BIB)V"⟩ : MethodName) jdk_42_method_147_code 4 none [] ({ frames := 1, cells := 0, slots := 0, locals := 18 } : Room) #[(.ref sa), (.ref b), (.int (Int32.ofNat mm)), (.int (0 : Int32))] h [b] (fun v vm' h' => v = none ∧ Keep h h' [b] ∧ Arv Z h' b kb .byte (Int32.ofNat cap) (vs.take mm ++ ds.map bv ++ vs.drop (mm + ds.length)) (.int 0)) := by
  refine Con.of pn20 O (el hw) ?_
  intro pg_ e s m below meth cd_ T W hs_ hSf
  rw [ef_getbytes]
  have M : Mine Z EL1 n0 s.vm h b := ⟨M0, Mb, hSf b (by simp)⟩
  have Kt := Keep.refl h [b]
  refine s_aload_n (pc' := 1) W d_jdk_42_method_147_0 rfl rfl rfl ?_
  refine s_virt (pc' := 4) W (C0 := "java/lang/String") (w85 hw) (w86 hw) (w88 hw) (w87 hw) (w25 hw) (w89 hw) (notFace_of_selects (args := a0) (w88 hw)) (by decide) pd4 [] rfl G.1 (c_strcoder l hw W.old CS0 G) all0 rfl d_jdk_42_method_147_1 0 (le rfl) (bl rfl) (bl rfl) (bl rfl) (bl rfl) rfl ?_
  rintro _ T vm _ W C1 ⟨rfl, rfl⟩
  replace M := M.mv C1
  refine s_iload_n (pc' := 5) W d_jdk_42_method_147_4 rfl rfl ?_
  refine s_icmpne (pc' := 8) (pcT := 28) W d_jdk_42_method_147_5 (by decide) rfl rfl (fun hq => absurd (by decide) hq) (fun _ => ?_)
  refine s_aload_n (pc' := 9) W d_jdk_42_method_147_8 rfl rfl rfl ?_
  refine s_getf (pc' := 12) W (w43 hw) Via.refl G.2.2.1 d_jdk_42_method_147_9 rfl ?_
  intro T W
  refine s_iconst (pc' := 13) W (0 : Int32) d_jdk_42_method_147_12 rfl rfl ?_
  refine s_aload_n (pc' := 14) W d_jdk_42_method_147_13 rfl rfl rfl ?_
  refine s_iload_n (pc' := 15) W d_jdk_42_method_147_14 rfl rfl ?_
  refine s_iload_n (pc' := 16) W d_jdk_42_method_147_15 rfl rfl ?_
  refine s_ishl (pc' := 17) W d_jdk_42_method_147_16 rfl ?_
  rw [shl0]
  refine s_aload_n (pc' := 18) W d_jdk_42_method_147_17 rfl rfl rfl ?_
  refine s_getf (pc' := 21) W (w43 hw) Via.refl G.2.2.1 d_jdk_42_method_147_18 rfl ?_
  intro T W
  refine s_alen (pc' := 22) W G.2.2.2.1 d_jdk_42_method_147_21 rfl ?_
  have hd31 : ds.length < 2147483648 := G.2.2.2.2.2
  have hc0 : (0 : Int32).toNatClampNeg = 0 := rfl
  refine s_copy (pc' := 25) W (w114 hw) (w117 hw) (w115 hw) (w116 hw) G.2.2.2.1 D rfl (by decide) (n_nn (by omega)) (n_nn hd31) (by rw [hc0, n_clamp hd31]; omega) (by rw [n_clamp (by omega), n_clamp hd31, n_clamp (by omega)]; omega) (by rw [n_clamp (by omega), n_clamp hd31]; omega) M rfl d_jdk_42_method_147_22 0 (le rfl) (bl rfl) (by rw [nfw]; exact bl rfl) rfl ?_
  intro T h W K2 C2 Vn2
  replace Kt := Kt.trans K2 (allS (P := fun x => _ ∨ _) (Or.inl (by simp)) all0)
  replace M := M.mv C2
  have D := Vn2
  clear Vn2
  rw [n_clamp (by omega), n_clamp hd31, hc0, range_getD ds _ rfl] at D
  refine s_goto (pc' := 43) W d_jdk_42_method_147_25 (by decide) rfl ?_
  refine s_ret W rfl d_jdk_42_method_147_43 (bl rfl) (bl rfl) ?_
  intro vm' C'
  exact ⟨rfl, Kt, D⟩
set_option maxRecDepth 65536 in
set_option maxHeartbeats 40000000 in
theorem ef_putstring (m : MethodId) (x0 : Addr) (x1 : Int32) (x2 : Addr) : entryFrame m #[(.ref x0), (.int x1), (.ref x2)] 3 = mkF m 0 #[.val (.ref x0), .val (.int x1), .val (.ref x2)] [] := by first | (simp [entryFrame, mkF, argsToLocals, Value.category]; done) | rfl
set_option maxRecDepth 65536 in
set_option maxHeartbeats 40000000 in
theorem c_putstring (l : Launch) {Z : State} {a0 : Array Value} (hw : Hw Z a0) {n0 : Nat} {h : Heap} (O : Old Z n0 h) (CS0 : CS Z) {a b : Nat} {kb : ClassId} {cap : Nat} {cs : List Int32} (F : SBd Z h a b kb cap cs) {sa sb : Nat} {ks : ClassId} {ds : List Int32} {mm : Nat} (G : LatB Z h sa sb ks ds) (hm : mm + ds.length ≤ cap) (M0 : n0 ≤ b) :
    Con l Z EL1 n0 (⟨"java/lang/AbstractStringBuilder", "putStringAt", "(ILjava/lang/String;)V"⟩ : MethodName) jdk_68_method_73_code 3 none [] ({ frames := 2, cells := 0, slots := 0, locals := 33 } : Room) #[(.ref a), (.int (Int32.ofNat mm)), (.ref sa)] h [b] (fun v vm' h' => v = none ∧ Keep h h' [b] ∧ ∃ rest : List Value, cs.length + rest.length = cap ∧ Arv Z h' b kb .byte (Int32.ofNat cap) ((cs.map bv ++ rest).take mm ++ ds.map bv ++ (cs.map bv ++ rest).drop (mm + ds.length)) (.int 0)) := by
  refine Con.of pn21 O (el hw) ?_
  intro pg_ e s m below meth cd_ T W hs_ hSf
  rw [ef_putstring]
  have Sb := hSf b (by simp)
  have Mb := nlt F.ltb
  refine s_aload_n (pc' := 1) W d_jdk_68_method_73_0 rfl rfl rfl ?_
  refine s_aload_n (pc' := 2) W d_jdk_68_method_73_1 rfl rfl rfl ?_
  refine s_virt (pc' := 5) W (C0 := "java/lang/StringBuilder") (w103 hw) (decl_of (w104 hw) (w107 hw)) (w106 hw) (w104 hw) (w61 hw) (w107 hw) (notFace_of_selects (args := a0) (w106 hw)) (by decide) pd13 [(.ref sa)] rfl F.1 (c_inflate l hw W.old CS0 F G) all0 rfl d_jdk_68_method_73_2 0 (le rfl) (bl rfl) (bl rfl) (bl rfl) (bl rfl) rfl ?_
  rintro _ T vm _ W C1 ⟨rfl, rfl⟩
  obtain ⟨f1, f2, f3, f4, ⟨r, hr, A⟩, f6⟩ := F
  refine s_aload_n (pc' := 6) W d_jdk_68_method_73_5 rfl rfl rfl ?_
  refine s_aload_n (pc' := 7) W d_jdk_68_method_73_6 rfl rfl rfl ?_
  refine s_getf (pc' := 10) W (w65 hw) Via.refl f4 d_jdk_68_method_73_7 rfl ?_
  intro T W
  refine s_iload_n (pc' := 11) W d_jdk_68_method_73_10 rfl rfl ?_
  refine s_aload_n (pc' := 12) W d_jdk_68_method_73_11 rfl rfl rfl ?_
  refine s_getf (pc' := 15) W (w67 hw) Via.refl f2 d_jdk_68_method_73_12 rfl ?_
  intro T W
  have Sb2 := C1.safe Mb Sb
  refine s_virt (pc' := 18) W (C0 := "java/lang/String") (w109 hw) (w110 hw) (w112 hw) (w111 hw) (w25 hw) (w113 hw) (notFace_of_selects (args := a0) (w112 hw)) (by decide) pd14 [(.ref b), (.int (Int32.ofNat mm)), (.int (0 : Int32))] rfl G.1 (c_getbytes l hw W.old CS0 f6.2.1 G A (by simp; omega) hm M0 Mb) (allS ⟨Mb, Sb2⟩ all0) rfl d_jdk_68_method_73_15 0 (le rfl) (bl rfl) (bl rfl) (bl rfl) (bl rfl) rfl ?_
  rintro _ T vm h W C2 ⟨rfl, K2, D⟩
  have K0 := K2
  refine s_ret W rfl d_jdk_68_method_73_18 (bl rfl) (bl rfl) ?_
  intro vm' C'
  exact ⟨rfl, K0, r, hr, D⟩
set_option maxRecDepth 65536 in
set_option maxHeartbeats 40000000 in
theorem ef_asbappendG (m : MethodId) (x0 : Addr) (x1 : Addr) : entryFrame m #[(.ref x0), (.ref x1)] 3 = mkF m 0 #[.val (.ref x0), .val (.ref x1), .unset] [] := by first | (simp [entryFrame, mkF, argsToLocals, Value.category]; done) | rfl
set_option maxRecDepth 65536 in
set_option maxHeartbeats 40000000 in
theorem c_asbappendG (l : Launch) {Z : State} {a0 : Array Value} (hw : Hw Z a0) {n0 : Nat} {h : Heap} (O : Old Z n0 h) (CS0 : CS Z) {a b : Nat} {kb : ClassId} {cap : Nat} {cs : List Int32} (F : SBd Z h a b kb cap cs) {sa sb : Nat} {ks : ClassId} {ds : List Int32} (G : LatB Z h sa sb ks ds) (hm : gcap cap (cs.length + ds.length) ≤ 4096) (nsa : sa ≠ a) (nsb : sb ≠ a) (nab : a ≠ b) (M0 : n0 ≤ a) (M1 : n0 ≤ b) :
    Con l Z EL1 n0 (⟨"java/lang/AbstractStringBuilder", "append", "(Ljava/lang/String;)Ljava/lang/AbstractStringBuilder;"⟩ : MethodName) jdk_68_method_22_code 3 (some (.object "java/lang/AbstractStringBuilder")) [] ({ frames := 4, cells := 1, slots := gcap cap (cs.length + ds.length), locals := 62 } : Room) #[(.ref a), (.ref sa)] h [a, b] (fun v vm' h' => v = some (.ref a) ∧ Keep h h' [a, b] ∧ ∃ b' kb', SBd Z h' a b' kb' (gcap cap (cs.length + ds.length)) (cs ++ ds) ∧ (b' = b ∨ h.size ≤ b') ∧ Mine Z EL1 n0 vm' h' b' ∧ a ≠ b') := by
  refine Con.of pn22 O (el hw) ?_
  intro pg_ e s m below meth cd_ T W hs_ hSf
  rw [ef_asbappendG]
  have M : Mine Z EL1 n0 s.vm h a := ⟨M0, F.lt, hSf a (by simp)⟩
  have MB : Mine Z EL1 n0 s.vm h b := ⟨M1, F.ltb, hSf b (by simp)⟩
  have Kt := Keep.refl h [a, b]
  have lbF := nlt F.ltb
  have laF := nlt F.lt
  refine s_aload_n (pc' := 1) W d_jdk_68_method_22_0 rfl rfl rfl ?_
  refine s_ifnonnullY (pcT := 9) W d_jdk_68_method_22_1 (by decide) rfl ?_
  refine s_aload_n (pc' := 10) W d_jdk_68_method_22_9 rfl rfl rfl ?_
  refine s_virt (pc' := 13) W (C0 := "java/lang/String") (w80 hw) (w81 hw) (w83 hw) (w82 hw) (w25 hw) (w84 hw) (notFace_of_selects (args := a0) (w83 hw)) (by decide) pd15 [] rfl G.1 (c_strlength l hw W.old CS0 G) all0 rfl d_jdk_68_method_22_10 0 (le rfl) (bl rfl) (bl rfl) (by (try dsimp only) <;> omega) (by (try dsimp only) <;> omega) rfl ?_
  rintro _ T vm _ W C1 ⟨rfl, rfl⟩
  replace M := M.mv C1
  replace MB := MB.mv C1
  refine s_istore_n (pc' := 14) W #[rv a, rv sa, iv (Int32.ofNat ds.length)] d_jdk_68_method_22_13 rfl rfl ?_
  refine s_aload_n (pc' := 15) W d_jdk_68_method_22_14 rfl rfl rfl ?_
  refine s_aload_n (pc' := 16) W d_jdk_68_method_22_15 rfl rfl rfl ?_
  refine s_getf (pc' := 19) W (w91 hw) Via.refl F.2.2.1 d_jdk_68_method_22_16 rfl ?_
  intro T W
  refine s_iload_n (pc' := 20) W d_jdk_68_method_22_19 rfl rfl ?_
  refine s_iadd (pc' := 21) W d_jdk_68_method_22_20 rfl ?_
  rw [n_add]
  refine s_virt (pc' := 24) W (C0 := "java/lang/StringBuilder") (w93 hw) (decl_of (w94 hw) (w97 hw)) (w96 hw) (w94 hw) (w61 hw) (w97 hw) (notFace_of_selects (args := a0) (w96 hw)) (by decide) pd16 [(.int (Int32.ofNat (cs.length + ds.length)))] rfl F.1 (c_ensureG l hw W.old F hm nab M0 M1) (allS ⟨F.lt, M.2.2⟩ (allS ⟨F.ltb, MB.2.2⟩ all0)) rfl d_jdk_68_method_22_21 0 (le rfl) (bl rfl) (bl rfl) (by (try dsimp only) <;> omega) (by (try dsimp only) <;> omega) rfl ?_
  rintro _ T vm h W C2 ⟨rfl, K2, b', kb', F, hb', MB', nab'⟩
  replace Kt := Kt.trans K2 (allS (P := fun x => _ ∨ _) (Or.inl (by simp)) all0)
  replace G := G.keep K2 (ninS nsa nin0) (ninS nsb nin0)
  replace M := M.mv C2
  replace MB := MB.mv C2
  have hge := gcap_ge cap (cs.length + ds.length)
  refine s_aload_n (pc' := 25) W d_jdk_68_method_22_24 rfl rfl rfl ?_
  refine s_aload_n (pc' := 26) W d_jdk_68_method_22_25 rfl rfl rfl ?_
  refine s_getf (pc' := 29) W (w91 hw) Via.refl F.2.2.1 d_jdk_68_method_22_26 rfl ?_
  intro T W
  have F0 := F
  obtain ⟨f1, f2, f3, f4, -, f6⟩ := F
  have XB := f6.2.2
  refine s_aload_n (pc' := 30) W d_jdk_68_method_22_29 rfl rfl rfl ?_
  refine s_virt (pc' := 33) W (C0 := "java/lang/StringBuilder") (w98 hw) (decl_of (w99 hw) (w102 hw)) (w101 hw) (w99 hw) (w61 hw) (w102 hw) (notFace_of_selects (args := a0) (w101 hw)) (by decide) pd17 [(.int (Int32.ofNat cs.length)), (.ref sa)] rfl F0.1 (c_putstring l hw W.old CS0 F0 G (by omega) MB'.1) (allS ⟨MB'.2.1, MB'.2.2⟩ all0) rfl d_jdk_68_method_22_30 0 (le rfl) (bl rfl) (bl rfl) (by (try dsimp only) <;> omega) (by (try dsimp only) <;> omega) rfl ?_
  rintro _ T vm h W C3 ⟨rfl, K3, r, hr, D⟩
  replace Kt := Kt.trans K3 (allS (P := fun x => _ ∨ _) (hb'.elim (fun q => Or.inl (by simp [q])) (fun q => Or.inr q)) all0)
  replace M := M.mv C3
  replace MB := MB.mv C3
  replace MB' := MB'.mv C3
  replace XB := XB.keep K3
  replace f1 := f1.keep K3
  replace f2 := f2.keep K3 (ninS nab' nin0)
  replace f3 := f3.keep K3 (ninS nab' nin0)
  replace f4 := f4.keep K3 (ninS nab' nin0)
  replace D : Arv Z h b' kb' .byte (Int32.ofNat (gcap cap (cs.length + ds.length))) ((cs ++ ds).map bv ++ (r.drop ds.length)) (.int 0) := by rw [put_eq] at D; exact D
  refine s_aload_n (pc' := 34) W d_jdk_68_method_22_33 rfl rfl rfl ?_
  refine s_dup (pc' := 35) W d_jdk_68_method_22_34 rfl rfl ?_
  refine s_getf (pc' := 38) W (w91 hw) Via.refl f3 d_jdk_68_method_22_35 rfl ?_
  intro T W
  refine s_iload_n (pc' := 39) W d_jdk_68_method_22_38 rfl rfl ?_
  refine s_iadd (pc' := 40) W d_jdk_68_method_22_39 rfl ?_
  rw [n_add]
  refine s_putf (pc' := 43) W (w91 hw) Via.refl f3 f1 M (Or.inl (w92 hw)) (w52 hw) (ty := .int) (by decide) rfl rfl d_jdk_68_method_22_40 rfl ?_
  intro T h W K4 C4 Wr4 Fn4
  replace f2 := f2.other Wr4 (Or.inr (slot_ne (Or.inl (w68 hw)) (Or.inl (w92 hw)) (by decide) (by decide : parseFieldDescriptor "B" = some .byte) (by decide : parseFieldDescriptor "I" = some .int)))
  replace f4 := f4.other Wr4 (Or.inr (slot_ne (Or.inl (w66 hw)) (Or.inl (w92 hw)) (by decide) (by decide : parseFieldDescriptor "[B" = some (.array .byte)) (by decide : parseFieldDescriptor "I" = some .int)))
  replace Kt := Kt.trans K4 (allS (P := fun x => _ ∨ _) (Or.inl (by simp)) all0)
  replace M := M.mv C4
  replace MB := MB.mv C4
  replace MB' := MB'.mv C4
  replace XB := XB.keep K4
  replace f1 := f1.keep K4
  replace D := D.keep K4 (ninS (Ne.symm nab') nin0)
  have f3 := Fn4
  clear Fn4
  refine s_aload_n (pc' := 44) W d_jdk_68_method_22_43 rfl rfl rfl ?_
  refine s_areturn W rfl rfl rfl d_jdk_68_method_22_44 (by (try dsimp only) <;> omega) (by (try dsimp only) <;> omega) ?_
  intro vm' C'
  exact ⟨rfl, Kt, b', kb', ⟨f1, f2, by rw [List.length_append]; exact f3, f4, ⟨_, by simp; omega, D⟩, fun c hc => (List.mem_append.mp hc).elim (f6.1 c) (G.2.2.2.2.1 c), f6.2.1, XB⟩, hb', MB'.mv C', nab'⟩
set_option maxRecDepth 65536 in
set_option maxHeartbeats 40000000 in
theorem ef_sbappendG (m : MethodId) (x0 : Addr) (x1 : Addr) : entryFrame m #[(.ref x0), (.ref x1)] 2 = mkF m 0 #[.val (.ref x0), .val (.ref x1)] [] := by first | (simp [entryFrame, mkF, argsToLocals, Value.category]; done) | rfl
set_option maxRecDepth 65536 in
set_option maxHeartbeats 40000000 in
theorem c_sbappendG (l : Launch) {Z : State} {a0 : Array Value} (hw : Hw Z a0) {n0 : Nat} {h : Heap} (O : Old Z n0 h) (CS0 : CS Z) {a b : Nat} {kb : ClassId} {cap : Nat} {cs : List Int32} (F : SBd Z h a b kb cap cs) {sa sb : Nat} {ks : ClassId} {ds : List Int32} (G : LatB Z h sa sb ks ds) (hm : gcap cap (cs.length + ds.length) ≤ 4096) (nsa : sa ≠ a) (nsb : sb ≠ a) (nab : a ≠ b) (M0 : n0 ≤ a) (M1 : n0 ≤ b) :
    Con l Z EL1 n0 (⟨"java/lang/StringBuilder", "append", "(Ljava/lang/String;)Ljava/lang/StringBuilder;"⟩ : MethodName) jdk_67_method_7_code 2 (some (.object "java/lang/StringBuilder")) [] ({ frames := 5, cells := 1, slots := gcap cap (cs.length + ds.length), locals := 76 } : Room) #[(.ref a), (.ref sa)] h [a, b] (fun v vm' h' => v = some (.ref a) ∧ Keep h h' [a, b] ∧ ∃ b' kb', SBd Z h' a b' kb' (gcap cap (cs.length + ds.length)) (cs ++ ds) ∧ (b' = b ∨ h.size ≤ b') ∧ Mine Z EL1 n0 vm' h' b' ∧ a ≠ b') := by
  refine Con.of pn23 O (el hw) ?_
  intro pg_ e s m below meth cd_ T W hs_ hSf
  rw [ef_sbappendG]
  have S1 := hSf a (by simp)
  have S2 := hSf b (by simp)
  refine s_aload_n (pc' := 1) W d_jdk_67_method_7_0 rfl rfl rfl ?_
  refine s_aload_n (pc' := 2) W d_jdk_67_method_7_1 rfl rfl rfl ?_
  refine s_super (pc' := 5) W (K := "java/lang/AbstractStringBuilder") (w75 hw) (same_of (y := (⟨"java/lang/AbstractStringBuilder", "append", "(Ljava/lang/String;)Ljava/lang/AbstractStringBuilder;"⟩ : MethodName)) (by decide) (w76 hw) (nf_of (y := (⟨"java/lang/AbstractStringBuilder", "append", "(Ljava/lang/String;)Ljava/lang/AbstractStringBuilder;"⟩ : MethodName)) (y' := (⟨"java/lang/AbstractStringBuilder", "ensureCapacityInternal", "(I)V"⟩ : MethodName)) rfl (w96 hw))) (w76 hw) (w77 hw) (w61 hw) (w79 hw) (by decide) pd18 [(.ref sa)] rfl (Ins.of_exa F.1 (w60 hw)) (c_asbappendG l hw W.old CS0 F G hm nsa nsb nab M0 M1) (allS ⟨F.lt, S1⟩ (allS ⟨F.ltb, S2⟩ all0)) rfl d_jdk_67_method_7_2 0 (le rfl) (bl rfl) (bl rfl) (by (try dsimp only) <;> omega) (by (try dsimp only) <;> omega) rfl ?_
  rintro _ T vm h W C1 ⟨rfl, K1, b', kb', H, hb', MB', nab'⟩
  refine s_pop (pc' := 6) W d_jdk_67_method_7_5 rfl rfl ?_
  refine s_aload_n (pc' := 7) W d_jdk_67_method_7_6 rfl rfl rfl ?_
  refine s_areturn W rfl rfl rfl d_jdk_67_method_7_7 (by (try dsimp only) <;> omega) (by (try dsimp only) <;> omega) ?_
  intro vm' C'
  exact ⟨rfl, K1, b', kb', H, hb', MB'.mv C', nab'⟩
set_option maxRecDepth 65536 in
set_option maxHeartbeats 40000000 in
theorem ef_asblatin1 (m : MethodId) (x0 : Addr) : entryFrame m #[(.ref x0)] 1 = mkF m 0 #[.val (.ref x0)] [] := by first | (simp [entryFrame, mkF, argsToLocals, Value.category]; done) | rfl
set_option maxRecDepth 65536 in
set_option maxHeartbeats 40000000 in
theorem c_asblatin1 (l : Launch) {Z : State} {a0 : Array Value} (hw : Hw Z a0) {n0 : Nat} {h : Heap} (O : Old Z n0 h) (CS0 : CS Z) {a b : Nat} {kb : ClassId} {cap : Nat} {cs : List Int32} (F : SBd Z h a b kb cap cs) :
    Con l Z EL1 n0 (⟨"java/lang/AbstractStringBuilder", "isLatin1", "()Z"⟩ : MethodName) jdk_68_method_68_code 1 (some .boolean) [] ({ frames := 0, cells := 0, slots := 0, locals := 0 } : Room) #[(.ref a)] h [] (fun v vm' h' => v = some (.int 1) ∧ h = h') := by
  refine Con.of pn24 O (el hw) ?_
  intro pg_ e s m below meth cd_ T W hs_ hSf
  rw [ef_asblatin1]
  obtain ⟨vc, Sc, hvc⟩ := CS0
  refine s_gets (pc' := 3) W (w64 hw) Via.refl Sc d_jdk_68_method_68_0 rfl ?_
  intro T W
  refine s_ifeq (pc' := 6) (pcT := 17) W d_jdk_68_method_68_3 (by decide) rfl rfl (fun hq => absurd hq hvc) (fun _ => ?_)
  refine s_aload_n (pc' := 7) W d_jdk_68_method_68_6 rfl rfl rfl ?_
  refine s_getf (pc' := 10) W (w67 hw) Via.refl F.2.1 d_jdk_68_method_68_7 rfl ?_
  intro T W
  refine s_ifne (pc' := 13) (pcT := 17) W d_jdk_68_method_68_10 (by decide) rfl rfl (fun hq => absurd (by decide) hq) (fun _ => ?_)
  refine s_iconst (pc' := 14) W (1 : Int32) d_jdk_68_method_68_13 rfl rfl ?_
  refine s_goto (pc' := 18) W d_jdk_68_method_68_14 (by decide) rfl ?_
  refine s_nreturn W (t := .boolean) rfl (by simp) d_jdk_68_method_68_18 (bl rfl) (bl rfl) ?_
  intro vm' C'
  exact ⟨rfl, rfl⟩
set_option maxRecDepth 65536 in
set_option maxHeartbeats 40000000 in
theorem ef_checklength (m : MethodId) (x0 : Int32) (x1 : Int32) : entryFrame m #[(.int x0), (.int x1)] 2 = mkF m 0 #[.val (.int x0), .val (.int x1)] [] := by first | (simp [entryFrame, mkF, argsToLocals, Value.category]; done) | rfl
set_option maxRecDepth 65536 in
set_option maxHeartbeats 40000000 in
theorem c_checklength (l : Launch) {Z : State} {a0 : Array Value} (hw : Hw Z a0) {n0 : Nat} {h : Heap} (O : Old Z n0 h) {x y : Int32} (hq0 : ¬ y < x) :
    Con l Z EL1 n0 (⟨"java/util/Arrays", "checkLength", "(II)V"⟩ : MethodName) jdk_65_method_131_code 2 none [] ({ frames := 0, cells := 0, slots := 0, locals := 0 } : Room) #[(.int x), (.int y)] h [] (fun v vm' h' => v = none ∧ h = h') := by
  refine Con.of pn25 O (el hw) ?_
  intro pg_ e s m below meth cd_ T W hs_ hSf
  rw [ef_checklength]
  refine s_iload_n (pc' := 1) W d_jdk_65_method_131_0 rfl rfl ?_
  refine s_iload_n (pc' := 2) W d_jdk_65_method_131_1 rfl rfl ?_
  refine s_icmpge (pc' := 5) (pcT := 37) W d_jdk_65_method_131_2 (by decide) rfl rfl (fun _ => ?_) (fun hq => absurd hq hq0)
  refine s_ret W rfl d_jdk_65_method_131_37 (bl rfl) (bl rfl) ?_
  intro vm' C'
  exact ⟨rfl, rfl⟩
set_option maxRecDepth 65536 in
set_option maxHeartbeats 40000000 in
theorem ef_copyrangebyte (m : MethodId) (x0 : Addr) (x1 : Int32) (x2 : Int32) : entryFrame m #[(.ref x0), (.int x1), (.int x2)] 5 = mkF m 0 #[.val (.ref x0), .val (.int x1), .val (.int x2), .unset, .unset] [] := by first | (simp [entryFrame, mkF, argsToLocals, Value.category]; done) | rfl
set_option maxRecDepth 65536 in
set_option maxHeartbeats 40000000 in
theorem c_copyrangebyte (l : Launch) {Z : State} {a0 : Array Value} (hw : Hw Z a0) {n0 : Nat} {h : Heap} (O : Old Z n0 h) {b : Nat} {kb : ClassId} {cap n : Nat} {cs : List Int32} {rest : List Value} (hn : cs.length = n) (hr : n + rest.length = cap) (hcap : cap ≤ 4096) (A : Arv Z h b kb .byte (Int32.ofNat cap) (cs.map bv ++ rest) (.int 0)) :
    Con l Z EL1 n0 (⟨"java/util/Arrays", "copyOfRangeByte", "([BII)[B"⟩ : MethodName) jdk_65_method_133_code 5 (some (.array .byte)) [] ({ frames := 1, cells := 1, slots := n, locals := 18 } : Room) #[(.ref b), (.int (0 : Int32)), (.int (Int32.ofNat n))] h [] (fun v vm' h' => ∃ c kc, v = some (.ref c) ∧ Keep h h' [] ∧ Arv Z h' c kc .byte (Int32.ofNat n) (cs.map bv) (.int 0) ∧ h.size ≤ c) := by
  refine Con.of pn26 O (el hw) ?_
  intro pg_ e s m below meth cd_ T W hs_ hSf
  rw [ef_copyrangebyte]
  have Kt := Keep.refl h []
  refine s_iload_n (pc' := 1) W d_jdk_65_method_133_0 rfl rfl ?_
  refine s_iload_n (pc' := 2) W d_jdk_65_method_133_1 rfl rfl ?_
  refine s_static (pc' := 5) W (w177 hw) (w178 hw) (w172 hw) (w179 hw) (by decide) pd6 [(.int (0 : Int32)), (.int (Int32.ofNat n))] rfl (c_checklength l hw W.old (n_nn (by omega))) all0 rfl d_jdk_65_method_133_2 0 (le rfl) (bl rfl) (bl rfl) (by (try dsimp only) <;> omega) (by (try dsimp only) <;> omega) rfl ?_
  rintro _ T vm _ W C1 ⟨rfl, rfl⟩
  refine s_iload_n (pc' := 6) W d_jdk_65_method_133_5 rfl rfl ?_
  refine s_iload_n (pc' := 7) W d_jdk_65_method_133_6 rfl rfl ?_
  refine s_isub (pc' := 8) W d_jdk_65_method_133_7 rfl ?_
  rw [sub0]
  refine s_istore_n (pc' := 9) W #[rv b, iv (0 : Int32), iv (Int32.ofNat n), iv (Int32.ofNat n), .unset] d_jdk_65_method_133_8 rfl rfl ?_
  refine s_iload_n (pc' := 10) W d_jdk_65_method_133_9 rfl rfl ?_
  refine s_newarr (pc' := 12) W (aty := .byte) n "[B" (by decide) (w38 hw) d_jdk_65_method_133_10 (n_nn (by omega)) (by rw [n_clamp (by omega)]; exact Nat.le_refl _) (by omega) (by (try dsimp only) <;> omega) (by (try dsimp only) <;> omega) rfl ?_
  intro c T h k_c g_c
  have fs_c := Nat.le_trans Kt.1 (Nat.le_of_eq g_c.symm)
  have ne_b_c : @Ne Nat b c := by have := nlt A.lt; omega
  intro W K2 C2 M_c V_c X_c
  replace Kt := Kt.trans K2 all0
  replace A := A.keep K2 nin0
  have V_c : Arv Z h c k_c .byte (Int32.ofNat n) (List.replicate n (.int 0)) (.int 0) := by have q := V_c; rw [n_clamp (by omega)] at q; exact q
  refine s_astore (pc' := 14) W #[rv b, iv (0 : Int32), iv (Int32.ofNat n), iv (Int32.ofNat n), rv c] d_jdk_65_method_133_12 rfl rfl rfl ?_
  refine s_aload_n (pc' := 15) W d_jdk_65_method_133_14 rfl rfl rfl ?_
  refine s_iload_n (pc' := 16) W d_jdk_65_method_133_15 rfl rfl ?_
  refine s_aload (pc' := 18) W d_jdk_65_method_133_16 rfl rfl rfl ?_
  refine s_iconst (pc' := 19) W (0 : Int32) d_jdk_65_method_133_18 rfl rfl ?_
  refine s_aload_n (pc' := 20) W d_jdk_65_method_133_19 rfl rfl rfl ?_
  refine s_alen (pc' := 21) W A d_jdk_65_method_133_20 rfl ?_
  refine s_iload_n (pc' := 22) W d_jdk_65_method_133_21 rfl rfl ?_
  refine s_isub (pc' := 23) W d_jdk_65_method_133_22 rfl ?_
  rw [sub0]
  refine s_iload_n (pc' := 24) W d_jdk_65_method_133_23 rfl rfl ?_
  refine s_static (pc' := 27) W (w180 hw) (w181 hw) (w182 hw) (w183 hw) (by decide) pd9 [(.int (Int32.ofNat cap)), (.int (Int32.ofNat n))] rfl (c_mathmin l hw W.old) all0 rfl d_jdk_65_method_133_24 4 (le rfl) (bl rfl) (bl rfl) (by (try dsimp only) <;> omega) (by (try dsimp only) <;> omega) rfl ?_
  rintro _ T vm _ W C3 ⟨rfl, rfl⟩
  replace M_c := M_c.mv C3
  have hmin : (if (Int32.ofNat n) < (Int32.ofNat cap) then (Int32.ofNat n) else (Int32.ofNat cap)) = Int32.ofNat n := by rcases Nat.lt_or_ge n cap with q | q; exact if_pos (n_lt q (by omega)); rw [show cap = n by omega, if_neg (n_ge (Nat.le_refl _) (by omega))]
  rw [hmin]
  have hc0 : (0 : Int32).toNatClampNeg = 0 := rfl
  refine s_copy (pc' := 30) W (w184 hw) (w117 hw) (w115 hw) (w116 hw) A V_c rfl (by decide) (by decide) (n_nn (by omega)) (by rw [hc0, n_clamp (by omega), n_clamp (by omega)]; omega) (by rw [hc0, n_clamp (by omega)]; omega) (by rw [hc0, n_clamp (by omega), List.length_replicate]; omega) M_c rfl d_jdk_65_method_133_27 0 (le rfl) (bl rfl) (by rw [nfw]; exact bl rfl) rfl ?_
  intro T h W K4 C4 Vn4
  replace Kt := Kt.trans K4 (allS (P := fun x => _ ∨ _) (Or.inr fs_c) all0)
  replace A := A.keep K4 (ninS ne_b_c nin0)
  replace M_c := M_c.mv C4
  replace X_c := X_c.keep K4
  have V_c := Vn4
  clear Vn4
  rw [hc0, n_clamp (by omega), range_getD' cs rest n hn] at V_c
  refine s_aload (pc' := 32) W d_jdk_65_method_133_30 rfl rfl rfl ?_
  refine s_areturn W rfl rfl rfl d_jdk_65_method_133_32 (by (try dsimp only) <;> omega) (by (try dsimp only) <;> omega) ?_
  intro vm' C'
  exact ⟨c, k_c, rfl, Kt, by simpa using V_c, fs_c⟩
set_option maxRecDepth 65536 in
set_option maxHeartbeats 40000000 in
theorem ef_copyrange (m : MethodId) (x0 : Addr) (x1 : Int32) (x2 : Int32) : entryFrame m #[(.ref x0), (.int x1), (.int x2)] 3 = mkF m 0 #[.val (.ref x0), .val (.int x1), .val (.int x2)] [] := by first | (simp [entryFrame, mkF, argsToLocals, Value.category]; done) | rfl
set_option maxRecDepth 65536 in
set_option maxHeartbeats 40000000 in
theorem c_copyrange (l : Launch) {Z : State} {a0 : Array Value} (hw : Hw Z a0) {n0 : Nat} {h : Heap} (O : Old Z n0 h) {b : Nat} {kb : ClassId} {cap n : Nat} {cs : List Int32} {rest : List Value} (hn : cs.length = n) (hr : n + rest.length = cap) (hcap : cap ≤ 4096) (A : Arv Z h b kb .byte (Int32.ofNat cap) (cs.map bv ++ rest) (.int 0)) (EB : Exa Z h b "[B") :
    Con l Z EL1 n0 (⟨"java/util/Arrays", "copyOfRange", "([BII)[B"⟩ : MethodName) jdk_65_method_132_code 3 (some (.array .byte)) [] ({ frames := 2, cells := 1, slots := n, locals := 34 } : Room) #[(.ref b), (.int (0 : Int32)), (.int (Int32.ofNat n))] h [] (fun v vm' h' => ∃ c kc, v = some (.ref c) ∧ Keep h h' [] ∧ Arv Z h' c kc .byte (Int32.ofNat n) (cs.map bv) (.int 0) ∧ h.size ≤ c) := by
  refine Con.of pn27 O (el hw) ?_
  intro pg_ e s m below meth cd_ T W hs_ hSf
  rw [ef_copyrange]
  refine s_iload_n (pc' := 1) W d_jdk_65_method_132_0 rfl rfl ?_
  refine s_ifne (pc' := 4) (pcT := 10) W d_jdk_65_method_132_1 (by decide) rfl rfl (fun hq => absurd (by decide) hq) (fun _ => ?_)
  refine s_iload_n (pc' := 5) W d_jdk_65_method_132_4 rfl rfl ?_
  refine s_aload_n (pc' := 6) W d_jdk_65_method_132_5 rfl rfl rfl ?_
  refine s_alen (pc' := 7) W A d_jdk_65_method_132_6 rfl ?_
  refine s_icmpeq (pc' := 10) (pcT := 17) W d_jdk_65_method_132_7 (by decide) rfl rfl (fun hq => ?_) (fun hq => ?_)
  · obtain rfl : n = cap := n_inj (by omega) (by omega) hq
    obtain rfl : rest = [] := List.eq_nil_of_length_eq_zero (by omega)
    rw [List.append_nil] at A
    have Kt := Keep.refl h []
    refine s_aload_n (pc' := 18) W d_jdk_65_method_132_17 rfl rfl rfl ?_
    refine s_clone (pc' := 21) W (w315 hw) (w316 hw) (w320 hw) (w318 hw) (w319 hw) (w321 hw) A EB n (by rw [n_clamp (by omega)]; exact Nat.le_refl _) rfl d_jdk_65_method_132_18 0 (le rfl) (bl rfl) (bl rfl) (by (try dsimp only) <;> omega) (by (try dsimp only) <;> omega) rfl ?_
    intro c T h g_c
    have fs_c := Nat.le_trans Kt.1 (Nat.le_of_eq g_c.symm)
    intro W K2 C2 M_c V_c X_c
    replace Kt := Kt.trans K2 all0
    refine s_cast (pc' := 24) W (w322 hw) (Ins.of_exa X_c (w323 hw)) d_jdk_65_method_132_21 rfl ?_
    intro T W
    refine s_areturn W rfl rfl rfl d_jdk_65_method_132_24 (by (try dsimp only) <;> omega) (by (try dsimp only) <;> omega) ?_
    intro vm' C'
    exact ⟨c, kb, rfl, Kt, V_c, fs_c⟩
  · refine s_aload_n (pc' := 11) W d_jdk_65_method_132_10 rfl rfl rfl ?_
    refine s_iload_n (pc' := 12) W d_jdk_65_method_132_11 rfl rfl ?_
    refine s_iload_n (pc' := 13) W d_jdk_65_method_132_12 rfl rfl ?_
    refine s_static (pc' := 16) W (w174 hw) (w175 hw) (w172 hw) (w176 hw) (by decide) pd19 [(.ref b), (.int (0 : Int32)), (.int (Int32.ofNat n))] rfl (c_copyrangebyte l hw W.old hn hr hcap A) all0 rfl d_jdk_65_method_132_13 0 (le rfl) (bl rfl) (bl rfl) (by (try dsimp only) <;> omega) (by (try dsimp only) <;> omega) rfl ?_
    rintro _ T vm h W C1 ⟨c, kc, rfl, K1, V, hc⟩
    refine s_areturn W rfl rfl rfl d_jdk_65_method_132_16 (by (try dsimp only) <;> omega) (by (try dsimp only) <;> omega) ?_
    intro vm' C'
    exact ⟨c, kc, rfl, K1, V, hc⟩
set_option maxRecDepth 65536 in
set_option maxHeartbeats 40000000 in
theorem ef_asbgetvalue (m : MethodId) (x0 : Addr) : entryFrame m #[(.ref x0)] 1 = mkF m 0 #[.val (.ref x0)] [] := by first | (simp [entryFrame, mkF, argsToLocals, Value.category]; done) | rfl
set_option maxRecDepth 65536 in
set_option maxHeartbeats 40000000 in
theorem c_asbgetvalue (l : Launch) {Z : State} {a0 : Array Value} (hw : Hw Z a0) {n0 : Nat} {h : Heap} (O : Old Z n0 h) {a b : Nat} {kb : ClassId} {cap : Nat} {cs : List Int32} (F : SBd Z h a b kb cap cs) :
    Con l Z EL1 n0 (⟨"java/lang/AbstractStringBuilder", "getValue", "()[B"⟩ : MethodName) jdk_68_method_64_code 1 (some (.array .byte)) [] ({ frames := 0, cells := 0, slots := 0, locals := 0 } : Room) #[(.ref a)] h [] (fun v vm' h' => v = some (.ref b) ∧ h = h') := by
  refine Con.of pn28 O (el hw) ?_
  intro pg_ e s m below meth cd_ T W hs_ hSf
  rw [ef_asbgetvalue]
  refine s_aload_n (pc' := 1) W d_jdk_68_method_64_0 rfl rfl rfl ?_
  refine s_getf (pc' := 4) W (w65 hw) Via.refl F.2.2.2.1 d_jdk_68_method_64_1 rfl ?_
  intro T W
  refine s_areturn W rfl rfl rfl d_jdk_68_method_64_4 (bl rfl) (bl rfl) ?_
  intro vm' C'
  exact ⟨rfl, rfl⟩
set_option maxRecDepth 65536 in
set_option maxHeartbeats 40000000 in
theorem ef_asblength (m : MethodId) (x0 : Addr) : entryFrame m #[(.ref x0)] 1 = mkF m 0 #[.val (.ref x0)] [] := by first | (simp [entryFrame, mkF, argsToLocals, Value.category]; done) | rfl
set_option maxRecDepth 65536 in
set_option maxHeartbeats 40000000 in
theorem c_asblength (l : Launch) {Z : State} {a0 : Array Value} (hw : Hw Z a0) {n0 : Nat} {h : Heap} (O : Old Z n0 h) {a b : Nat} {kb : ClassId} {cap : Nat} {cs : List Int32} (F : SBd Z h a b kb cap cs) :
    Con l Z EL1 n0 (⟨"java/lang/AbstractStringBuilder", "length", "()I"⟩ : MethodName) jdk_68_method_6_code 1 (some .int) [] ({ frames := 0, cells := 0, slots := 0, locals := 0 } : Room) #[(.ref a)] h [] (fun v vm' h' => v = some (.int (Int32.ofNat cs.length)) ∧ h = h') := by
  refine Con.of pn29 O (el hw) ?_
  intro pg_ e s m below meth cd_ T W hs_ hSf
  rw [ef_asblength]
  refine s_aload_n (pc' := 1) W d_jdk_68_method_6_0 rfl rfl rfl ?_
  refine s_getf (pc' := 4) W (w91 hw) Via.refl F.2.2.1 d_jdk_68_method_6_1 rfl ?_
  intro T W
  refine s_ireturn W rfl d_jdk_68_method_6_4 (bl rfl) (bl rfl) ?_
  intro vm' C'
  exact ⟨rfl, rfl⟩
set_option maxRecDepth 65536 in
set_option maxHeartbeats 40000000 in
theorem ef_sblength (m : MethodId) (x0 : Addr) : entryFrame m #[(.ref x0)] 1 = mkF m 0 #[.val (.ref x0)] [] := by first | (simp [entryFrame, mkF, argsToLocals, Value.category]; done) | rfl
set_option maxRecDepth 65536 in
set_option maxHeartbeats 40000000 in
theorem c_sblength (l : Launch) {Z : State} {a0 : Array Value} (hw : Hw Z a0) {n0 : Nat} {h : Heap} (O : Old Z n0 h) {a b : Nat} {kb : ClassId} {cap : Nat} {cs : List Int32} (F : SBd Z h a b kb cap cs) :
    Con l Z EL1 n0 (⟨"java/lang/StringBuilder", "length", "()I"⟩ : MethodName) jdk_67_method_93_code 1 (some .int) [] ({ frames := 1, cells := 0, slots := 0, locals := 12 } : Room) #[(.ref a)] h [] (fun v vm' h' => v = some (.int (Int32.ofNat cs.length)) ∧ h = h') := by
  refine Con.of pn30 O (el hw) ?_
  intro pg_ e s m below meth cd_ T W hs_ hSf
  rw [ef_sblength]
  refine s_aload_n (pc' := 1) W d_jdk_67_method_93_0 rfl rfl rfl ?_
  refine s_super (pc' := 4) W (K := "java/lang/AbstractStringBuilder") (w167 hw) (same_of (y := (⟨"java/lang/AbstractStringBuilder", "length", "()I"⟩ : MethodName)) (by decide) (w163 hw) (nf_of (y := (⟨"java/lang/AbstractStringBuilder", "length", "()I"⟩ : MethodName)) (y' := (⟨"java/lang/AbstractStringBuilder", "ensureCapacityInternal", "(I)V"⟩ : MethodName)) rfl (w96 hw))) (w163 hw) (w77 hw) (w61 hw) (w168 hw) (by decide) pd15 [] rfl (Ins.of_exa F.1 (w60 hw)) (c_asblength l hw W.old F) all0 rfl d_jdk_67_method_93_1 0 (le rfl) (bl rfl) (bl rfl) (bl rfl) (bl rfl) rfl ?_
  rintro _ T vm _ W C1 ⟨rfl, rfl⟩
  refine s_ireturn W rfl d_jdk_67_method_93_4 (bl rfl) (bl rfl) ?_
  intro vm' C'
  exact ⟨rfl, rfl⟩
set_option maxRecDepth 65536 in
set_option maxHeartbeats 40000000 in
theorem ef_strinitASB (m : MethodId) (x0 : Addr) (x1 : Addr) : entryFrame m #[(.ref x0), (.ref x1), .null] 5 = mkF m 0 #[.val (.ref x0), .val (.ref x1), .val .null, .unset, .unset] [] := by first | (simp [entryFrame, mkF, argsToLocals, Value.category]; done) | rfl
set_option maxRecDepth 65536 in
set_option maxHeartbeats 40000000 in
theorem c_strinitASB (l : Launch) {Z : State} {a0 : Array Value} (hw : Hw Z a0) {n0 : Nat} {h : Heap} (O : Old Z n0 h) (CS0 : CS Z) {t : Nat} (E : Exa Z h t "java/lang/String") (M0 : n0 ≤ t) (Mt : t < h.size) (Fc : Fld Z h t "java/lang/String" "coder" "B" (.int 0)) (Fv : Fld Z h t "java/lang/String" "value" "[B" .null) {a b : Nat} {kb : ClassId} {cap : Nat} {cs : List Int32} (F : SBd Z h a b kb cap cs) :
    Con l Z EL1 n0 (⟨"java/lang/String", "<init>", "(Ljava/lang/AbstractStringBuilder;Ljava/lang/Void;)V"⟩ : MethodName) jdk_42_method_150_code 5 none [] ({ frames := 3, cells := 1, slots := cap, locals := 49 } : Room) #[(.ref t), (.ref a), .null] h [t] (fun v vm' h' => v = none ∧ Keep h h' [t] ∧ ∃ c kc, LatB Z h' t c kc cs ∧ h.size ≤ c) := by
  refine Con.of pn31 O (el hw) ?_
  intro pg_ e s m below meth cd_ T W hs_ hSf
  rw [ef_strinitASB]
  have M : Mine Z EL1 n0 s.vm h t := ⟨M0, Mt, hSf t (by simp)⟩
  have Kt := Keep.refl h [t]
  have hle_ := F.le
  have lb := nlt F.ltb
  have ntb : @Ne Nat t b := by obtain ⟨-, -, -, -, ⟨r, hr, A⟩, -⟩ := F; exact E.neArv A (w24 hw)
  refine s_aload_n (pc' := 1) W d_jdk_42_method_150_0 rfl rfl rfl ?_
  refine s_objinit (pc' := 4) W (w34 hw) (w35 hw) (w36 hw) rfl d_jdk_42_method_150_1 0 (le rfl) (bl rfl) (bl rfl) rfl ?_
  intro T W
  refine s_aload_n (pc' := 5) W d_jdk_42_method_150_4 rfl rfl rfl ?_
  refine s_virt (pc' := 8) W (C0 := "java/lang/StringBuilder") (w156 hw) (w157 hw) (w159 hw) (w158 hw) (w61 hw) (w160 hw) (notFace_of_selects (args := a0) (w159 hw)) (by decide) pd20 [] rfl F.1 (c_asbgetvalue l hw W.old F) all0 rfl d_jdk_42_method_150_5 0 (le rfl) (bl rfl) (bl rfl) (by (try dsimp only) <;> omega) (by (try dsimp only) <;> omega) rfl ?_
  rintro _ T vm _ W C1 ⟨rfl, rfl⟩
  replace M := M.mv C1
  refine s_astore_n (pc' := 9) W #[rv t, rv a, .val .null, rv b, .unset] d_jdk_42_method_150_8 rfl rfl rfl ?_
  refine s_aload_n (pc' := 10) W d_jdk_42_method_150_9 rfl rfl rfl ?_
  refine s_virt (pc' := 13) W (C0 := "java/lang/StringBuilder") (w161 hw) (w162 hw) (w164 hw) (w165 hw) (w53 hw) (w166 hw) (nf_of (y := (⟨"java/lang/AbstractStringBuilder", "length", "()I"⟩ : MethodName)) (y' := (⟨"java/lang/AbstractStringBuilder", "ensureCapacityInternal", "(I)V"⟩ : MethodName)) rfl (w96 hw)) (by decide) pd15 [] rfl F.1 (c_sblength l hw W.old F) all0 rfl d_jdk_42_method_150_10 0 (le rfl) (bl rfl) (bl rfl) (by (try dsimp only) <;> omega) (by (try dsimp only) <;> omega) rfl ?_
  rintro _ T vm _ W C2 ⟨rfl, rfl⟩
  replace M := M.mv C2
  refine s_istore (pc' := 15) W #[rv t, rv a, .val .null, rv b, iv (Int32.ofNat cs.length)] d_jdk_42_method_150_13 rfl rfl ?_
  refine s_aload_n (pc' := 16) W d_jdk_42_method_150_15 rfl rfl rfl ?_
  refine s_virt (pc' := 19) W (C0 := "java/lang/StringBuilder") (w169 hw) (w133 hw) (w135 hw) (w134 hw) (w61 hw) (w136 hw) (notFace_of_selects (args := a0) (w135 hw)) (by decide) pd7 [] rfl F.1 (c_asblatin1 l hw W.old CS0 F) all0 rfl d_jdk_42_method_150_16 0 (le rfl) (bl rfl) (bl rfl) (by (try dsimp only) <;> omega) (by (try dsimp only) <;> omega) rfl ?_
  rintro _ T vm _ W C3 ⟨rfl, rfl⟩
  replace M := M.mv C3
  refine s_ifeq (pc' := 22) (pcT := 41) W d_jdk_42_method_150_19 (by decide) rfl rfl (fun hq => absurd hq (by decide)) (fun _ => ?_)
  obtain ⟨f1, f2, f3, f4, ⟨r, hr, A⟩, f6⟩ := F
  have XB := f6.2.2
  refine s_aload_n (pc' := 23) W d_jdk_42_method_150_22 rfl rfl rfl ?_
  refine s_iconst (pc' := 24) W (0 : Int32) d_jdk_42_method_150_23 rfl rfl ?_
  refine s_putfn (pc' := 27) W (w44 hw) Via.refl Fc E M (Or.inr ⟨(w40 hw), rfl, rfl⟩) (w24 hw) (ty := .byte) (v' := .int 0) (by decide) rfl rfl d_jdk_42_method_150_24 rfl ?_
  intro T h W K4 C4 Wr4 Fn4
  replace Fv := Fv.other Wr4 (Or.inr (slot_ne (Or.inr (w39 hw)) (Or.inr (w40 hw)) (by decide) (by decide : parseFieldDescriptor "[B" = some (.array .byte)) (by decide : parseFieldDescriptor "B" = some .byte)))
  replace Kt := Kt.trans K4 (allS (P := fun x => _ ∨ _) (Or.inl (by simp)) all0)
  replace E := E.keep K4
  replace M := M.mv C4
  replace A := A.keep K4 (ninS (Ne.symm ntb) nin0)
  replace XB := XB.keep K4
  have Fc := Fn4
  clear Fn4
  have lt0 := nlt M.2.1
  have Kt0 := Kt.1
  refine s_aload_n (pc' := 28) W d_jdk_42_method_150_27 rfl rfl rfl ?_
  refine s_aload_n (pc' := 29) W d_jdk_42_method_150_28 rfl rfl rfl ?_
  refine s_iconst (pc' := 30) W (0 : Int32) d_jdk_42_method_150_29 rfl rfl ?_
  refine s_iload (pc' := 32) W d_jdk_42_method_150_30 rfl rfl ?_
  refine s_static (pc' := 35) W (w170 hw) (w171 hw) (w172 hw) (w173 hw) (by decide) pd19 [(.ref b), (.int (0 : Int32)), (.int (Int32.ofNat cs.length))] rfl (c_copyrange l hw W.old rfl hr f6.2.1 A XB) all0 rfl d_jdk_42_method_150_32 1 (le rfl) (bl rfl) (bl rfl) (by (try dsimp only) <;> omega) (by (try dsimp only) <;> omega) rfl ?_
  rintro _ T vm h W C5 ⟨c, kc, rfl, K5, V_c, hc⟩
  replace Kt := Kt.trans K5 all0
  replace E := E.keep K5
  replace M := M.mv C5
  replace A := A.keep K5 nin0
  replace XB := XB.keep K5
  replace Fv := Fv.keep K5 nin0
  replace Fc := Fc.keep K5 nin0
  have ntc : @Ne Nat t c := by omega
  refine s_putf (pc' := 38) W (w43 hw) Via.refl Fv E M (Or.inr ⟨(w39 hw), rfl, rfl⟩) (w24 hw) (ty := (.array .byte)) (by decide) rfl rfl d_jdk_42_method_150_35 rfl ?_
  intro T h W K6 C6 Wr6 Fn6
  replace Fc := Fc.other Wr6 (Or.inr (slot_ne (Or.inr (w40 hw)) (Or.inr (w39 hw)) (by decide) (by decide : parseFieldDescriptor "B" = some .byte) (by decide : parseFieldDescriptor "[B" = some (.array .byte))))
  replace Kt := Kt.trans K6 (allS (P := fun x => _ ∨ _) (Or.inl (by simp)) all0)
  replace E := E.keep K6
  replace M := M.mv C6
  replace A := A.keep K6 (ninS (Ne.symm ntb) nin0)
  replace XB := XB.keep K6
  replace V_c := V_c.keep K6 (ninS (Ne.symm ntc) nin0)
  have Fv := Fn6
  clear Fn6
  refine s_goto (pc' := 97) W d_jdk_42_method_150_38 (by decide) rfl ?_
  refine s_ret W rfl d_jdk_42_method_150_97 (by (try dsimp only) <;> omega) (by (try dsimp only) <;> omega) ?_
  intro vm' C'
  exact ⟨rfl, Kt, c, kc, ⟨E, Fc, Fv, V_c, f6.1, by omega⟩, Nat.le_trans Kt0 hc⟩
set_option maxRecDepth 65536 in
set_option maxHeartbeats 40000000 in
theorem ef_strinitSB (m : MethodId) (x0 : Addr) (x1 : Addr) : entryFrame m #[(.ref x0), (.ref x1)] 2 = mkF m 0 #[.val (.ref x0), .val (.ref x1)] [] := by first | (simp [entryFrame, mkF, argsToLocals, Value.category]; done) | rfl
set_option maxRecDepth 65536 in
set_option maxHeartbeats 40000000 in
theorem c_strinitSB (l : Launch) {Z : State} {a0 : Array Value} (hw : Hw Z a0) {n0 : Nat} {h : Heap} (O : Old Z n0 h) (CS0 : CS Z) {t : Nat} (E : Exa Z h t "java/lang/String") (M0 : n0 ≤ t) (Mt : t < h.size) (Fc : Fld Z h t "java/lang/String" "coder" "B" (.int 0)) (Fv : Fld Z h t "java/lang/String" "value" "[B" .null) {a b : Nat} {kb : ClassId} {cap : Nat} {cs : List Int32} (F : SBd Z h a b kb cap cs) :
    Con l Z EL1 n0 (⟨"java/lang/String", "<init>", "(Ljava/lang/StringBuilder;)V"⟩ : MethodName) jdk_42_method_53_code 2 none [] ({ frames := 4, cells := 1, slots := cap, locals := 65 } : Room) #[(.ref t), (.ref a)] h [t] (fun v vm' h' => v = none ∧ Keep h h' [t] ∧ ∃ c kc, LatB Z h' t c kc cs ∧ h.size ≤ c) := by
  refine Con.of pn32 O (el hw) ?_
  intro pg_ e s m below meth cd_ T W hs_ hSf
  rw [ef_strinitSB]
  have St := hSf t (by simp)
  refine s_aload_n (pc' := 1) W d_jdk_42_method_53_0 rfl rfl rfl ?_
  refine s_aload_n (pc' := 2) W d_jdk_42_method_53_1 rfl rfl rfl ?_
  refine s_aconst_null (pc' := 3) W d_jdk_42_method_53_2 rfl ?_
  refine s_init (pc' := 6) W rfl (w153 hw) (w154 hw) (w25 hw) (w155 hw) (by decide) pd21 [(.ref a), .null] rfl (c_strinitASB l hw W.old CS0 E M0 Mt Fc Fv F) (allS ⟨Mt, St⟩ all0) rfl d_jdk_42_method_53_3 0 (le rfl) (bl rfl) (bl rfl) (by (try dsimp only) <;> omega) (by (try dsimp only) <;> omega) rfl ?_
  rintro _ T vm h W C1 ⟨rfl, K1, L⟩
  refine s_ret W rfl d_jdk_42_method_53_6 (by (try dsimp only) <;> omega) (by (try dsimp only) <;> omega) ?_
  intro vm' C'
  exact ⟨rfl, K1, L⟩
set_option maxRecDepth 65536 in
set_option maxHeartbeats 40000000 in
theorem ef_sbtostring (m : MethodId) (x0 : Addr) : entryFrame m #[(.ref x0)] 1 = mkF m 0 #[.val (.ref x0)] [] := by first | (simp [entryFrame, mkF, argsToLocals, Value.category]; done) | rfl
set_option maxRecDepth 65536 in
set_option maxHeartbeats 40000000 in
theorem c_sbtostring (l : Launch) {Z : State} {a0 : Array Value} (hw : Hw Z a0) {n0 : Nat} {h : Heap} (O : Old Z n0 h) (CS0 : CS Z) {a b : Nat} {kb : ClassId} {cap : Nat} {cs : List Int32} (F : SBd Z h a b kb cap cs) :
    Con l Z EL1 n0 (⟨"java/lang/StringBuilder", "toString", "()Ljava/lang/String;"⟩ : MethodName) jdk_67_method_42_code 1 (some (.object "java/lang/String")) [] ({ frames := 5, cells := 2, slots := cap + 4, locals := 79 } : Room) #[(.ref a)] h [] (fun v vm' h' => ∃ t c kc, v = some (.ref t) ∧ Keep h h' [] ∧ LatB Z h' t c kc cs ∧ h.size ≤ t ∧ h.size ≤ c) := by
  refine Con.of pn33 O (el hw) ?_
  intro pg_ e s m below meth cd_ T W hs_ hSf
  rw [ef_sbtostring]
  have Kt := Keep.refl h []
  have lb := nlt F.ltb
  have la := nlt F.lt
  refine s_new (pc' := 3) W (w149 hw) (w24 hw) (w25 hw) d_jdk_67_method_42_0 (by (try dsimp only) <;> omega) (by (try dsimp only) <;> omega) rfl ?_
  intro t T h g_t
  have fs_t := Nat.le_trans Kt.1 (Nat.le_of_eq g_t.symm)
  intro W K1 C1 M_t E_t D_t U_t
  replace Kt := Kt.trans K1 all0
  have F_coder_t : Fld Z _ t "java/lang/String" "coder" "B" (.int 0) := D_t (Or.inr (w40 hw)) (ty := .byte) (by decide)
  have F_value_t : Fld Z _ t "java/lang/String" "value" "[B" .null := D_t (Or.inr (w39 hw)) (ty := (.array .byte)) (by decide)
  replace F := F.keep K1 nin0 nin0
  have Kt0 := Kt.1
  refine s_dup (pc' := 4) W d_jdk_67_method_42_3 rfl rfl ?_
  refine s_aload_n (pc' := 5) W d_jdk_67_method_42_4 rfl rfl rfl ?_
  refine s_init (pc' := 8) W rfl (w150 hw) (w151 hw) (w25 hw) (w152 hw) (by decide) pd22 [(.ref a)] rfl (c_strinitSB l hw W.old CS0 E_t M_t.1 M_t.2.1 F_coder_t F_value_t F) (allS ⟨M_t.2.1, M_t.2.2⟩ all0) rfl d_jdk_67_method_42_5 1 (le rfl) (bl rfl) (bl rfl) (by (try dsimp only) <;> omega) (by (try dsimp only) <;> omega) rfl ?_
  rintro _ T vm h W C2 ⟨rfl, K2, c, kc, L, hcc⟩
  replace Kt := Kt.trans K2 (allS (P := fun x => _ ∨ _) (Or.inr fs_t) all0)
  replace E_t := E_t.keep K2
  replace M_t := M_t.mv C2
  refine s_areturn W rfl rfl rfl d_jdk_67_method_42_8 (by (try dsimp only) <;> omega) (by (try dsimp only) <;> omega) ?_
  intro vm' C'
  exact ⟨t, c, kc, rfl, Kt, L, fs_t, Nat.le_trans Kt0 hcc⟩
set_option maxRecDepth 65536 in
set_option maxHeartbeats 40000000 in
theorem ef_sbinit (m : MethodId) (x0 : Addr) : entryFrame m #[(.ref x0)] 1 = mkF m 0 #[.val (.ref x0)] [] := by first | (simp [entryFrame, mkF, argsToLocals, Value.category]; done) | rfl
set_option maxRecDepth 65536 in
set_option maxHeartbeats 40000000 in
theorem c_sbinit (l : Launch) {Z : State} {a0 : Array Value} (hw : Hw Z a0) {n0 : Nat} {h : Heap} (O : Old Z n0 h) {a : Nat} (CS0 : CS Z) (E : Exa Z h a "java/lang/StringBuilder") (M0 : n0 ≤ a) (Ma : a < h.size) (Fc : Fld Z h a "java/lang/AbstractStringBuilder" "coder" "B" (.int 0)) (Fv : Fld Z h a "java/lang/AbstractStringBuilder" "value" "[B" .null) (Fn : Fld Z h a "java/lang/AbstractStringBuilder" "count" "I" (.int 0)) :
    Con l Z EL1 n0 (⟨"java/lang/StringBuilder", "<init>", "()V"⟩ : MethodName) jdk_67_method_1_code 1 none [] ({ frames := 2, cells := 1, slots := 16, locals := 25 } : Room) #[(.ref a)] h [a] (fun v vm' h' => v = none ∧ Keep h h' [a] ∧ ∃ b kb, SBd Z h' a b kb 16 [] ∧ h.size ≤ b ∧ Mine Z EL1 n0 vm' h' b) := by
  refine Con.of pn34 O (el hw) ?_
  intro pg_ e s m below meth cd_ T W hs_ hSf
  rw [ef_sbinit]
  have Sa := hSf a (by simp)
  refine s_aload_n (pc' := 1) W d_jdk_67_method_1_0 rfl rfl rfl ?_
  refine s_bipush (pc' := 3) W (16 : Int32) d_jdk_67_method_1_1 rfl rfl ?_
  refine s_init (pc' := 6) W rfl (w57 hw) (w58 hw) (w61 hw) (w62 hw) (by decide) pd16 [(.int (16 : Int32))] rfl (c_asbinit l hw W.old (cap := 16) CS0 (by decide) E M0 Ma Fc Fv Fn) (allS ⟨Ma, Sa⟩ all0) rfl d_jdk_67_method_1_3 0 (le rfl) (bl rfl) (bl rfl) (bl rfl) (bl rfl) rfl ?_
  rintro _ T vm h W C1 ⟨rfl, K1, b, kb, Sb, fs_b, Mb⟩
  refine s_ret W rfl d_jdk_67_method_1_6 (bl rfl) (bl rfl) ?_
  intro vm' C'
  exact ⟨rfl, K1, b, kb, Sb, fs_b, Mb.mv C'⟩
set_option maxRecDepth 65536 in
set_option maxHeartbeats 40000000 in
theorem ef_stringsizeJ (m : MethodId) (x0 : Int64) : entryFrame m #[(.long x0)] 6 = mkF m 0 #[.val (.long x0), .second, .unset, .unset, .unset, .unset] [] := by first | (simp [entryFrame, mkF, argsToLocals, Value.category]; done) | rfl
set_option maxRecDepth 65536 in
set_option maxHeartbeats 40000000 in
theorem c_stringsizeJ (l : Launch) {Z : State} {a0 : Array Value} (hw : Hw Z a0) {n0 : Nat} {h : Heap} (O : Old Z n0 h) {x : Int64} :
    Con l Z EL1 n0 (⟨"java/lang/Long", "stringSize", "(J)I"⟩ : MethodName) jdk_35_method_15_code 6 (some .int) [] ({ frames := 0, cells := 0, slots := 0, locals := 0 } : Room) #[(.long x)] h [] (fun v vm' h' => ∃ d : Nat, v = some (.int (Int32.ofNat (d + (if x < 0 then 1 else 0)))) ∧ h = h' ∧ isDig x.toInt.natAbs d ∧ d ≤ 19) := by
  refine Con.of pn35 O (el hw) ?_
  intro pg_ e s m below meth cd_ T W hs_ hSf
  rw [ef_stringsizeJ]
  have e0 : (0 : Int64).toInt = 0 := rfl
  refine s_iconst (pc' := 1) W (1 : Int32) d_jdk_35_method_15_0 rfl rfl ?_
  refine s_istore_n (pc' := 2) W #[.val (.long x), .second, iv (1 : Int32), .unset, .unset, .unset] d_jdk_35_method_15_1 rfl rfl ?_
  refine s_lload_n (pc' := 3) W d_jdk_35_method_15_2 rfl rfl ?_
  refine s_lconst (pc' := 4) W (0 : Int64) d_jdk_35_method_15_3 rfl rfl ?_
  refine s_lcmp (pc' := 5) W d_jdk_35_method_15_4 rfl ?_
  refine s_ifllt (pc' := 8) (pcT := 13) W d_jdk_35_method_15_5 (by decide) rfl rfl (fun hx => ?_) (fun hx => ?_)
  · have hb := rng64 x
    have hy : x.toInt = -(x.toInt.natAbs : Int) := by have := (Int64.lt_iff_toInt_lt (x := x) (y := 0)).mp hx; omega
    refine s_ldc2J (pc' := 16) W (w131 hw) d_jdk_35_method_15_13 rfl ?_
    refine s_lstore_n (pc' := 17) W #[.val (.long x), .second, iv (1 : Int32), .val (.long (-10 : Int64)), .second, .unset] d_jdk_35_method_15_16 rfl rfl ?_
    refine s_iconst (pc' := 18) W (1 : Int32) d_jdk_35_method_15_17 rfl rfl ?_
    refine s_istore (pc' := 20) W #[.val (.long x), .second, iv (1 : Int32), .val (.long (-10 : Int64)), .second, iv (1 : Int32)] d_jdk_35_method_15_18 rfl rfl ?_
    refine s_iload (pc' := 22) W d_jdk_35_method_15_20 rfl rfl ?_
    refine s_bipush (pc' := 24) W (19 : Int32) d_jdk_35_method_15_22 rfl rfl ?_
    refine s_icmpge (pc' := 27) (pcT := 50) W d_jdk_35_method_15_24 (by decide) rfl rfl (fun hq => absurd (by decide) hq) (fun _ => ?_)
    refine s_lload_n (pc' := 28) W d_jdk_35_method_15_27 rfl rfl ?_
    refine s_lload_n (pc' := 29) W d_jdk_35_method_15_28 rfl rfl ?_
    refine s_lcmp (pc' := 30) W d_jdk_35_method_15_29 rfl ?_
    refine s_iflle (pc' := 33) (pcT := 38) W d_jdk_35_method_15_30 (by decide) rfl rfl (fun hq => ?_) (fun hq => ?_)
    · have hr1 : 10 ≤ x.toInt.natAbs := Nat.le_of_not_lt (fun r => hq ((ltNJ (P := 10) hy rfl).mpr r))
      refine s_ldc2J (pc' := 41) W (w282 hw) d_jdk_35_method_15_38 rfl ?_
      refine s_lload_n (pc' := 42) W d_jdk_35_method_15_41 rfl rfl ?_
      refine s_lmul (pc' := 43) W d_jdk_35_method_15_42 rfl ?_
      rw [show ((10 : Int64) * (-10 : Int64)) = (-100 : Int64) from by decide]
      refine s_lstore_n (pc' := 44) W #[.val (.long x), .second, iv (1 : Int32), .val (.long (-100 : Int64)), .second, iv (1 : Int32)] d_jdk_35_method_15_43 rfl rfl ?_
      refine s_iinc (pc' := 47) W (1 : Int32) #[.val (.long x), .second, iv (1 : Int32), .val (.long (-100 : Int64)), .second, iv ((1 : Int32) + (1 : Int32))] d_jdk_35_method_15_44 rfl rfl rfl rfl ?_
      rw [show ((1 : Int32) + (1 : Int32)) = (2 : Int32) from by decide]
      refine s_goto (pc' := 20) W d_jdk_35_method_15_47 (by decide) rfl ?_
      refine s_iload (pc' := 22) W d_jdk_35_method_15_20 rfl rfl ?_
      refine s_bipush (pc' := 24) W (19 : Int32) d_jdk_35_method_15_22 rfl rfl ?_
      refine s_icmpge (pc' := 27) (pcT := 50) W d_jdk_35_method_15_24 (by decide) rfl rfl (fun hq => absurd (by decide) hq) (fun _ => ?_)
      refine s_lload_n (pc' := 28) W d_jdk_35_method_15_27 rfl rfl ?_
      refine s_lload_n (pc' := 29) W d_jdk_35_method_15_28 rfl rfl ?_
      refine s_lcmp (pc' := 30) W d_jdk_35_method_15_29 rfl ?_
      refine s_iflle (pc' := 33) (pcT := 38) W d_jdk_35_method_15_30 (by decide) rfl rfl (fun hq => ?_) (fun hq => ?_)
      · have hr2 : 100 ≤ x.toInt.natAbs := Nat.le_of_not_lt (fun r => hq ((ltNJ (P := 100) hy rfl).mpr r))
        refine s_ldc2J (pc' := 41) W (w282 hw) d_jdk_35_method_15_38 rfl ?_
        refine s_lload_n (pc' := 42) W d_jdk_35_method_15_41 rfl rfl ?_
        refine s_lmul (pc' := 43) W d_jdk_35_method_15_42 rfl ?_
        rw [show ((10 : Int64) * (-100 : Int64)) = (-1000 : Int64) from by decide]
        refine s_lstore_n (pc' := 44) W #[.val (.long x), .second, iv (1 : Int32), .val (.long (-1000 : Int64)), .second, iv (2 : Int32)] d_jdk_35_method_15_43 rfl rfl ?_
        refine s_iinc (pc' := 47) W (1 : Int32) #[.val (.long x), .second, iv (1 : Int32), .val (.long (-1000 : Int64)), .second, iv ((2 : Int32) + (1 : Int32))] d_jdk_35_method_15_44 rfl rfl rfl rfl ?_
        rw [show ((2 : Int32) + (1 : Int32)) = (3 : Int32) from by decide]
        refine s_goto (pc' := 20) W d_jdk_35_method_15_47 (by decide) rfl ?_
        refine s_iload (pc' := 22) W d_jdk_35_method_15_20 rfl rfl ?_
        refine s_bipush (pc' := 24) W (19 : Int32) d_jdk_35_method_15_22 rfl rfl ?_
        refine s_icmpge (pc' := 27) (pcT := 50) W d_jdk_35_method_15_24 (by decide) rfl rfl (fun hq => absurd (by decide) hq) (fun _ => ?_)
        refine s_lload_n (pc' := 28) W d_jdk_35_method_15_27 rfl rfl ?_
        refine s_lload_n (pc' := 29) W d_jdk_35_method_15_28 rfl rfl ?_
        refine s_lcmp (pc' := 30) W d_jdk_35_method_15_29 rfl ?_
        refine s_iflle (pc' := 33) (pcT := 38) W d_jdk_35_method_15_30 (by decide) rfl rfl (fun hq => ?_) (fun hq => ?_)
        · have hr3 : 1000 ≤ x.toInt.natAbs := Nat.le_of_not_lt (fun r => hq ((ltNJ (P := 1000) hy rfl).mpr r))
          refine s_ldc2J (pc' := 41) W (w282 hw) d_jdk_35_method_15_38 rfl ?_
          refine s_lload_n (pc' := 42) W d_jdk_35_method_15_41 rfl rfl ?_
          refine s_lmul (pc' := 43) W d_jdk_35_method_15_42 rfl ?_
          rw [show ((10 : Int64) * (-1000 : Int64)) = (-10000 : Int64) from by decide]
          refine s_lstore_n (pc' := 44) W #[.val (.long x), .second, iv (1 : Int32), .val (.long (-10000 : Int64)), .second, iv (3 : Int32)] d_jdk_35_method_15_43 rfl rfl ?_
          refine s_iinc (pc' := 47) W (1 : Int32) #[.val (.long x), .second, iv (1 : Int32), .val (.long (-10000 : Int64)), .second, iv ((3 : Int32) + (1 : Int32))] d_jdk_35_method_15_44 rfl rfl rfl rfl ?_
          rw [show ((3 : Int32) + (1 : Int32)) = (4 : Int32) from by decide]
          refine s_goto (pc' := 20) W d_jdk_35_method_15_47 (by decide) rfl ?_
          refine s_iload (pc' := 22) W d_jdk_35_method_15_20 rfl rfl ?_
          refine s_bipush (pc' := 24) W (19 : Int32) d_jdk_35_method_15_22 rfl rfl ?_
          refine s_icmpge (pc' := 27) (pcT := 50) W d_jdk_35_method_15_24 (by decide) rfl rfl (fun hq => absurd (by decide) hq) (fun _ => ?_)
          refine s_lload_n (pc' := 28) W d_jdk_35_method_15_27 rfl rfl ?_
          refine s_lload_n (pc' := 29) W d_jdk_35_method_15_28 rfl rfl ?_
          refine s_lcmp (pc' := 30) W d_jdk_35_method_15_29 rfl ?_
          refine s_iflle (pc' := 33) (pcT := 38) W d_jdk_35_method_15_30 (by decide) rfl rfl (fun hq => ?_) (fun hq => ?_)
          · have hr4 : 10000 ≤ x.toInt.natAbs := Nat.le_of_not_lt (fun r => hq ((ltNJ (P := 10000) hy rfl).mpr r))
            refine s_ldc2J (pc' := 41) W (w282 hw) d_jdk_35_method_15_38 rfl ?_
            refine s_lload_n (pc' := 42) W d_jdk_35_method_15_41 rfl rfl ?_
            refine s_lmul (pc' := 43) W d_jdk_35_method_15_42 rfl ?_
            rw [show ((10 : Int64) * (-10000 : Int64)) = (-100000 : Int64) from by decide]
            refine s_lstore_n (pc' := 44) W #[.val (.long x), .second, iv (1 : Int32), .val (.long (-100000 : Int64)), .second, iv (4 : Int32)] d_jdk_35_method_15_43 rfl rfl ?_
            refine s_iinc (pc' := 47) W (1 : Int32) #[.val (.long x), .second, iv (1 : Int32), .val (.long (-100000 : Int64)), .second, iv ((4 : Int32) + (1 : Int32))] d_jdk_35_method_15_44 rfl rfl rfl rfl ?_
            rw [show ((4 : Int32) + (1 : Int32)) = (5 : Int32) from by decide]
            refine s_goto (pc' := 20) W d_jdk_35_method_15_47 (by decide) rfl ?_
            refine s_iload (pc' := 22) W d_jdk_35_method_15_20 rfl rfl ?_
            refine s_bipush (pc' := 24) W (19 : Int32) d_jdk_35_method_15_22 rfl rfl ?_
            refine s_icmpge (pc' := 27) (pcT := 50) W d_jdk_35_method_15_24 (by decide) rfl rfl (fun hq => absurd (by decide) hq) (fun _ => ?_)
            refine s_lload_n (pc' := 28) W d_jdk_35_method_15_27 rfl rfl ?_
            refine s_lload_n (pc' := 29) W d_jdk_35_method_15_28 rfl rfl ?_
            refine s_lcmp (pc' := 30) W d_jdk_35_method_15_29 rfl ?_
            refine s_iflle (pc' := 33) (pcT := 38) W d_jdk_35_method_15_30 (by decide) rfl rfl (fun hq => ?_) (fun hq => ?_)
            · have hr5 : 100000 ≤ x.toInt.natAbs := Nat.le_of_not_lt (fun r => hq ((ltNJ (P := 100000) hy rfl).mpr r))
              refine s_ldc2J (pc' := 41) W (w282 hw) d_jdk_35_method_15_38 rfl ?_
              refine s_lload_n (pc' := 42) W d_jdk_35_method_15_41 rfl rfl ?_
              refine s_lmul (pc' := 43) W d_jdk_35_method_15_42 rfl ?_
              rw [show ((10 : Int64) * (-100000 : Int64)) = (-1000000 : Int64) from by decide]
              refine s_lstore_n (pc' := 44) W #[.val (.long x), .second, iv (1 : Int32), .val (.long (-1000000 : Int64)), .second, iv (5 : Int32)] d_jdk_35_method_15_43 rfl rfl ?_
              refine s_iinc (pc' := 47) W (1 : Int32) #[.val (.long x), .second, iv (1 : Int32), .val (.long (-1000000 : Int64)), .second, iv ((5 : Int32) + (1 : Int32))] d_jdk_35_method_15_44 rfl rfl rfl rfl ?_
              rw [show ((5 : Int32) + (1 : Int32)) = (6 : Int32) from by decide]
              refine s_goto (pc' := 20) W d_jdk_35_method_15_47 (by decide) rfl ?_
              refine s_iload (pc' := 22) W d_jdk_35_method_15_20 rfl rfl ?_
              refine s_bipush (pc' := 24) W (19 : Int32) d_jdk_35_method_15_22 rfl rfl ?_
              refine s_icmpge (pc' := 27) (pcT := 50) W d_jdk_35_method_15_24 (by decide) rfl rfl (fun hq => absurd (by decide) hq) (fun _ => ?_)
              refine s_lload_n (pc' := 28) W d_jdk_35_method_15_27 rfl rfl ?_
              refine s_lload_n (pc' := 29) W d_jdk_35_method_15_28 rfl rfl ?_
              refine s_lcmp (pc' := 30) W d_jdk_35_method_15_29 rfl ?_
              refine s_iflle (pc' := 33) (pcT := 38) W d_jdk_35_method_15_30 (by decide) rfl rfl (fun hq => ?_) (fun hq => ?_)
              · have hr6 : 1000000 ≤ x.toInt.natAbs := Nat.le_of_not_lt (fun r => hq ((ltNJ (P := 1000000) hy rfl).mpr r))
                refine s_ldc2J (pc' := 41) W (w282 hw) d_jdk_35_method_15_38 rfl ?_
                refine s_lload_n (pc' := 42) W d_jdk_35_method_15_41 rfl rfl ?_
                refine s_lmul (pc' := 43) W d_jdk_35_method_15_42 rfl ?_
                rw [show ((10 : Int64) * (-1000000 : Int64)) = (-10000000 : Int64) from by decide]
                refine s_lstore_n (pc' := 44) W #[.val (.long x), .second, iv (1 : Int32), .val (.long (-10000000 : Int64)), .second, iv (6 : Int32)] d_jdk_35_method_15_43 rfl rfl ?_
                refine s_iinc (pc' := 47) W (1 : Int32) #[.val (.long x), .second, iv (1 : Int32), .val (.long (-10000000 : Int64)), .second, iv ((6 : Int32) + (1 : Int32))] d_jdk_35_method_15_44 rfl rfl rfl rfl ?_
                rw [show ((6 : Int32) + (1 : Int32)) = (7 : Int32) from by decide]
                refine s_goto (pc' := 20) W d_jdk_35_method_15_47 (by decide) rfl ?_
                refine s_iload (pc' := 22) W d_jdk_35_method_15_20 rfl rfl ?_
                refine s_bipush (pc' := 24) W (19 : Int32) d_jdk_35_method_15_22 rfl rfl ?_
                refine s_icmpge (pc' := 27) (pcT := 50) W d_jdk_35_method_15_24 (by decide) rfl rfl (fun hq => absurd (by decide) hq) (fun _ => ?_)
                refine s_lload_n (pc' := 28) W d_jdk_35_method_15_27 rfl rfl ?_
                refine s_lload_n (pc' := 29) W d_jdk_35_method_15_28 rfl rfl ?_
                refine s_lcmp (pc' := 30) W d_jdk_35_method_15_29 rfl ?_
                refine s_iflle (pc' := 33) (pcT := 38) W d_jdk_35_method_15_30 (by decide) rfl rfl (fun hq => ?_) (fun hq => ?_)
                · have hr7 : 10000000 ≤ x.toInt.natAbs := Nat.le_of_not_lt (fun r => hq ((ltNJ (P := 10000000) hy rfl).mpr r))
                  refine s_ldc2J (pc' := 41) W (w282 hw) d_jdk_35_method_15_38 rfl ?_
                  refine s_lload_n (pc' := 42) W d_jdk_35_method_15_41 rfl rfl ?_
                  refine s_lmul (pc' := 43) W d_jdk_35_method_15_42 rfl ?_
                  rw [show ((10 : Int64) * (-10000000 : Int64)) = (-100000000 : Int64) from by decide]
                  refine s_lstore_n (pc' := 44) W #[.val (.long x), .second, iv (1 : Int32), .val (.long (-100000000 : Int64)), .second, iv (7 : Int32)] d_jdk_35_method_15_43 rfl rfl ?_
                  refine s_iinc (pc' := 47) W (1 : Int32) #[.val (.long x), .second, iv (1 : Int32), .val (.long (-100000000 : Int64)), .second, iv ((7 : Int32) + (1 : Int32))] d_jdk_35_method_15_44 rfl rfl rfl rfl ?_
                  rw [show ((7 : Int32) + (1 : Int32)) = (8 : Int32) from by decide]
                  refine s_goto (pc' := 20) W d_jdk_35_method_15_47 (by decide) rfl ?_
                  refine s_iload (pc' := 22) W d_jdk_35_method_15_20 rfl rfl ?_
                  refine s_bipush (pc' := 24) W (19 : Int32) d_jdk_35_method_15_22 rfl rfl ?_
                  refine s_icmpge (pc' := 27) (pcT := 50) W d_jdk_35_method_15_24 (by decide) rfl rfl (fun hq => absurd (by decide) hq) (fun _ => ?_)
                  refine s_lload_n (pc' := 28) W d_jdk_35_method_15_27 rfl rfl ?_
                  refine s_lload_n (pc' := 29) W d_jdk_35_method_15_28 rfl rfl ?_
                  refine s_lcmp (pc' := 30) W d_jdk_35_method_15_29 rfl ?_
                  refine s_iflle (pc' := 33) (pcT := 38) W d_jdk_35_method_15_30 (by decide) rfl rfl (fun hq => ?_) (fun hq => ?_)
                  · have hr8 : 100000000 ≤ x.toInt.natAbs := Nat.le_of_not_lt (fun r => hq ((ltNJ (P := 100000000) hy rfl).mpr r))
                    refine s_ldc2J (pc' := 41) W (w282 hw) d_jdk_35_method_15_38 rfl ?_
                    refine s_lload_n (pc' := 42) W d_jdk_35_method_15_41 rfl rfl ?_
                    refine s_lmul (pc' := 43) W d_jdk_35_method_15_42 rfl ?_
                    rw [show ((10 : Int64) * (-100000000 : Int64)) = (-1000000000 : Int64) from by decide]
                    refine s_lstore_n (pc' := 44) W #[.val (.long x), .second, iv (1 : Int32), .val (.long (-1000000000 : Int64)), .second, iv (8 : Int32)] d_jdk_35_method_15_43 rfl rfl ?_
                    refine s_iinc (pc' := 47) W (1 : Int32) #[.val (.long x), .second, iv (1 : Int32), .val (.long (-1000000000 : Int64)), .second, iv ((8 : Int32) + (1 : Int32))] d_jdk_35_method_15_44 rfl rfl rfl rfl ?_
                    rw [show ((8 : Int32) + (1 : Int32)) = (9 : Int32) from by decide]
                    refine s_goto (pc' := 20) W d_jdk_35_method_15_47 (by decide) rfl ?_
                    refine s_iload (pc' := 22) W d_jdk_35_method_15_20 rfl rfl ?_
                    refine s_bipush (pc' := 24) W (19 : Int32) d_jdk_35_method_15_22 rfl rfl ?_
                    refine s_icmpge (pc' := 27) (pcT := 50) W d_jdk_35_method_15_24 (by decide) rfl rfl (fun hq => absurd (by decide) hq) (fun _ => ?_)
                    refine s_lload_n (pc' := 28) W d_jdk_35_method_15_27 rfl rfl ?_
                    refine s_lload_n (pc' := 29) W d_jdk_35_method_15_28 rfl rfl ?_
                    refine s_lcmp (pc' := 30) W d_jdk_35_method_15_29 rfl ?_
                    refine s_iflle (pc' := 33) (pcT := 38) W d_jdk_35_method_15_30 (by decide) rfl rfl (fun hq => ?_) (fun hq => ?_)
                    · have hr9 : 1000000000 ≤ x.toInt.natAbs := Nat.le_of_not_lt (fun r => hq ((ltNJ (P := 1000000000) hy rfl).mpr r))
                      refine s_ldc2J (pc' := 41) W (w282 hw) d_jdk_35_method_15_38 rfl ?_
                      refine s_lload_n (pc' := 42) W d_jdk_35_method_15_41 rfl rfl ?_
                      refine s_lmul (pc' := 43) W d_jdk_35_method_15_42 rfl ?_
                      rw [show ((10 : Int64) * (-1000000000 : Int64)) = (-10000000000 : Int64) from by decide]
                      refine s_lstore_n (pc' := 44) W #[.val (.long x), .second, iv (1 : Int32), .val (.long (-10000000000 : Int64)), .second, iv (9 : Int32)] d_jdk_35_method_15_43 rfl rfl ?_
                      refine s_iinc (pc' := 47) W (1 : Int32) #[.val (.long x), .second, iv (1 : Int32), .val (.long (-10000000000 : Int64)), .second, iv ((9 : Int32) + (1 : Int32))] d_jdk_35_method_15_44 rfl rfl rfl rfl ?_
                      rw [show ((9 : Int32) + (1 : Int32)) = (10 : Int32) from by decide]
                      refine s_goto (pc' := 20) W d_jdk_35_method_15_47 (by decide) rfl ?_
                      refine s_iload (pc' := 22) W d_jdk_35_method_15_20 rfl rfl ?_
                      refine s_bipush (pc' := 24) W (19 : Int32) d_jdk_35_method_15_22 rfl rfl ?_
                      refine s_icmpge (pc' := 27) (pcT := 50) W d_jdk_35_method_15_24 (by decide) rfl rfl (fun hq => absurd (by decide) hq) (fun _ => ?_)
                      refine s_lload_n (pc' := 28) W d_jdk_35_method_15_27 rfl rfl ?_
                      refine s_lload_n (pc' := 29) W d_jdk_35_method_15_28 rfl rfl ?_
                      refine s_lcmp (pc' := 30) W d_jdk_35_method_15_29 rfl ?_
                      refine s_iflle (pc' := 33) (pcT := 38) W d_jdk_35_method_15_30 (by decide) rfl rfl (fun hq => ?_) (fun hq => ?_)
                      · have hr10 : 10000000000 ≤ x.toInt.natAbs := Nat.le_of_not_lt (fun r => hq ((ltNJ (P := 10000000000) hy rfl).mpr r))
                        refine s_ldc2J (pc' := 41) W (w282 hw) d_jdk_35_method_15_38 rfl ?_
                        refine s_lload_n (pc' := 42) W d_jdk_35_method_15_41 rfl rfl ?_
                        refine s_lmul (pc' := 43) W d_jdk_35_method_15_42 rfl ?_
                        rw [show ((10 : Int64) * (-10000000000 : Int64)) = (-100000000000 : Int64) from by decide]
                        refine s_lstore_n (pc' := 44) W #[.val (.long x), .second, iv (1 : Int32), .val (.long (-100000000000 : Int64)), .second, iv (10 : Int32)] d_jdk_35_method_15_43 rfl rfl ?_
                        refine s_iinc (pc' := 47) W (1 : Int32) #[.val (.long x), .second, iv (1 : Int32), .val (.long (-100000000000 : Int64)), .second, iv ((10 : Int32) + (1 : Int32))] d_jdk_35_method_15_44 rfl rfl rfl rfl ?_
                        rw [show ((10 : Int32) + (1 : Int32)) = (11 : Int32) from by decide]
                        refine s_goto (pc' := 20) W d_jdk_35_method_15_47 (by decide) rfl ?_
                        refine s_iload (pc' := 22) W d_jdk_35_method_15_20 rfl rfl ?_
                        refine s_bipush (pc' := 24) W (19 : Int32) d_jdk_35_method_15_22 rfl rfl ?_
                        refine s_icmpge (pc' := 27) (pcT := 50) W d_jdk_35_method_15_24 (by decide) rfl rfl (fun hq => absurd (by decide) hq) (fun _ => ?_)
                        refine s_lload_n (pc' := 28) W d_jdk_35_method_15_27 rfl rfl ?_
                        refine s_lload_n (pc' := 29) W d_jdk_35_method_15_28 rfl rfl ?_
                        refine s_lcmp (pc' := 30) W d_jdk_35_method_15_29 rfl ?_
                        refine s_iflle (pc' := 33) (pcT := 38) W d_jdk_35_method_15_30 (by decide) rfl rfl (fun hq => ?_) (fun hq => ?_)
                        · have hr11 : 100000000000 ≤ x.toInt.natAbs := Nat.le_of_not_lt (fun r => hq ((ltNJ (P := 100000000000) hy rfl).mpr r))
                          refine s_ldc2J (pc' := 41) W (w282 hw) d_jdk_35_method_15_38 rfl ?_
                          refine s_lload_n (pc' := 42) W d_jdk_35_method_15_41 rfl rfl ?_
                          refine s_lmul (pc' := 43) W d_jdk_35_method_15_42 rfl ?_
                          rw [show ((10 : Int64) * (-100000000000 : Int64)) = (-1000000000000 : Int64) from by decide]
                          refine s_lstore_n (pc' := 44) W #[.val (.long x), .second, iv (1 : Int32), .val (.long (-1000000000000 : Int64)), .second, iv (11 : Int32)] d_jdk_35_method_15_43 rfl rfl ?_
                          refine s_iinc (pc' := 47) W (1 : Int32) #[.val (.long x), .second, iv (1 : Int32), .val (.long (-1000000000000 : Int64)), .second, iv ((11 : Int32) + (1 : Int32))] d_jdk_35_method_15_44 rfl rfl rfl rfl ?_
                          rw [show ((11 : Int32) + (1 : Int32)) = (12 : Int32) from by decide]
                          refine s_goto (pc' := 20) W d_jdk_35_method_15_47 (by decide) rfl ?_
                          refine s_iload (pc' := 22) W d_jdk_35_method_15_20 rfl rfl ?_
                          refine s_bipush (pc' := 24) W (19 : Int32) d_jdk_35_method_15_22 rfl rfl ?_
                          refine s_icmpge (pc' := 27) (pcT := 50) W d_jdk_35_method_15_24 (by decide) rfl rfl (fun hq => absurd (by decide) hq) (fun _ => ?_)
                          refine s_lload_n (pc' := 28) W d_jdk_35_method_15_27 rfl rfl ?_
                          refine s_lload_n (pc' := 29) W d_jdk_35_method_15_28 rfl rfl ?_
                          refine s_lcmp (pc' := 30) W d_jdk_35_method_15_29 rfl ?_
                          refine s_iflle (pc' := 33) (pcT := 38) W d_jdk_35_method_15_30 (by decide) rfl rfl (fun hq => ?_) (fun hq => ?_)
                          · have hr12 : 1000000000000 ≤ x.toInt.natAbs := Nat.le_of_not_lt (fun r => hq ((ltNJ (P := 1000000000000) hy rfl).mpr r))
                            refine s_ldc2J (pc' := 41) W (w282 hw) d_jdk_35_method_15_38 rfl ?_
                            refine s_lload_n (pc' := 42) W d_jdk_35_method_15_41 rfl rfl ?_
                            refine s_lmul (pc' := 43) W d_jdk_35_method_15_42 rfl ?_
                            rw [show ((10 : Int64) * (-1000000000000 : Int64)) = (-10000000000000 : Int64) from by decide]
                            refine s_lstore_n (pc' := 44) W #[.val (.long x), .second, iv (1 : Int32), .val (.long (-10000000000000 : Int64)), .second, iv (12 : Int32)] d_jdk_35_method_15_43 rfl rfl ?_
                            refine s_iinc (pc' := 47) W (1 : Int32) #[.val (.long x), .second, iv (1 : Int32), .val (.long (-10000000000000 : Int64)), .second, iv ((12 : Int32) + (1 : Int32))] d_jdk_35_method_15_44 rfl rfl rfl rfl ?_
                            rw [show ((12 : Int32) + (1 : Int32)) = (13 : Int32) from by decide]
                            refine s_goto (pc' := 20) W d_jdk_35_method_15_47 (by decide) rfl ?_
                            refine s_iload (pc' := 22) W d_jdk_35_method_15_20 rfl rfl ?_
                            refine s_bipush (pc' := 24) W (19 : Int32) d_jdk_35_method_15_22 rfl rfl ?_
                            refine s_icmpge (pc' := 27) (pcT := 50) W d_jdk_35_method_15_24 (by decide) rfl rfl (fun hq => absurd (by decide) hq) (fun _ => ?_)
                            refine s_lload_n (pc' := 28) W d_jdk_35_method_15_27 rfl rfl ?_
                            refine s_lload_n (pc' := 29) W d_jdk_35_method_15_28 rfl rfl ?_
                            refine s_lcmp (pc' := 30) W d_jdk_35_method_15_29 rfl ?_
                            refine s_iflle (pc' := 33) (pcT := 38) W d_jdk_35_method_15_30 (by decide) rfl rfl (fun hq => ?_) (fun hq => ?_)
                            · have hr13 : 10000000000000 ≤ x.toInt.natAbs := Nat.le_of_not_lt (fun r => hq ((ltNJ (P := 10000000000000) hy rfl).mpr r))
                              refine s_ldc2J (pc' := 41) W (w282 hw) d_jdk_35_method_15_38 rfl ?_
                              refine s_lload_n (pc' := 42) W d_jdk_35_method_15_41 rfl rfl ?_
                              refine s_lmul (pc' := 43) W d_jdk_35_method_15_42 rfl ?_
                              rw [show ((10 : Int64) * (-10000000000000 : Int64)) = (-100000000000000 : Int64) from by decide]
                              refine s_lstore_n (pc' := 44) W #[.val (.long x), .second, iv (1 : Int32), .val (.long (-100000000000000 : Int64)), .second, iv (13 : Int32)] d_jdk_35_method_15_43 rfl rfl ?_
                              refine s_iinc (pc' := 47) W (1 : Int32) #[.val (.long x), .second, iv (1 : Int32), .val (.long (-100000000000000 : Int64)), .second, iv ((13 : Int32) + (1 : Int32))] d_jdk_35_method_15_44 rfl rfl rfl rfl ?_
                              rw [show ((13 : Int32) + (1 : Int32)) = (14 : Int32) from by decide]
                              refine s_goto (pc' := 20) W d_jdk_35_method_15_47 (by decide) rfl ?_
                              refine s_iload (pc' := 22) W d_jdk_35_method_15_20 rfl rfl ?_
                              refine s_bipush (pc' := 24) W (19 : Int32) d_jdk_35_method_15_22 rfl rfl ?_
                              refine s_icmpge (pc' := 27) (pcT := 50) W d_jdk_35_method_15_24 (by decide) rfl rfl (fun hq => absurd (by decide) hq) (fun _ => ?_)
                              refine s_lload_n (pc' := 28) W d_jdk_35_method_15_27 rfl rfl ?_
                              refine s_lload_n (pc' := 29) W d_jdk_35_method_15_28 rfl rfl ?_
                              refine s_lcmp (pc' := 30) W d_jdk_35_method_15_29 rfl ?_
                              refine s_iflle (pc' := 33) (pcT := 38) W d_jdk_35_method_15_30 (by decide) rfl rfl (fun hq => ?_) (fun hq => ?_)
                              · have hr14 : 100000000000000 ≤ x.toInt.natAbs := Nat.le_of_not_lt (fun r => hq ((ltNJ (P := 100000000000000) hy rfl).mpr r))
                                refine s_ldc2J (pc' := 41) W (w282 hw) d_jdk_35_method_15_38 rfl ?_
                                refine s_lload_n (pc' := 42) W d_jdk_35_method_15_41 rfl rfl ?_
                                refine s_lmul (pc' := 43) W d_jdk_35_method_15_42 rfl ?_
                                rw [show ((10 : Int64) * (-100000000000000 : Int64)) = (-1000000000000000 : Int64) from by decide]
                                refine s_lstore_n (pc' := 44) W #[.val (.long x), .second, iv (1 : Int32), .val (.long (-1000000000000000 : Int64)), .second, iv (14 : Int32)] d_jdk_35_method_15_43 rfl rfl ?_
                                refine s_iinc (pc' := 47) W (1 : Int32) #[.val (.long x), .second, iv (1 : Int32), .val (.long (-1000000000000000 : Int64)), .second, iv ((14 : Int32) + (1 : Int32))] d_jdk_35_method_15_44 rfl rfl rfl rfl ?_
                                rw [show ((14 : Int32) + (1 : Int32)) = (15 : Int32) from by decide]
                                refine s_goto (pc' := 20) W d_jdk_35_method_15_47 (by decide) rfl ?_
                                refine s_iload (pc' := 22) W d_jdk_35_method_15_20 rfl rfl ?_
                                refine s_bipush (pc' := 24) W (19 : Int32) d_jdk_35_method_15_22 rfl rfl ?_
                                refine s_icmpge (pc' := 27) (pcT := 50) W d_jdk_35_method_15_24 (by decide) rfl rfl (fun hq => absurd (by decide) hq) (fun _ => ?_)
                                refine s_lload_n (pc' := 28) W d_jdk_35_method_15_27 rfl rfl ?_
                                refine s_lload_n (pc' := 29) W d_jdk_35_method_15_28 rfl rfl ?_
                                refine s_lcmp (pc' := 30) W d_jdk_35_method_15_29 rfl ?_
                                refine s_iflle (pc' := 33) (pcT := 38) W d_jdk_35_method_15_30 (by decide) rfl rfl (fun hq => ?_) (fun hq => ?_)
                                · have hr15 : 1000000000000000 ≤ x.toInt.natAbs := Nat.le_of_not_lt (fun r => hq ((ltNJ (P := 1000000000000000) hy rfl).mpr r))
                                  refine s_ldc2J (pc' := 41) W (w282 hw) d_jdk_35_method_15_38 rfl ?_
                                  refine s_lload_n (pc' := 42) W d_jdk_35_method_15_41 rfl rfl ?_
                                  refine s_lmul (pc' := 43) W d_jdk_35_method_15_42 rfl ?_
                                  rw [show ((10 : Int64) * (-1000000000000000 : Int64)) = (-10000000000000000 : Int64) from by decide]
                                  refine s_lstore_n (pc' := 44) W #[.val (.long x), .second, iv (1 : Int32), .val (.long (-10000000000000000 : Int64)), .second, iv (15 : Int32)] d_jdk_35_method_15_43 rfl rfl ?_
                                  refine s_iinc (pc' := 47) W (1 : Int32) #[.val (.long x), .second, iv (1 : Int32), .val (.long (-10000000000000000 : Int64)), .second, iv ((15 : Int32) + (1 : Int32))] d_jdk_35_method_15_44 rfl rfl rfl rfl ?_
                                  rw [show ((15 : Int32) + (1 : Int32)) = (16 : Int32) from by decide]
                                  refine s_goto (pc' := 20) W d_jdk_35_method_15_47 (by decide) rfl ?_
                                  refine s_iload (pc' := 22) W d_jdk_35_method_15_20 rfl rfl ?_
                                  refine s_bipush (pc' := 24) W (19 : Int32) d_jdk_35_method_15_22 rfl rfl ?_
                                  refine s_icmpge (pc' := 27) (pcT := 50) W d_jdk_35_method_15_24 (by decide) rfl rfl (fun hq => absurd (by decide) hq) (fun _ => ?_)
                                  refine s_lload_n (pc' := 28) W d_jdk_35_method_15_27 rfl rfl ?_
                                  refine s_lload_n (pc' := 29) W d_jdk_35_method_15_28 rfl rfl ?_
                                  refine s_lcmp (pc' := 30) W d_jdk_35_method_15_29 rfl ?_
                                  refine s_iflle (pc' := 33) (pcT := 38) W d_jdk_35_method_15_30 (by decide) rfl rfl (fun hq => ?_) (fun hq => ?_)
                                  · have hr16 : 10000000000000000 ≤ x.toInt.natAbs := Nat.le_of_not_lt (fun r => hq ((ltNJ (P := 10000000000000000) hy rfl).mpr r))
                                    refine s_ldc2J (pc' := 41) W (w282 hw) d_jdk_35_method_15_38 rfl ?_
                                    refine s_lload_n (pc' := 42) W d_jdk_35_method_15_41 rfl rfl ?_
                                    refine s_lmul (pc' := 43) W d_jdk_35_method_15_42 rfl ?_
                                    rw [show ((10 : Int64) * (-10000000000000000 : Int64)) = (-100000000000000000 : Int64) from by decide]
                                    refine s_lstore_n (pc' := 44) W #[.val (.long x), .second, iv (1 : Int32), .val (.long (-100000000000000000 : Int64)), .second, iv (16 : Int32)] d_jdk_35_method_15_43 rfl rfl ?_
                                    refine s_iinc (pc' := 47) W (1 : Int32) #[.val (.long x), .second, iv (1 : Int32), .val (.long (-100000000000000000 : Int64)), .second, iv ((16 : Int32) + (1 : Int32))] d_jdk_35_method_15_44 rfl rfl rfl rfl ?_
                                    rw [show ((16 : Int32) + (1 : Int32)) = (17 : Int32) from by decide]
                                    refine s_goto (pc' := 20) W d_jdk_35_method_15_47 (by decide) rfl ?_
                                    refine s_iload (pc' := 22) W d_jdk_35_method_15_20 rfl rfl ?_
                                    refine s_bipush (pc' := 24) W (19 : Int32) d_jdk_35_method_15_22 rfl rfl ?_
                                    refine s_icmpge (pc' := 27) (pcT := 50) W d_jdk_35_method_15_24 (by decide) rfl rfl (fun hq => absurd (by decide) hq) (fun _ => ?_)
                                    refine s_lload_n (pc' := 28) W d_jdk_35_method_15_27 rfl rfl ?_
                                    refine s_lload_n (pc' := 29) W d_jdk_35_method_15_28 rfl rfl ?_
                                    refine s_lcmp (pc' := 30) W d_jdk_35_method_15_29 rfl ?_
                                    refine s_iflle (pc' := 33) (pcT := 38) W d_jdk_35_method_15_30 (by decide) rfl rfl (fun hq => ?_) (fun hq => ?_)
                                    · have hr17 : 100000000000000000 ≤ x.toInt.natAbs := Nat.le_of_not_lt (fun r => hq ((ltNJ (P := 100000000000000000) hy rfl).mpr r))
                                      refine s_ldc2J (pc' := 41) W (w282 hw) d_jdk_35_method_15_38 rfl ?_
                                      refine s_lload_n (pc' := 42) W d_jdk_35_method_15_41 rfl rfl ?_
                                      refine s_lmul (pc' := 43) W d_jdk_35_method_15_42 rfl ?_
                                      rw [show ((10 : Int64) * (-100000000000000000 : Int64)) = (-1000000000000000000 : Int64) from by decide]
                                      refine s_lstore_n (pc' := 44) W #[.val (.long x), .second, iv (1 : Int32), .val (.long (-1000000000000000000 : Int64)), .second, iv (17 : Int32)] d_jdk_35_method_15_43 rfl rfl ?_
                                      refine s_iinc (pc' := 47) W (1 : Int32) #[.val (.long x), .second, iv (1 : Int32), .val (.long (-1000000000000000000 : Int64)), .second, iv ((17 : Int32) + (1 : Int32))] d_jdk_35_method_15_44 rfl rfl rfl rfl ?_
                                      rw [show ((17 : Int32) + (1 : Int32)) = (18 : Int32) from by decide]
                                      refine s_goto (pc' := 20) W d_jdk_35_method_15_47 (by decide) rfl ?_
                                      refine s_iload (pc' := 22) W d_jdk_35_method_15_20 rfl rfl ?_
                                      refine s_bipush (pc' := 24) W (19 : Int32) d_jdk_35_method_15_22 rfl rfl ?_
                                      refine s_icmpge (pc' := 27) (pcT := 50) W d_jdk_35_method_15_24 (by decide) rfl rfl (fun hq => absurd (by decide) hq) (fun _ => ?_)
                                      refine s_lload_n (pc' := 28) W d_jdk_35_method_15_27 rfl rfl ?_
                                      refine s_lload_n (pc' := 29) W d_jdk_35_method_15_28 rfl rfl ?_
                                      refine s_lcmp (pc' := 30) W d_jdk_35_method_15_29 rfl ?_
                                      refine s_iflle (pc' := 33) (pcT := 38) W d_jdk_35_method_15_30 (by decide) rfl rfl (fun hq => ?_) (fun hq => ?_)
                                      · have hr18 : 1000000000000000000 ≤ x.toInt.natAbs := Nat.le_of_not_lt (fun r => hq ((ltNJ (P := 1000000000000000000) hy rfl).mpr r))
                                        refine s_ldc2J (pc' := 41) W (w282 hw) d_jdk_35_method_15_38 rfl ?_
                                        refine s_lload_n (pc' := 42) W d_jdk_35_method_15_41 rfl rfl ?_
                                        refine s_lmul (pc' := 43) W d_jdk_35_method_15_42 rfl ?_
                                        rw [show ((10 : Int64) * (-1000000000000000000 : Int64)) = (-10000000000000000000 : Int64) from by decide]
                                        refine s_lstore_n (pc' := 44) W #[.val (.long x), .second, iv (1 : Int32), .val (.long (-10000000000000000000 : Int64)), .second, iv (18 : Int32)] d_jdk_35_method_15_43 rfl rfl ?_
                                        refine s_iinc (pc' := 47) W (1 : Int32) #[.val (.long x), .second, iv (1 : Int32), .val (.long (-10000000000000000000 : Int64)), .second, iv ((18 : Int32) + (1 : Int32))] d_jdk_35_method_15_44 rfl rfl rfl rfl ?_
                                        rw [show ((18 : Int32) + (1 : Int32)) = (19 : Int32) from by decide]
                                        refine s_goto (pc' := 20) W d_jdk_35_method_15_47 (by decide) rfl ?_
                                        refine s_iload (pc' := 22) W d_jdk_35_method_15_20 rfl rfl ?_
                                        refine s_bipush (pc' := 24) W (19 : Int32) d_jdk_35_method_15_22 rfl rfl ?_
                                        refine s_icmpge (pc' := 27) (pcT := 50) W d_jdk_35_method_15_24 (by decide) rfl rfl (fun _ => ?_) (fun hq => absurd hq (by decide))
                                        refine s_bipush (pc' := 52) W (19 : Int32) d_jdk_35_method_15_50 rfl rfl ?_
                                        refine s_iload_n (pc' := 53) W d_jdk_35_method_15_52 rfl rfl ?_
                                        refine s_iadd (pc' := 54) W d_jdk_35_method_15_53 rfl ?_
                                        rw [show ((19 : Int32) + (1 : Int32)) = (20 : Int32) from by decide]
                                        refine s_ireturn W rfl d_jdk_35_method_15_54 (bl rfl) (bl rfl) ?_
                                        intro vm' C'
                                        exact ⟨19, by rw [if_pos hx]; rfl, rfl, ⟨by decide, by show _ < 10000000000000000000; omega, Or.inr (by show 1000000000000000000 ≤ _; omega)⟩, by decide⟩
                                      · have hq2 := (ltNJ (P := 1000000000000000000) hy rfl).mp hq
                                        refine s_iload (pc' := 35) W d_jdk_35_method_15_33 rfl rfl ?_
                                        refine s_iload_n (pc' := 36) W d_jdk_35_method_15_35 rfl rfl ?_
                                        refine s_iadd (pc' := 37) W d_jdk_35_method_15_36 rfl ?_
                                        rw [show ((18 : Int32) + (1 : Int32)) = (19 : Int32) from by decide]
                                        refine s_ireturn W rfl d_jdk_35_method_15_37 (bl rfl) (bl rfl) ?_
                                        intro vm' C'
                                        exact ⟨18, by rw [if_pos hx]; rfl, rfl, ⟨by decide, by show _ < 1000000000000000000; omega, Or.inr (by show 100000000000000000 ≤ _; omega)⟩, by decide⟩
                                    · have hq2 := (ltNJ (P := 100000000000000000) hy rfl).mp hq
                                      refine s_iload (pc' := 35) W d_jdk_35_method_15_33 rfl rfl ?_
                                      refine s_iload_n (pc' := 36) W d_jdk_35_method_15_35 rfl rfl ?_
                                      refine s_iadd (pc' := 37) W d_jdk_35_method_15_36 rfl ?_
                                      rw [show ((17 : Int32) + (1 : Int32)) = (18 : Int32) from by decide]
                                      refine s_ireturn W rfl d_jdk_35_method_15_37 (bl rfl) (bl rfl) ?_
                                      intro vm' C'
                                      exact ⟨17, by rw [if_pos hx]; rfl, rfl, ⟨by decide, by show _ < 100000000000000000; omega, Or.inr (by show 10000000000000000 ≤ _; omega)⟩, by decide⟩
                                  · have hq2 := (ltNJ (P := 10000000000000000) hy rfl).mp hq
                                    refine s_iload (pc' := 35) W d_jdk_35_method_15_33 rfl rfl ?_
                                    refine s_iload_n (pc' := 36) W d_jdk_35_method_15_35 rfl rfl ?_
                                    refine s_iadd (pc' := 37) W d_jdk_35_method_15_36 rfl ?_
                                    rw [show ((16 : Int32) + (1 : Int32)) = (17 : Int32) from by decide]
                                    refine s_ireturn W rfl d_jdk_35_method_15_37 (bl rfl) (bl rfl) ?_
                                    intro vm' C'
                                    exact ⟨16, by rw [if_pos hx]; rfl, rfl, ⟨by decide, by show _ < 10000000000000000; omega, Or.inr (by show 1000000000000000 ≤ _; omega)⟩, by decide⟩
                                · have hq2 := (ltNJ (P := 1000000000000000) hy rfl).mp hq
                                  refine s_iload (pc' := 35) W d_jdk_35_method_15_33 rfl rfl ?_
                                  refine s_iload_n (pc' := 36) W d_jdk_35_method_15_35 rfl rfl ?_
                                  refine s_iadd (pc' := 37) W d_jdk_35_method_15_36 rfl ?_
                                  rw [show ((15 : Int32) + (1 : Int32)) = (16 : Int32) from by decide]
                                  refine s_ireturn W rfl d_jdk_35_method_15_37 (bl rfl) (bl rfl) ?_
                                  intro vm' C'
                                  exact ⟨15, by rw [if_pos hx]; rfl, rfl, ⟨by decide, by show _ < 1000000000000000; omega, Or.inr (by show 100000000000000 ≤ _; omega)⟩, by decide⟩
                              · have hq2 := (ltNJ (P := 100000000000000) hy rfl).mp hq
                                refine s_iload (pc' := 35) W d_jdk_35_method_15_33 rfl rfl ?_
                                refine s_iload_n (pc' := 36) W d_jdk_35_method_15_35 rfl rfl ?_
                                refine s_iadd (pc' := 37) W d_jdk_35_method_15_36 rfl ?_
                                rw [show ((14 : Int32) + (1 : Int32)) = (15 : Int32) from by decide]
                                refine s_ireturn W rfl d_jdk_35_method_15_37 (bl rfl) (bl rfl) ?_
                                intro vm' C'
                                exact ⟨14, by rw [if_pos hx]; rfl, rfl, ⟨by decide, by show _ < 100000000000000; omega, Or.inr (by show 10000000000000 ≤ _; omega)⟩, by decide⟩
                            · have hq2 := (ltNJ (P := 10000000000000) hy rfl).mp hq
                              refine s_iload (pc' := 35) W d_jdk_35_method_15_33 rfl rfl ?_
                              refine s_iload_n (pc' := 36) W d_jdk_35_method_15_35 rfl rfl ?_
                              refine s_iadd (pc' := 37) W d_jdk_35_method_15_36 rfl ?_
                              rw [show ((13 : Int32) + (1 : Int32)) = (14 : Int32) from by decide]
                              refine s_ireturn W rfl d_jdk_35_method_15_37 (bl rfl) (bl rfl) ?_
                              intro vm' C'
                              exact ⟨13, by rw [if_pos hx]; rfl, rfl, ⟨by decide, by show _ < 10000000000000; omega, Or.inr (by show 1000000000000 ≤ _; omega)⟩, by decide⟩
                          · have hq2 := (ltNJ (P := 1000000000000) hy rfl).mp hq
                            refine s_iload (pc' := 35) W d_jdk_35_method_15_33 rfl rfl ?_
                            refine s_iload_n (pc' := 36) W d_jdk_35_method_15_35 rfl rfl ?_
                            refine s_iadd (pc' := 37) W d_jdk_35_method_15_36 rfl ?_
                            rw [show ((12 : Int32) + (1 : Int32)) = (13 : Int32) from by decide]
                            refine s_ireturn W rfl d_jdk_35_method_15_37 (bl rfl) (bl rfl) ?_
                            intro vm' C'
                            exact ⟨12, by rw [if_pos hx]; rfl, rfl, ⟨by decide, by show _ < 1000000000000; omega, Or.inr (by show 100000000000 ≤ _; omega)⟩, by decide⟩
                        · have hq2 := (ltNJ (P := 100000000000) hy rfl).mp hq
                          refine s_iload (pc' := 35) W d_jdk_35_method_15_33 rfl rfl ?_
                          refine s_iload_n (pc' := 36) W d_jdk_35_method_15_35 rfl rfl ?_
                          refine s_iadd (pc' := 37) W d_jdk_35_method_15_36 rfl ?_
                          rw [show ((11 : Int32) + (1 : Int32)) = (12 : Int32) from by decide]
                          refine s_ireturn W rfl d_jdk_35_method_15_37 (bl rfl) (bl rfl) ?_
                          intro vm' C'
                          exact ⟨11, by rw [if_pos hx]; rfl, rfl, ⟨by decide, by show _ < 100000000000; omega, Or.inr (by show 10000000000 ≤ _; omega)⟩, by decide⟩
                      · have hq2 := (ltNJ (P := 10000000000) hy rfl).mp hq
                        refine s_iload (pc' := 35) W d_jdk_35_method_15_33 rfl rfl ?_
                        refine s_iload_n (pc' := 36) W d_jdk_35_method_15_35 rfl rfl ?_
                        refine s_iadd (pc' := 37) W d_jdk_35_method_15_36 rfl ?_
                        rw [show ((10 : Int32) + (1 : Int32)) = (11 : Int32) from by decide]
                        refine s_ireturn W rfl d_jdk_35_method_15_37 (bl rfl) (bl rfl) ?_
                        intro vm' C'
                        exact ⟨10, by rw [if_pos hx]; rfl, rfl, ⟨by decide, by show _ < 10000000000; omega, Or.inr (by show 1000000000 ≤ _; omega)⟩, by decide⟩
                    · have hq2 := (ltNJ (P := 1000000000) hy rfl).mp hq
                      refine s_iload (pc' := 35) W d_jdk_35_method_15_33 rfl rfl ?_
                      refine s_iload_n (pc' := 36) W d_jdk_35_method_15_35 rfl rfl ?_
                      refine s_iadd (pc' := 37) W d_jdk_35_method_15_36 rfl ?_
                      rw [show ((9 : Int32) + (1 : Int32)) = (10 : Int32) from by decide]
                      refine s_ireturn W rfl d_jdk_35_method_15_37 (bl rfl) (bl rfl) ?_
                      intro vm' C'
                      exact ⟨9, by rw [if_pos hx]; rfl, rfl, ⟨by decide, by show _ < 1000000000; omega, Or.inr (by show 100000000 ≤ _; omega)⟩, by decide⟩
                  · have hq2 := (ltNJ (P := 100000000) hy rfl).mp hq
                    refine s_iload (pc' := 35) W d_jdk_35_method_15_33 rfl rfl ?_
                    refine s_iload_n (pc' := 36) W d_jdk_35_method_15_35 rfl rfl ?_
                    refine s_iadd (pc' := 37) W d_jdk_35_method_15_36 rfl ?_
                    rw [show ((8 : Int32) + (1 : Int32)) = (9 : Int32) from by decide]
                    refine s_ireturn W rfl d_jdk_35_method_15_37 (bl rfl) (bl rfl) ?_
                    intro vm' C'
                    exact ⟨8, by rw [if_pos hx]; rfl, rfl, ⟨by decide, by show _ < 100000000; omega, Or.inr (by show 10000000 ≤ _; omega)⟩, by decide⟩
                · have hq2 := (ltNJ (P := 10000000) hy rfl).mp hq
                  refine s_iload (pc' := 35) W d_jdk_35_method_15_33 rfl rfl ?_
                  refine s_iload_n (pc' := 36) W d_jdk_35_method_15_35 rfl rfl ?_
                  refine s_iadd (pc' := 37) W d_jdk_35_method_15_36 rfl ?_
                  rw [show ((7 : Int32) + (1 : Int32)) = (8 : Int32) from by decide]
                  refine s_ireturn W rfl d_jdk_35_method_15_37 (bl rfl) (bl rfl) ?_
                  intro vm' C'
                  exact ⟨7, by rw [if_pos hx]; rfl, rfl, ⟨by decide, by show _ < 10000000; omega, Or.inr (by show 1000000 ≤ _; omega)⟩, by decide⟩
              · have hq2 := (ltNJ (P := 1000000) hy rfl).mp hq
                refine s_iload (pc' := 35) W d_jdk_35_method_15_33 rfl rfl ?_
                refine s_iload_n (pc' := 36) W d_jdk_35_method_15_35 rfl rfl ?_
                refine s_iadd (pc' := 37) W d_jdk_35_method_15_36 rfl ?_
                rw [show ((6 : Int32) + (1 : Int32)) = (7 : Int32) from by decide]
                refine s_ireturn W rfl d_jdk_35_method_15_37 (bl rfl) (bl rfl) ?_
                intro vm' C'
                exact ⟨6, by rw [if_pos hx]; rfl, rfl, ⟨by decide, by show _ < 1000000; omega, Or.inr (by show 100000 ≤ _; omega)⟩, by decide⟩
            · have hq2 := (ltNJ (P := 100000) hy rfl).mp hq
              refine s_iload (pc' := 35) W d_jdk_35_method_15_33 rfl rfl ?_
              refine s_iload_n (pc' := 36) W d_jdk_35_method_15_35 rfl rfl ?_
              refine s_iadd (pc' := 37) W d_jdk_35_method_15_36 rfl ?_
              rw [show ((5 : Int32) + (1 : Int32)) = (6 : Int32) from by decide]
              refine s_ireturn W rfl d_jdk_35_method_15_37 (bl rfl) (bl rfl) ?_
              intro vm' C'
              exact ⟨5, by rw [if_pos hx]; rfl, rfl, ⟨by decide, by show _ < 100000; omega, Or.inr (by show 10000 ≤ _; omega)⟩, by decide⟩
          · have hq2 := (ltNJ (P := 10000) hy rfl).mp hq
            refine s_iload (pc' := 35) W d_jdk_35_method_15_33 rfl rfl ?_
            refine s_iload_n (pc' := 36) W d_jdk_35_method_15_35 rfl rfl ?_
            refine s_iadd (pc' := 37) W d_jdk_35_method_15_36 rfl ?_
            rw [show ((4 : Int32) + (1 : Int32)) = (5 : Int32) from by decide]
            refine s_ireturn W rfl d_jdk_35_method_15_37 (bl rfl) (bl rfl) ?_
            intro vm' C'
            exact ⟨4, by rw [if_pos hx]; rfl, rfl, ⟨by decide, by show _ < 10000; omega, Or.inr (by show 1000 ≤ _; omega)⟩, by decide⟩
        · have hq2 := (ltNJ (P := 1000) hy rfl).mp hq
          refine s_iload (pc' := 35) W d_jdk_35_method_15_33 rfl rfl ?_
          refine s_iload_n (pc' := 36) W d_jdk_35_method_15_35 rfl rfl ?_
          refine s_iadd (pc' := 37) W d_jdk_35_method_15_36 rfl ?_
          rw [show ((3 : Int32) + (1 : Int32)) = (4 : Int32) from by decide]
          refine s_ireturn W rfl d_jdk_35_method_15_37 (bl rfl) (bl rfl) ?_
          intro vm' C'
          exact ⟨3, by rw [if_pos hx]; rfl, rfl, ⟨by decide, by show _ < 1000; omega, Or.inr (by show 100 ≤ _; omega)⟩, by decide⟩
      · have hq2 := (ltNJ (P := 100) hy rfl).mp hq
        refine s_iload (pc' := 35) W d_jdk_35_method_15_33 rfl rfl ?_
        refine s_iload_n (pc' := 36) W d_jdk_35_method_15_35 rfl rfl ?_
        refine s_iadd (pc' := 37) W d_jdk_35_method_15_36 rfl ?_
        rw [show ((2 : Int32) + (1 : Int32)) = (3 : Int32) from by decide]
        refine s_ireturn W rfl d_jdk_35_method_15_37 (bl rfl) (bl rfl) ?_
        intro vm' C'
        exact ⟨2, by rw [if_pos hx]; rfl, rfl, ⟨by decide, by show _ < 100; omega, Or.inr (by show 10 ≤ _; omega)⟩, by decide⟩
    · have hq2 := (ltNJ (P := 10) hy rfl).mp hq
      refine s_iload (pc' := 35) W d_jdk_35_method_15_33 rfl rfl ?_
      refine s_iload_n (pc' := 36) W d_jdk_35_method_15_35 rfl rfl ?_
      refine s_iadd (pc' := 37) W d_jdk_35_method_15_36 rfl ?_
      rw [show ((1 : Int32) + (1 : Int32)) = (2 : Int32) from by decide]
      refine s_ireturn W rfl d_jdk_35_method_15_37 (bl rfl) (bl rfl) ?_
      intro vm' C'
      exact ⟨1, by rw [if_pos hx]; rfl, rfl, ⟨by decide, by show _ < 10; omega, Or.inl rfl⟩, by decide⟩
  · have hb := rng64 x
    refine s_iconst (pc' := 9) W (0 : Int32) d_jdk_35_method_15_8 rfl rfl ?_
    refine s_istore_n (pc' := 10) W #[.val (.long x), .second, iv (0 : Int32), .unset, .unset, .unset] d_jdk_35_method_15_9 rfl rfl ?_
    refine s_lload_n (pc' := 11) W d_jdk_35_method_15_10 rfl rfl ?_
    refine s_lneg (pc' := 12) W d_jdk_35_method_15_11 rfl ?_
    have hy : (-x).toInt = -(x.toInt.natAbs : Int) := negJ (by have : ¬ x.toInt < (0 : Int64).toInt := fun q => hx ((Int64.lt_iff_toInt_lt (x := x) (y := 0)).mpr q); omega)
    refine s_lstore_n (pc' := 13) W #[.val (.long (-x)), .second, iv (0 : Int32), .unset, .unset, .unset] d_jdk_35_method_15_12 rfl rfl ?_
    refine s_ldc2J (pc' := 16) W (w131 hw) d_jdk_35_method_15_13 rfl ?_
    refine s_lstore_n (pc' := 17) W #[.val (.long (-x)), .second, iv (0 : Int32), .val (.long (-10 : Int64)), .second, .unset] d_jdk_35_method_15_16 rfl rfl ?_
    refine s_iconst (pc' := 18) W (1 : Int32) d_jdk_35_method_15_17 rfl rfl ?_
    refine s_istore (pc' := 20) W #[.val (.long (-x)), .second, iv (0 : Int32), .val (.long (-10 : Int64)), .second, iv (1 : Int32)] d_jdk_35_method_15_18 rfl rfl ?_
    refine s_iload (pc' := 22) W d_jdk_35_method_15_20 rfl rfl ?_
    refine s_bipush (pc' := 24) W (19 : Int32) d_jdk_35_method_15_22 rfl rfl ?_
    refine s_icmpge (pc' := 27) (pcT := 50) W d_jdk_35_method_15_24 (by decide) rfl rfl (fun hq => absurd (by decide) hq) (fun _ => ?_)
    refine s_lload_n (pc' := 28) W d_jdk_35_method_15_27 rfl rfl ?_
    refine s_lload_n (pc' := 29) W d_jdk_35_method_15_28 rfl rfl ?_
    refine s_lcmp (pc' := 30) W d_jdk_35_method_15_29 rfl ?_
    refine s_iflle (pc' := 33) (pcT := 38) W d_jdk_35_method_15_30 (by decide) rfl rfl (fun hq => ?_) (fun hq => ?_)
    · have hr1 : 10 ≤ x.toInt.natAbs := Nat.le_of_not_lt (fun r => hq ((ltNJ (P := 10) hy rfl).mpr r))
      refine s_ldc2J (pc' := 41) W (w282 hw) d_jdk_35_method_15_38 rfl ?_
      refine s_lload_n (pc' := 42) W d_jdk_35_method_15_41 rfl rfl ?_
      refine s_lmul (pc' := 43) W d_jdk_35_method_15_42 rfl ?_
      rw [show ((10 : Int64) * (-10 : Int64)) = (-100 : Int64) from by decide]
      refine s_lstore_n (pc' := 44) W #[.val (.long (-x)), .second, iv (0 : Int32), .val (.long (-100 : Int64)), .second, iv (1 : Int32)] d_jdk_35_method_15_43 rfl rfl ?_
      refine s_iinc (pc' := 47) W (1 : Int32) #[.val (.long (-x)), .second, iv (0 : Int32), .val (.long (-100 : Int64)), .second, iv ((1 : Int32) + (1 : Int32))] d_jdk_35_method_15_44 rfl rfl rfl rfl ?_
      rw [show ((1 : Int32) + (1 : Int32)) = (2 : Int32) from by decide]
      refine s_goto (pc' := 20) W d_jdk_35_method_15_47 (by decide) rfl ?_
      refine s_iload (pc' := 22) W d_jdk_35_method_15_20 rfl rfl ?_
      refine s_bipush (pc' := 24) W (19 : Int32) d_jdk_35_method_15_22 rfl rfl ?_
      refine s_icmpge (pc' := 27) (pcT := 50) W d_jdk_35_method_15_24 (by decide) rfl rfl (fun hq => absurd (by decide) hq) (fun _ => ?_)
      refine s_lload_n (pc' := 28) W d_jdk_35_method_15_27 rfl rfl ?_
      refine s_lload_n (pc' := 29) W d_jdk_35_method_15_28 rfl rfl ?_
      refine s_lcmp (pc' := 30) W d_jdk_35_method_15_29 rfl ?_
      refine s_iflle (pc' := 33) (pcT := 38) W d_jdk_35_method_15_30 (by decide) rfl rfl (fun hq => ?_) (fun hq => ?_)
      · have hr2 : 100 ≤ x.toInt.natAbs := Nat.le_of_not_lt (fun r => hq ((ltNJ (P := 100) hy rfl).mpr r))
        refine s_ldc2J (pc' := 41) W (w282 hw) d_jdk_35_method_15_38 rfl ?_
        refine s_lload_n (pc' := 42) W d_jdk_35_method_15_41 rfl rfl ?_
        refine s_lmul (pc' := 43) W d_jdk_35_method_15_42 rfl ?_
        rw [show ((10 : Int64) * (-100 : Int64)) = (-1000 : Int64) from by decide]
        refine s_lstore_n (pc' := 44) W #[.val (.long (-x)), .second, iv (0 : Int32), .val (.long (-1000 : Int64)), .second, iv (2 : Int32)] d_jdk_35_method_15_43 rfl rfl ?_
        refine s_iinc (pc' := 47) W (1 : Int32) #[.val (.long (-x)), .second, iv (0 : Int32), .val (.long (-1000 : Int64)), .second, iv ((2 : Int32) + (1 : Int32))] d_jdk_35_method_15_44 rfl rfl rfl rfl ?_
        rw [show ((2 : Int32) + (1 : Int32)) = (3 : Int32) from by decide]
        refine s_goto (pc' := 20) W d_jdk_35_method_15_47 (by decide) rfl ?_
        refine s_iload (pc' := 22) W d_jdk_35_method_15_20 rfl rfl ?_
        refine s_bipush (pc' := 24) W (19 : Int32) d_jdk_35_method_15_22 rfl rfl ?_
        refine s_icmpge (pc' := 27) (pcT := 50) W d_jdk_35_method_15_24 (by decide) rfl rfl (fun hq => absurd (by decide) hq) (fun _ => ?_)
        refine s_lload_n (pc' := 28) W d_jdk_35_method_15_27 rfl rfl ?_
        refine s_lload_n (pc' := 29) W d_jdk_35_method_15_28 rfl rfl ?_
        refine s_lcmp (pc' := 30) W d_jdk_35_method_15_29 rfl ?_
        refine s_iflle (pc' := 33) (pcT := 38) W d_jdk_35_method_15_30 (by decide) rfl rfl (fun hq => ?_) (fun hq => ?_)
        · have hr3 : 1000 ≤ x.toInt.natAbs := Nat.le_of_not_lt (fun r => hq ((ltNJ (P := 1000) hy rfl).mpr r))
          refine s_ldc2J (pc' := 41) W (w282 hw) d_jdk_35_method_15_38 rfl ?_
          refine s_lload_n (pc' := 42) W d_jdk_35_method_15_41 rfl rfl ?_
          refine s_lmul (pc' := 43) W d_jdk_35_method_15_42 rfl ?_
          rw [show ((10 : Int64) * (-1000 : Int64)) = (-10000 : Int64) from by decide]
          refine s_lstore_n (pc' := 44) W #[.val (.long (-x)), .second, iv (0 : Int32), .val (.long (-10000 : Int64)), .second, iv (3 : Int32)] d_jdk_35_method_15_43 rfl rfl ?_
          refine s_iinc (pc' := 47) W (1 : Int32) #[.val (.long (-x)), .second, iv (0 : Int32), .val (.long (-10000 : Int64)), .second, iv ((3 : Int32) + (1 : Int32))] d_jdk_35_method_15_44 rfl rfl rfl rfl ?_
          rw [show ((3 : Int32) + (1 : Int32)) = (4 : Int32) from by decide]
          refine s_goto (pc' := 20) W d_jdk_35_method_15_47 (by decide) rfl ?_
          refine s_iload (pc' := 22) W d_jdk_35_method_15_20 rfl rfl ?_
          refine s_bipush (pc' := 24) W (19 : Int32) d_jdk_35_method_15_22 rfl rfl ?_
          refine s_icmpge (pc' := 27) (pcT := 50) W d_jdk_35_method_15_24 (by decide) rfl rfl (fun hq => absurd (by decide) hq) (fun _ => ?_)
          refine s_lload_n (pc' := 28) W d_jdk_35_method_15_27 rfl rfl ?_
          refine s_lload_n (pc' := 29) W d_jdk_35_method_15_28 rfl rfl ?_
          refine s_lcmp (pc' := 30) W d_jdk_35_method_15_29 rfl ?_
          refine s_iflle (pc' := 33) (pcT := 38) W d_jdk_35_method_15_30 (by decide) rfl rfl (fun hq => ?_) (fun hq => ?_)
          · have hr4 : 10000 ≤ x.toInt.natAbs := Nat.le_of_not_lt (fun r => hq ((ltNJ (P := 10000) hy rfl).mpr r))
            refine s_ldc2J (pc' := 41) W (w282 hw) d_jdk_35_method_15_38 rfl ?_
            refine s_lload_n (pc' := 42) W d_jdk_35_method_15_41 rfl rfl ?_
            refine s_lmul (pc' := 43) W d_jdk_35_method_15_42 rfl ?_
            rw [show ((10 : Int64) * (-10000 : Int64)) = (-100000 : Int64) from by decide]
            refine s_lstore_n (pc' := 44) W #[.val (.long (-x)), .second, iv (0 : Int32), .val (.long (-100000 : Int64)), .second, iv (4 : Int32)] d_jdk_35_method_15_43 rfl rfl ?_
            refine s_iinc (pc' := 47) W (1 : Int32) #[.val (.long (-x)), .second, iv (0 : Int32), .val (.long (-100000 : Int64)), .second, iv ((4 : Int32) + (1 : Int32))] d_jdk_35_method_15_44 rfl rfl rfl rfl ?_
            rw [show ((4 : Int32) + (1 : Int32)) = (5 : Int32) from by decide]
            refine s_goto (pc' := 20) W d_jdk_35_method_15_47 (by decide) rfl ?_
            refine s_iload (pc' := 22) W d_jdk_35_method_15_20 rfl rfl ?_
            refine s_bipush (pc' := 24) W (19 : Int32) d_jdk_35_method_15_22 rfl rfl ?_
            refine s_icmpge (pc' := 27) (pcT := 50) W d_jdk_35_method_15_24 (by decide) rfl rfl (fun hq => absurd (by decide) hq) (fun _ => ?_)
            refine s_lload_n (pc' := 28) W d_jdk_35_method_15_27 rfl rfl ?_
            refine s_lload_n (pc' := 29) W d_jdk_35_method_15_28 rfl rfl ?_
            refine s_lcmp (pc' := 30) W d_jdk_35_method_15_29 rfl ?_
            refine s_iflle (pc' := 33) (pcT := 38) W d_jdk_35_method_15_30 (by decide) rfl rfl (fun hq => ?_) (fun hq => ?_)
            · have hr5 : 100000 ≤ x.toInt.natAbs := Nat.le_of_not_lt (fun r => hq ((ltNJ (P := 100000) hy rfl).mpr r))
              refine s_ldc2J (pc' := 41) W (w282 hw) d_jdk_35_method_15_38 rfl ?_
              refine s_lload_n (pc' := 42) W d_jdk_35_method_15_41 rfl rfl ?_
              refine s_lmul (pc' := 43) W d_jdk_35_method_15_42 rfl ?_
              rw [show ((10 : Int64) * (-100000 : Int64)) = (-1000000 : Int64) from by decide]
              refine s_lstore_n (pc' := 44) W #[.val (.long (-x)), .second, iv (0 : Int32), .val (.long (-1000000 : Int64)), .second, iv (5 : Int32)] d_jdk_35_method_15_43 rfl rfl ?_
              refine s_iinc (pc' := 47) W (1 : Int32) #[.val (.long (-x)), .second, iv (0 : Int32), .val (.long (-1000000 : Int64)), .second, iv ((5 : Int32) + (1 : Int32))] d_jdk_35_method_15_44 rfl rfl rfl rfl ?_
              rw [show ((5 : Int32) + (1 : Int32)) = (6 : Int32) from by decide]
              refine s_goto (pc' := 20) W d_jdk_35_method_15_47 (by decide) rfl ?_
              refine s_iload (pc' := 22) W d_jdk_35_method_15_20 rfl rfl ?_
              refine s_bipush (pc' := 24) W (19 : Int32) d_jdk_35_method_15_22 rfl rfl ?_
              refine s_icmpge (pc' := 27) (pcT := 50) W d_jdk_35_method_15_24 (by decide) rfl rfl (fun hq => absurd (by decide) hq) (fun _ => ?_)
              refine s_lload_n (pc' := 28) W d_jdk_35_method_15_27 rfl rfl ?_
              refine s_lload_n (pc' := 29) W d_jdk_35_method_15_28 rfl rfl ?_
              refine s_lcmp (pc' := 30) W d_jdk_35_method_15_29 rfl ?_
              refine s_iflle (pc' := 33) (pcT := 38) W d_jdk_35_method_15_30 (by decide) rfl rfl (fun hq => ?_) (fun hq => ?_)
              · have hr6 : 1000000 ≤ x.toInt.natAbs := Nat.le_of_not_lt (fun r => hq ((ltNJ (P := 1000000) hy rfl).mpr r))
                refine s_ldc2J (pc' := 41) W (w282 hw) d_jdk_35_method_15_38 rfl ?_
                refine s_lload_n (pc' := 42) W d_jdk_35_method_15_41 rfl rfl ?_
                refine s_lmul (pc' := 43) W d_jdk_35_method_15_42 rfl ?_
                rw [show ((10 : Int64) * (-1000000 : Int64)) = (-10000000 : Int64) from by decide]
                refine s_lstore_n (pc' := 44) W #[.val (.long (-x)), .second, iv (0 : Int32), .val (.long (-10000000 : Int64)), .second, iv (6 : Int32)] d_jdk_35_method_15_43 rfl rfl ?_
                refine s_iinc (pc' := 47) W (1 : Int32) #[.val (.long (-x)), .second, iv (0 : Int32), .val (.long (-10000000 : Int64)), .second, iv ((6 : Int32) + (1 : Int32))] d_jdk_35_method_15_44 rfl rfl rfl rfl ?_
                rw [show ((6 : Int32) + (1 : Int32)) = (7 : Int32) from by decide]
                refine s_goto (pc' := 20) W d_jdk_35_method_15_47 (by decide) rfl ?_
                refine s_iload (pc' := 22) W d_jdk_35_method_15_20 rfl rfl ?_
                refine s_bipush (pc' := 24) W (19 : Int32) d_jdk_35_method_15_22 rfl rfl ?_
                refine s_icmpge (pc' := 27) (pcT := 50) W d_jdk_35_method_15_24 (by decide) rfl rfl (fun hq => absurd (by decide) hq) (fun _ => ?_)
                refine s_lload_n (pc' := 28) W d_jdk_35_method_15_27 rfl rfl ?_
                refine s_lload_n (pc' := 29) W d_jdk_35_method_15_28 rfl rfl ?_
                refine s_lcmp (pc' := 30) W d_jdk_35_method_15_29 rfl ?_
                refine s_iflle (pc' := 33) (pcT := 38) W d_jdk_35_method_15_30 (by decide) rfl rfl (fun hq => ?_) (fun hq => ?_)
                · have hr7 : 10000000 ≤ x.toInt.natAbs := Nat.le_of_not_lt (fun r => hq ((ltNJ (P := 10000000) hy rfl).mpr r))
                  refine s_ldc2J (pc' := 41) W (w282 hw) d_jdk_35_method_15_38 rfl ?_
                  refine s_lload_n (pc' := 42) W d_jdk_35_method_15_41 rfl rfl ?_
                  refine s_lmul (pc' := 43) W d_jdk_35_method_15_42 rfl ?_
                  rw [show ((10 : Int64) * (-10000000 : Int64)) = (-100000000 : Int64) from by decide]
                  refine s_lstore_n (pc' := 44) W #[.val (.long (-x)), .second, iv (0 : Int32), .val (.long (-100000000 : Int64)), .second, iv (7 : Int32)] d_jdk_35_method_15_43 rfl rfl ?_
                  refine s_iinc (pc' := 47) W (1 : Int32) #[.val (.long (-x)), .second, iv (0 : Int32), .val (.long (-100000000 : Int64)), .second, iv ((7 : Int32) + (1 : Int32))] d_jdk_35_method_15_44 rfl rfl rfl rfl ?_
                  rw [show ((7 : Int32) + (1 : Int32)) = (8 : Int32) from by decide]
                  refine s_goto (pc' := 20) W d_jdk_35_method_15_47 (by decide) rfl ?_
                  refine s_iload (pc' := 22) W d_jdk_35_method_15_20 rfl rfl ?_
                  refine s_bipush (pc' := 24) W (19 : Int32) d_jdk_35_method_15_22 rfl rfl ?_
                  refine s_icmpge (pc' := 27) (pcT := 50) W d_jdk_35_method_15_24 (by decide) rfl rfl (fun hq => absurd (by decide) hq) (fun _ => ?_)
                  refine s_lload_n (pc' := 28) W d_jdk_35_method_15_27 rfl rfl ?_
                  refine s_lload_n (pc' := 29) W d_jdk_35_method_15_28 rfl rfl ?_
                  refine s_lcmp (pc' := 30) W d_jdk_35_method_15_29 rfl ?_
                  refine s_iflle (pc' := 33) (pcT := 38) W d_jdk_35_method_15_30 (by decide) rfl rfl (fun hq => ?_) (fun hq => ?_)
                  · have hr8 : 100000000 ≤ x.toInt.natAbs := Nat.le_of_not_lt (fun r => hq ((ltNJ (P := 100000000) hy rfl).mpr r))
                    refine s_ldc2J (pc' := 41) W (w282 hw) d_jdk_35_method_15_38 rfl ?_
                    refine s_lload_n (pc' := 42) W d_jdk_35_method_15_41 rfl rfl ?_
                    refine s_lmul (pc' := 43) W d_jdk_35_method_15_42 rfl ?_
                    rw [show ((10 : Int64) * (-100000000 : Int64)) = (-1000000000 : Int64) from by decide]
                    refine s_lstore_n (pc' := 44) W #[.val (.long (-x)), .second, iv (0 : Int32), .val (.long (-1000000000 : Int64)), .second, iv (8 : Int32)] d_jdk_35_method_15_43 rfl rfl ?_
                    refine s_iinc (pc' := 47) W (1 : Int32) #[.val (.long (-x)), .second, iv (0 : Int32), .val (.long (-1000000000 : Int64)), .second, iv ((8 : Int32) + (1 : Int32))] d_jdk_35_method_15_44 rfl rfl rfl rfl ?_
                    rw [show ((8 : Int32) + (1 : Int32)) = (9 : Int32) from by decide]
                    refine s_goto (pc' := 20) W d_jdk_35_method_15_47 (by decide) rfl ?_
                    refine s_iload (pc' := 22) W d_jdk_35_method_15_20 rfl rfl ?_
                    refine s_bipush (pc' := 24) W (19 : Int32) d_jdk_35_method_15_22 rfl rfl ?_
                    refine s_icmpge (pc' := 27) (pcT := 50) W d_jdk_35_method_15_24 (by decide) rfl rfl (fun hq => absurd (by decide) hq) (fun _ => ?_)
                    refine s_lload_n (pc' := 28) W d_jdk_35_method_15_27 rfl rfl ?_
                    refine s_lload_n (pc' := 29) W d_jdk_35_method_15_28 rfl rfl ?_
                    refine s_lcmp (pc' := 30) W d_jdk_35_method_15_29 rfl ?_
                    refine s_iflle (pc' := 33) (pcT := 38) W d_jdk_35_method_15_30 (by decide) rfl rfl (fun hq => ?_) (fun hq => ?_)
                    · have hr9 : 1000000000 ≤ x.toInt.natAbs := Nat.le_of_not_lt (fun r => hq ((ltNJ (P := 1000000000) hy rfl).mpr r))
                      refine s_ldc2J (pc' := 41) W (w282 hw) d_jdk_35_method_15_38 rfl ?_
                      refine s_lload_n (pc' := 42) W d_jdk_35_method_15_41 rfl rfl ?_
                      refine s_lmul (pc' := 43) W d_jdk_35_method_15_42 rfl ?_
                      rw [show ((10 : Int64) * (-1000000000 : Int64)) = (-10000000000 : Int64) from by decide]
                      refine s_lstore_n (pc' := 44) W #[.val (.long (-x)), .second, iv (0 : Int32), .val (.long (-10000000000 : Int64)), .second, iv (9 : Int32)] d_jdk_35_method_15_43 rfl rfl ?_
                      refine s_iinc (pc' := 47) W (1 : Int32) #[.val (.long (-x)), .second, iv (0 : Int32), .val (.long (-10000000000 : Int64)), .second, iv ((9 : Int32) + (1 : Int32))] d_jdk_35_method_15_44 rfl rfl rfl rfl ?_
                      rw [show ((9 : Int32) + (1 : Int32)) = (10 : Int32) from by decide]
                      refine s_goto (pc' := 20) W d_jdk_35_method_15_47 (by decide) rfl ?_
                      refine s_iload (pc' := 22) W d_jdk_35_method_15_20 rfl rfl ?_
                      refine s_bipush (pc' := 24) W (19 : Int32) d_jdk_35_method_15_22 rfl rfl ?_
                      refine s_icmpge (pc' := 27) (pcT := 50) W d_jdk_35_method_15_24 (by decide) rfl rfl (fun hq => absurd (by decide) hq) (fun _ => ?_)
                      refine s_lload_n (pc' := 28) W d_jdk_35_method_15_27 rfl rfl ?_
                      refine s_lload_n (pc' := 29) W d_jdk_35_method_15_28 rfl rfl ?_
                      refine s_lcmp (pc' := 30) W d_jdk_35_method_15_29 rfl ?_
                      refine s_iflle (pc' := 33) (pcT := 38) W d_jdk_35_method_15_30 (by decide) rfl rfl (fun hq => ?_) (fun hq => ?_)
                      · have hr10 : 10000000000 ≤ x.toInt.natAbs := Nat.le_of_not_lt (fun r => hq ((ltNJ (P := 10000000000) hy rfl).mpr r))
                        refine s_ldc2J (pc' := 41) W (w282 hw) d_jdk_35_method_15_38 rfl ?_
                        refine s_lload_n (pc' := 42) W d_jdk_35_method_15_41 rfl rfl ?_
                        refine s_lmul (pc' := 43) W d_jdk_35_method_15_42 rfl ?_
                        rw [show ((10 : Int64) * (-10000000000 : Int64)) = (-100000000000 : Int64) from by decide]
                        refine s_lstore_n (pc' := 44) W #[.val (.long (-x)), .second, iv (0 : Int32), .val (.long (-100000000000 : Int64)), .second, iv (10 : Int32)] d_jdk_35_method_15_43 rfl rfl ?_
                        refine s_iinc (pc' := 47) W (1 : Int32) #[.val (.long (-x)), .second, iv (0 : Int32), .val (.long (-100000000000 : Int64)), .second, iv ((10 : Int32) + (1 : Int32))] d_jdk_35_method_15_44 rfl rfl rfl rfl ?_
                        rw [show ((10 : Int32) + (1 : Int32)) = (11 : Int32) from by decide]
                        refine s_goto (pc' := 20) W d_jdk_35_method_15_47 (by decide) rfl ?_
                        refine s_iload (pc' := 22) W d_jdk_35_method_15_20 rfl rfl ?_
                        refine s_bipush (pc' := 24) W (19 : Int32) d_jdk_35_method_15_22 rfl rfl ?_
                        refine s_icmpge (pc' := 27) (pcT := 50) W d_jdk_35_method_15_24 (by decide) rfl rfl (fun hq => absurd (by decide) hq) (fun _ => ?_)
                        refine s_lload_n (pc' := 28) W d_jdk_35_method_15_27 rfl rfl ?_
                        refine s_lload_n (pc' := 29) W d_jdk_35_method_15_28 rfl rfl ?_
                        refine s_lcmp (pc' := 30) W d_jdk_35_method_15_29 rfl ?_
                        refine s_iflle (pc' := 33) (pcT := 38) W d_jdk_35_method_15_30 (by decide) rfl rfl (fun hq => ?_) (fun hq => ?_)
                        · have hr11 : 100000000000 ≤ x.toInt.natAbs := Nat.le_of_not_lt (fun r => hq ((ltNJ (P := 100000000000) hy rfl).mpr r))
                          refine s_ldc2J (pc' := 41) W (w282 hw) d_jdk_35_method_15_38 rfl ?_
                          refine s_lload_n (pc' := 42) W d_jdk_35_method_15_41 rfl rfl ?_
                          refine s_lmul (pc' := 43) W d_jdk_35_method_15_42 rfl ?_
                          rw [show ((10 : Int64) * (-100000000000 : Int64)) = (-1000000000000 : Int64) from by decide]
                          refine s_lstore_n (pc' := 44) W #[.val (.long (-x)), .second, iv (0 : Int32), .val (.long (-1000000000000 : Int64)), .second, iv (11 : Int32)] d_jdk_35_method_15_43 rfl rfl ?_
                          refine s_iinc (pc' := 47) W (1 : Int32) #[.val (.long (-x)), .second, iv (0 : Int32), .val (.long (-1000000000000 : Int64)), .second, iv ((11 : Int32) + (1 : Int32))] d_jdk_35_method_15_44 rfl rfl rfl rfl ?_
                          rw [show ((11 : Int32) + (1 : Int32)) = (12 : Int32) from by decide]
                          refine s_goto (pc' := 20) W d_jdk_35_method_15_47 (by decide) rfl ?_
                          refine s_iload (pc' := 22) W d_jdk_35_method_15_20 rfl rfl ?_
                          refine s_bipush (pc' := 24) W (19 : Int32) d_jdk_35_method_15_22 rfl rfl ?_
                          refine s_icmpge (pc' := 27) (pcT := 50) W d_jdk_35_method_15_24 (by decide) rfl rfl (fun hq => absurd (by decide) hq) (fun _ => ?_)
                          refine s_lload_n (pc' := 28) W d_jdk_35_method_15_27 rfl rfl ?_
                          refine s_lload_n (pc' := 29) W d_jdk_35_method_15_28 rfl rfl ?_
                          refine s_lcmp (pc' := 30) W d_jdk_35_method_15_29 rfl ?_
                          refine s_iflle (pc' := 33) (pcT := 38) W d_jdk_35_method_15_30 (by decide) rfl rfl (fun hq => ?_) (fun hq => ?_)
                          · have hr12 : 1000000000000 ≤ x.toInt.natAbs := Nat.le_of_not_lt (fun r => hq ((ltNJ (P := 1000000000000) hy rfl).mpr r))
                            refine s_ldc2J (pc' := 41) W (w282 hw) d_jdk_35_method_15_38 rfl ?_
                            refine s_lload_n (pc' := 42) W d_jdk_35_method_15_41 rfl rfl ?_
                            refine s_lmul (pc' := 43) W d_jdk_35_method_15_42 rfl ?_
                            rw [show ((10 : Int64) * (-1000000000000 : Int64)) = (-10000000000000 : Int64) from by decide]
                            refine s_lstore_n (pc' := 44) W #[.val (.long (-x)), .second, iv (0 : Int32), .val (.long (-10000000000000 : Int64)), .second, iv (12 : Int32)] d_jdk_35_method_15_43 rfl rfl ?_
                            refine s_iinc (pc' := 47) W (1 : Int32) #[.val (.long (-x)), .second, iv (0 : Int32), .val (.long (-10000000000000 : Int64)), .second, iv ((12 : Int32) + (1 : Int32))] d_jdk_35_method_15_44 rfl rfl rfl rfl ?_
                            rw [show ((12 : Int32) + (1 : Int32)) = (13 : Int32) from by decide]
                            refine s_goto (pc' := 20) W d_jdk_35_method_15_47 (by decide) rfl ?_
                            refine s_iload (pc' := 22) W d_jdk_35_method_15_20 rfl rfl ?_
                            refine s_bipush (pc' := 24) W (19 : Int32) d_jdk_35_method_15_22 rfl rfl ?_
                            refine s_icmpge (pc' := 27) (pcT := 50) W d_jdk_35_method_15_24 (by decide) rfl rfl (fun hq => absurd (by decide) hq) (fun _ => ?_)
                            refine s_lload_n (pc' := 28) W d_jdk_35_method_15_27 rfl rfl ?_
                            refine s_lload_n (pc' := 29) W d_jdk_35_method_15_28 rfl rfl ?_
                            refine s_lcmp (pc' := 30) W d_jdk_35_method_15_29 rfl ?_
                            refine s_iflle (pc' := 33) (pcT := 38) W d_jdk_35_method_15_30 (by decide) rfl rfl (fun hq => ?_) (fun hq => ?_)
                            · have hr13 : 10000000000000 ≤ x.toInt.natAbs := Nat.le_of_not_lt (fun r => hq ((ltNJ (P := 10000000000000) hy rfl).mpr r))
                              refine s_ldc2J (pc' := 41) W (w282 hw) d_jdk_35_method_15_38 rfl ?_
                              refine s_lload_n (pc' := 42) W d_jdk_35_method_15_41 rfl rfl ?_
                              refine s_lmul (pc' := 43) W d_jdk_35_method_15_42 rfl ?_
                              rw [show ((10 : Int64) * (-10000000000000 : Int64)) = (-100000000000000 : Int64) from by decide]
                              refine s_lstore_n (pc' := 44) W #[.val (.long (-x)), .second, iv (0 : Int32), .val (.long (-100000000000000 : Int64)), .second, iv (13 : Int32)] d_jdk_35_method_15_43 rfl rfl ?_
                              refine s_iinc (pc' := 47) W (1 : Int32) #[.val (.long (-x)), .second, iv (0 : Int32), .val (.long (-100000000000000 : Int64)), .second, iv ((13 : Int32) + (1 : Int32))] d_jdk_35_method_15_44 rfl rfl rfl rfl ?_
                              rw [show ((13 : Int32) + (1 : Int32)) = (14 : Int32) from by decide]
                              refine s_goto (pc' := 20) W d_jdk_35_method_15_47 (by decide) rfl ?_
                              refine s_iload (pc' := 22) W d_jdk_35_method_15_20 rfl rfl ?_
                              refine s_bipush (pc' := 24) W (19 : Int32) d_jdk_35_method_15_22 rfl rfl ?_
                              refine s_icmpge (pc' := 27) (pcT := 50) W d_jdk_35_method_15_24 (by decide) rfl rfl (fun hq => absurd (by decide) hq) (fun _ => ?_)
                              refine s_lload_n (pc' := 28) W d_jdk_35_method_15_27 rfl rfl ?_
                              refine s_lload_n (pc' := 29) W d_jdk_35_method_15_28 rfl rfl ?_
                              refine s_lcmp (pc' := 30) W d_jdk_35_method_15_29 rfl ?_
                              refine s_iflle (pc' := 33) (pcT := 38) W d_jdk_35_method_15_30 (by decide) rfl rfl (fun hq => ?_) (fun hq => ?_)
                              · have hr14 : 100000000000000 ≤ x.toInt.natAbs := Nat.le_of_not_lt (fun r => hq ((ltNJ (P := 100000000000000) hy rfl).mpr r))
                                refine s_ldc2J (pc' := 41) W (w282 hw) d_jdk_35_method_15_38 rfl ?_
                                refine s_lload_n (pc' := 42) W d_jdk_35_method_15_41 rfl rfl ?_
                                refine s_lmul (pc' := 43) W d_jdk_35_method_15_42 rfl ?_
                                rw [show ((10 : Int64) * (-100000000000000 : Int64)) = (-1000000000000000 : Int64) from by decide]
                                refine s_lstore_n (pc' := 44) W #[.val (.long (-x)), .second, iv (0 : Int32), .val (.long (-1000000000000000 : Int64)), .second, iv (14 : Int32)] d_jdk_35_method_15_43 rfl rfl ?_
                                refine s_iinc (pc' := 47) W (1 : Int32) #[.val (.long (-x)), .second, iv (0 : Int32), .val (.long (-1000000000000000 : Int64)), .second, iv ((14 : Int32) + (1 : Int32))] d_jdk_35_method_15_44 rfl rfl rfl rfl ?_
                                rw [show ((14 : Int32) + (1 : Int32)) = (15 : Int32) from by decide]
                                refine s_goto (pc' := 20) W d_jdk_35_method_15_47 (by decide) rfl ?_
                                refine s_iload (pc' := 22) W d_jdk_35_method_15_20 rfl rfl ?_
                                refine s_bipush (pc' := 24) W (19 : Int32) d_jdk_35_method_15_22 rfl rfl ?_
                                refine s_icmpge (pc' := 27) (pcT := 50) W d_jdk_35_method_15_24 (by decide) rfl rfl (fun hq => absurd (by decide) hq) (fun _ => ?_)
                                refine s_lload_n (pc' := 28) W d_jdk_35_method_15_27 rfl rfl ?_
                                refine s_lload_n (pc' := 29) W d_jdk_35_method_15_28 rfl rfl ?_
                                refine s_lcmp (pc' := 30) W d_jdk_35_method_15_29 rfl ?_
                                refine s_iflle (pc' := 33) (pcT := 38) W d_jdk_35_method_15_30 (by decide) rfl rfl (fun hq => ?_) (fun hq => ?_)
                                · have hr15 : 1000000000000000 ≤ x.toInt.natAbs := Nat.le_of_not_lt (fun r => hq ((ltNJ (P := 1000000000000000) hy rfl).mpr r))
                                  refine s_ldc2J (pc' := 41) W (w282 hw) d_jdk_35_method_15_38 rfl ?_
                                  refine s_lload_n (pc' := 42) W d_jdk_35_method_15_41 rfl rfl ?_
                                  refine s_lmul (pc' := 43) W d_jdk_35_method_15_42 rfl ?_
                                  rw [show ((10 : Int64) * (-1000000000000000 : Int64)) = (-10000000000000000 : Int64) from by decide]
                                  refine s_lstore_n (pc' := 44) W #[.val (.long (-x)), .second, iv (0 : Int32), .val (.long (-10000000000000000 : Int64)), .second, iv (15 : Int32)] d_jdk_35_method_15_43 rfl rfl ?_
                                  refine s_iinc (pc' := 47) W (1 : Int32) #[.val (.long (-x)), .second, iv (0 : Int32), .val (.long (-10000000000000000 : Int64)), .second, iv ((15 : Int32) + (1 : Int32))] d_jdk_35_method_15_44 rfl rfl rfl rfl ?_
                                  rw [show ((15 : Int32) + (1 : Int32)) = (16 : Int32) from by decide]
                                  refine s_goto (pc' := 20) W d_jdk_35_method_15_47 (by decide) rfl ?_
                                  refine s_iload (pc' := 22) W d_jdk_35_method_15_20 rfl rfl ?_
                                  refine s_bipush (pc' := 24) W (19 : Int32) d_jdk_35_method_15_22 rfl rfl ?_
                                  refine s_icmpge (pc' := 27) (pcT := 50) W d_jdk_35_method_15_24 (by decide) rfl rfl (fun hq => absurd (by decide) hq) (fun _ => ?_)
                                  refine s_lload_n (pc' := 28) W d_jdk_35_method_15_27 rfl rfl ?_
                                  refine s_lload_n (pc' := 29) W d_jdk_35_method_15_28 rfl rfl ?_
                                  refine s_lcmp (pc' := 30) W d_jdk_35_method_15_29 rfl ?_
                                  refine s_iflle (pc' := 33) (pcT := 38) W d_jdk_35_method_15_30 (by decide) rfl rfl (fun hq => ?_) (fun hq => ?_)
                                  · have hr16 : 10000000000000000 ≤ x.toInt.natAbs := Nat.le_of_not_lt (fun r => hq ((ltNJ (P := 10000000000000000) hy rfl).mpr r))
                                    refine s_ldc2J (pc' := 41) W (w282 hw) d_jdk_35_method_15_38 rfl ?_
                                    refine s_lload_n (pc' := 42) W d_jdk_35_method_15_41 rfl rfl ?_
                                    refine s_lmul (pc' := 43) W d_jdk_35_method_15_42 rfl ?_
                                    rw [show ((10 : Int64) * (-10000000000000000 : Int64)) = (-100000000000000000 : Int64) from by decide]
                                    refine s_lstore_n (pc' := 44) W #[.val (.long (-x)), .second, iv (0 : Int32), .val (.long (-100000000000000000 : Int64)), .second, iv (16 : Int32)] d_jdk_35_method_15_43 rfl rfl ?_
                                    refine s_iinc (pc' := 47) W (1 : Int32) #[.val (.long (-x)), .second, iv (0 : Int32), .val (.long (-100000000000000000 : Int64)), .second, iv ((16 : Int32) + (1 : Int32))] d_jdk_35_method_15_44 rfl rfl rfl rfl ?_
                                    rw [show ((16 : Int32) + (1 : Int32)) = (17 : Int32) from by decide]
                                    refine s_goto (pc' := 20) W d_jdk_35_method_15_47 (by decide) rfl ?_
                                    refine s_iload (pc' := 22) W d_jdk_35_method_15_20 rfl rfl ?_
                                    refine s_bipush (pc' := 24) W (19 : Int32) d_jdk_35_method_15_22 rfl rfl ?_
                                    refine s_icmpge (pc' := 27) (pcT := 50) W d_jdk_35_method_15_24 (by decide) rfl rfl (fun hq => absurd (by decide) hq) (fun _ => ?_)
                                    refine s_lload_n (pc' := 28) W d_jdk_35_method_15_27 rfl rfl ?_
                                    refine s_lload_n (pc' := 29) W d_jdk_35_method_15_28 rfl rfl ?_
                                    refine s_lcmp (pc' := 30) W d_jdk_35_method_15_29 rfl ?_
                                    refine s_iflle (pc' := 33) (pcT := 38) W d_jdk_35_method_15_30 (by decide) rfl rfl (fun hq => ?_) (fun hq => ?_)
                                    · have hr17 : 100000000000000000 ≤ x.toInt.natAbs := Nat.le_of_not_lt (fun r => hq ((ltNJ (P := 100000000000000000) hy rfl).mpr r))
                                      refine s_ldc2J (pc' := 41) W (w282 hw) d_jdk_35_method_15_38 rfl ?_
                                      refine s_lload_n (pc' := 42) W d_jdk_35_method_15_41 rfl rfl ?_
                                      refine s_lmul (pc' := 43) W d_jdk_35_method_15_42 rfl ?_
                                      rw [show ((10 : Int64) * (-100000000000000000 : Int64)) = (-1000000000000000000 : Int64) from by decide]
                                      refine s_lstore_n (pc' := 44) W #[.val (.long (-x)), .second, iv (0 : Int32), .val (.long (-1000000000000000000 : Int64)), .second, iv (17 : Int32)] d_jdk_35_method_15_43 rfl rfl ?_
                                      refine s_iinc (pc' := 47) W (1 : Int32) #[.val (.long (-x)), .second, iv (0 : Int32), .val (.long (-1000000000000000000 : Int64)), .second, iv ((17 : Int32) + (1 : Int32))] d_jdk_35_method_15_44 rfl rfl rfl rfl ?_
                                      rw [show ((17 : Int32) + (1 : Int32)) = (18 : Int32) from by decide]
                                      refine s_goto (pc' := 20) W d_jdk_35_method_15_47 (by decide) rfl ?_
                                      refine s_iload (pc' := 22) W d_jdk_35_method_15_20 rfl rfl ?_
                                      refine s_bipush (pc' := 24) W (19 : Int32) d_jdk_35_method_15_22 rfl rfl ?_
                                      refine s_icmpge (pc' := 27) (pcT := 50) W d_jdk_35_method_15_24 (by decide) rfl rfl (fun hq => absurd (by decide) hq) (fun _ => ?_)
                                      refine s_lload_n (pc' := 28) W d_jdk_35_method_15_27 rfl rfl ?_
                                      refine s_lload_n (pc' := 29) W d_jdk_35_method_15_28 rfl rfl ?_
                                      refine s_lcmp (pc' := 30) W d_jdk_35_method_15_29 rfl ?_
                                      refine s_iflle (pc' := 33) (pcT := 38) W d_jdk_35_method_15_30 (by decide) rfl rfl (fun hq => ?_) (fun hq => ?_)
                                      · have hr18 : 1000000000000000000 ≤ x.toInt.natAbs := Nat.le_of_not_lt (fun r => hq ((ltNJ (P := 1000000000000000000) hy rfl).mpr r))
                                        refine s_ldc2J (pc' := 41) W (w282 hw) d_jdk_35_method_15_38 rfl ?_
                                        refine s_lload_n (pc' := 42) W d_jdk_35_method_15_41 rfl rfl ?_
                                        refine s_lmul (pc' := 43) W d_jdk_35_method_15_42 rfl ?_
                                        rw [show ((10 : Int64) * (-1000000000000000000 : Int64)) = (-10000000000000000000 : Int64) from by decide]
                                        refine s_lstore_n (pc' := 44) W #[.val (.long (-x)), .second, iv (0 : Int32), .val (.long (-10000000000000000000 : Int64)), .second, iv (18 : Int32)] d_jdk_35_method_15_43 rfl rfl ?_
                                        refine s_iinc (pc' := 47) W (1 : Int32) #[.val (.long (-x)), .second, iv (0 : Int32), .val (.long (-10000000000000000000 : Int64)), .second, iv ((18 : Int32) + (1 : Int32))] d_jdk_35_method_15_44 rfl rfl rfl rfl ?_
                                        rw [show ((18 : Int32) + (1 : Int32)) = (19 : Int32) from by decide]
                                        refine s_goto (pc' := 20) W d_jdk_35_method_15_47 (by decide) rfl ?_
                                        refine s_iload (pc' := 22) W d_jdk_35_method_15_20 rfl rfl ?_
                                        refine s_bipush (pc' := 24) W (19 : Int32) d_jdk_35_method_15_22 rfl rfl ?_
                                        refine s_icmpge (pc' := 27) (pcT := 50) W d_jdk_35_method_15_24 (by decide) rfl rfl (fun _ => ?_) (fun hq => absurd hq (by decide))
                                        refine s_bipush (pc' := 52) W (19 : Int32) d_jdk_35_method_15_50 rfl rfl ?_
                                        refine s_iload_n (pc' := 53) W d_jdk_35_method_15_52 rfl rfl ?_
                                        refine s_iadd (pc' := 54) W d_jdk_35_method_15_53 rfl ?_
                                        rw [show ((19 : Int32) + (0 : Int32)) = (19 : Int32) from by decide]
                                        refine s_ireturn W rfl d_jdk_35_method_15_54 (bl rfl) (bl rfl) ?_
                                        intro vm' C'
                                        exact ⟨19, by rw [if_neg hx]; rfl, rfl, ⟨by decide, by show _ < 10000000000000000000; omega, Or.inr (by show 1000000000000000000 ≤ _; omega)⟩, by decide⟩
                                      · have hq2 := (ltNJ (P := 1000000000000000000) hy rfl).mp hq
                                        refine s_iload (pc' := 35) W d_jdk_35_method_15_33 rfl rfl ?_
                                        refine s_iload_n (pc' := 36) W d_jdk_35_method_15_35 rfl rfl ?_
                                        refine s_iadd (pc' := 37) W d_jdk_35_method_15_36 rfl ?_
                                        rw [show ((18 : Int32) + (0 : Int32)) = (18 : Int32) from by decide]
                                        refine s_ireturn W rfl d_jdk_35_method_15_37 (bl rfl) (bl rfl) ?_
                                        intro vm' C'
                                        exact ⟨18, by rw [if_neg hx]; rfl, rfl, ⟨by decide, by show _ < 1000000000000000000; omega, Or.inr (by show 100000000000000000 ≤ _; omega)⟩, by decide⟩
                                    · have hq2 := (ltNJ (P := 100000000000000000) hy rfl).mp hq
                                      refine s_iload (pc' := 35) W d_jdk_35_method_15_33 rfl rfl ?_
                                      refine s_iload_n (pc' := 36) W d_jdk_35_method_15_35 rfl rfl ?_
                                      refine s_iadd (pc' := 37) W d_jdk_35_method_15_36 rfl ?_
                                      rw [show ((17 : Int32) + (0 : Int32)) = (17 : Int32) from by decide]
                                      refine s_ireturn W rfl d_jdk_35_method_15_37 (bl rfl) (bl rfl) ?_
                                      intro vm' C'
                                      exact ⟨17, by rw [if_neg hx]; rfl, rfl, ⟨by decide, by show _ < 100000000000000000; omega, Or.inr (by show 10000000000000000 ≤ _; omega)⟩, by decide⟩
                                  · have hq2 := (ltNJ (P := 10000000000000000) hy rfl).mp hq
                                    refine s_iload (pc' := 35) W d_jdk_35_method_15_33 rfl rfl ?_
                                    refine s_iload_n (pc' := 36) W d_jdk_35_method_15_35 rfl rfl ?_
                                    refine s_iadd (pc' := 37) W d_jdk_35_method_15_36 rfl ?_
                                    rw [show ((16 : Int32) + (0 : Int32)) = (16 : Int32) from by decide]
                                    refine s_ireturn W rfl d_jdk_35_method_15_37 (bl rfl) (bl rfl) ?_
                                    intro vm' C'
                                    exact ⟨16, by rw [if_neg hx]; rfl, rfl, ⟨by decide, by show _ < 10000000000000000; omega, Or.inr (by show 1000000000000000 ≤ _; omega)⟩, by decide⟩
                                · have hq2 := (ltNJ (P := 1000000000000000) hy rfl).mp hq
                                  refine s_iload (pc' := 35) W d_jdk_35_method_15_33 rfl rfl ?_
                                  refine s_iload_n (pc' := 36) W d_jdk_35_method_15_35 rfl rfl ?_
                                  refine s_iadd (pc' := 37) W d_jdk_35_method_15_36 rfl ?_
                                  rw [show ((15 : Int32) + (0 : Int32)) = (15 : Int32) from by decide]
                                  refine s_ireturn W rfl d_jdk_35_method_15_37 (bl rfl) (bl rfl) ?_
                                  intro vm' C'
                                  exact ⟨15, by rw [if_neg hx]; rfl, rfl, ⟨by decide, by show _ < 1000000000000000; omega, Or.inr (by show 100000000000000 ≤ _; omega)⟩, by decide⟩
                              · have hq2 := (ltNJ (P := 100000000000000) hy rfl).mp hq
                                refine s_iload (pc' := 35) W d_jdk_35_method_15_33 rfl rfl ?_
                                refine s_iload_n (pc' := 36) W d_jdk_35_method_15_35 rfl rfl ?_
                                refine s_iadd (pc' := 37) W d_jdk_35_method_15_36 rfl ?_
                                rw [show ((14 : Int32) + (0 : Int32)) = (14 : Int32) from by decide]
                                refine s_ireturn W rfl d_jdk_35_method_15_37 (bl rfl) (bl rfl) ?_
                                intro vm' C'
                                exact ⟨14, by rw [if_neg hx]; rfl, rfl, ⟨by decide, by show _ < 100000000000000; omega, Or.inr (by show 10000000000000 ≤ _; omega)⟩, by decide⟩
                            · have hq2 := (ltNJ (P := 10000000000000) hy rfl).mp hq
                              refine s_iload (pc' := 35) W d_jdk_35_method_15_33 rfl rfl ?_
                              refine s_iload_n (pc' := 36) W d_jdk_35_method_15_35 rfl rfl ?_
                              refine s_iadd (pc' := 37) W d_jdk_35_method_15_36 rfl ?_
                              rw [show ((13 : Int32) + (0 : Int32)) = (13 : Int32) from by decide]
                              refine s_ireturn W rfl d_jdk_35_method_15_37 (bl rfl) (bl rfl) ?_
                              intro vm' C'
                              exact ⟨13, by rw [if_neg hx]; rfl, rfl, ⟨by decide, by show _ < 10000000000000; omega, Or.inr (by show 1000000000000 ≤ _; omega)⟩, by decide⟩
                          · have hq2 := (ltNJ (P := 1000000000000) hy rfl).mp hq
                            refine s_iload (pc' := 35) W d_jdk_35_method_15_33 rfl rfl ?_
                            refine s_iload_n (pc' := 36) W d_jdk_35_method_15_35 rfl rfl ?_
                            refine s_iadd (pc' := 37) W d_jdk_35_method_15_36 rfl ?_
                            rw [show ((12 : Int32) + (0 : Int32)) = (12 : Int32) from by decide]
                            refine s_ireturn W rfl d_jdk_35_method_15_37 (bl rfl) (bl rfl) ?_
                            intro vm' C'
                            exact ⟨12, by rw [if_neg hx]; rfl, rfl, ⟨by decide, by show _ < 1000000000000; omega, Or.inr (by show 100000000000 ≤ _; omega)⟩, by decide⟩
                        · have hq2 := (ltNJ (P := 100000000000) hy rfl).mp hq
                          refine s_iload (pc' := 35) W d_jdk_35_method_15_33 rfl rfl ?_
                          refine s_iload_n (pc' := 36) W d_jdk_35_method_15_35 rfl rfl ?_
                          refine s_iadd (pc' := 37) W d_jdk_35_method_15_36 rfl ?_
                          rw [show ((11 : Int32) + (0 : Int32)) = (11 : Int32) from by decide]
                          refine s_ireturn W rfl d_jdk_35_method_15_37 (bl rfl) (bl rfl) ?_
                          intro vm' C'
                          exact ⟨11, by rw [if_neg hx]; rfl, rfl, ⟨by decide, by show _ < 100000000000; omega, Or.inr (by show 10000000000 ≤ _; omega)⟩, by decide⟩
                      · have hq2 := (ltNJ (P := 10000000000) hy rfl).mp hq
                        refine s_iload (pc' := 35) W d_jdk_35_method_15_33 rfl rfl ?_
                        refine s_iload_n (pc' := 36) W d_jdk_35_method_15_35 rfl rfl ?_
                        refine s_iadd (pc' := 37) W d_jdk_35_method_15_36 rfl ?_
                        rw [show ((10 : Int32) + (0 : Int32)) = (10 : Int32) from by decide]
                        refine s_ireturn W rfl d_jdk_35_method_15_37 (bl rfl) (bl rfl) ?_
                        intro vm' C'
                        exact ⟨10, by rw [if_neg hx]; rfl, rfl, ⟨by decide, by show _ < 10000000000; omega, Or.inr (by show 1000000000 ≤ _; omega)⟩, by decide⟩
                    · have hq2 := (ltNJ (P := 1000000000) hy rfl).mp hq
                      refine s_iload (pc' := 35) W d_jdk_35_method_15_33 rfl rfl ?_
                      refine s_iload_n (pc' := 36) W d_jdk_35_method_15_35 rfl rfl ?_
                      refine s_iadd (pc' := 37) W d_jdk_35_method_15_36 rfl ?_
                      rw [show ((9 : Int32) + (0 : Int32)) = (9 : Int32) from by decide]
                      refine s_ireturn W rfl d_jdk_35_method_15_37 (bl rfl) (bl rfl) ?_
                      intro vm' C'
                      exact ⟨9, by rw [if_neg hx]; rfl, rfl, ⟨by decide, by show _ < 1000000000; omega, Or.inr (by show 100000000 ≤ _; omega)⟩, by decide⟩
                  · have hq2 := (ltNJ (P := 100000000) hy rfl).mp hq
                    refine s_iload (pc' := 35) W d_jdk_35_method_15_33 rfl rfl ?_
                    refine s_iload_n (pc' := 36) W d_jdk_35_method_15_35 rfl rfl ?_
                    refine s_iadd (pc' := 37) W d_jdk_35_method_15_36 rfl ?_
                    rw [show ((8 : Int32) + (0 : Int32)) = (8 : Int32) from by decide]
                    refine s_ireturn W rfl d_jdk_35_method_15_37 (bl rfl) (bl rfl) ?_
                    intro vm' C'
                    exact ⟨8, by rw [if_neg hx]; rfl, rfl, ⟨by decide, by show _ < 100000000; omega, Or.inr (by show 10000000 ≤ _; omega)⟩, by decide⟩
                · have hq2 := (ltNJ (P := 10000000) hy rfl).mp hq
                  refine s_iload (pc' := 35) W d_jdk_35_method_15_33 rfl rfl ?_
                  refine s_iload_n (pc' := 36) W d_jdk_35_method_15_35 rfl rfl ?_
                  refine s_iadd (pc' := 37) W d_jdk_35_method_15_36 rfl ?_
                  rw [show ((7 : Int32) + (0 : Int32)) = (7 : Int32) from by decide]
                  refine s_ireturn W rfl d_jdk_35_method_15_37 (bl rfl) (bl rfl) ?_
                  intro vm' C'
                  exact ⟨7, by rw [if_neg hx]; rfl, rfl, ⟨by decide, by show _ < 10000000; omega, Or.inr (by show 1000000 ≤ _; omega)⟩, by decide⟩
              · have hq2 := (ltNJ (P := 1000000) hy rfl).mp hq
                refine s_iload (pc' := 35) W d_jdk_35_method_15_33 rfl rfl ?_
                refine s_iload_n (pc' := 36) W d_jdk_35_method_15_35 rfl rfl ?_
                refine s_iadd (pc' := 37) W d_jdk_35_method_15_36 rfl ?_
                rw [show ((6 : Int32) + (0 : Int32)) = (6 : Int32) from by decide]
                refine s_ireturn W rfl d_jdk_35_method_15_37 (bl rfl) (bl rfl) ?_
                intro vm' C'
                exact ⟨6, by rw [if_neg hx]; rfl, rfl, ⟨by decide, by show _ < 1000000; omega, Or.inr (by show 100000 ≤ _; omega)⟩, by decide⟩
            · have hq2 := (ltNJ (P := 100000) hy rfl).mp hq
              refine s_iload (pc' := 35) W d_jdk_35_method_15_33 rfl rfl ?_
              refine s_iload_n (pc' := 36) W d_jdk_35_method_15_35 rfl rfl ?_
              refine s_iadd (pc' := 37) W d_jdk_35_method_15_36 rfl ?_
              rw [show ((5 : Int32) + (0 : Int32)) = (5 : Int32) from by decide]
              refine s_ireturn W rfl d_jdk_35_method_15_37 (bl rfl) (bl rfl) ?_
              intro vm' C'
              exact ⟨5, by rw [if_neg hx]; rfl, rfl, ⟨by decide, by show _ < 100000; omega, Or.inr (by show 10000 ≤ _; omega)⟩, by decide⟩
          · have hq2 := (ltNJ (P := 10000) hy rfl).mp hq
            refine s_iload (pc' := 35) W d_jdk_35_method_15_33 rfl rfl ?_
            refine s_iload_n (pc' := 36) W d_jdk_35_method_15_35 rfl rfl ?_
            refine s_iadd (pc' := 37) W d_jdk_35_method_15_36 rfl ?_
            rw [show ((4 : Int32) + (0 : Int32)) = (4 : Int32) from by decide]
            refine s_ireturn W rfl d_jdk_35_method_15_37 (bl rfl) (bl rfl) ?_
            intro vm' C'
            exact ⟨4, by rw [if_neg hx]; rfl, rfl, ⟨by decide, by show _ < 10000; omega, Or.inr (by show 1000 ≤ _; omega)⟩, by decide⟩
        · have hq2 := (ltNJ (P := 1000) hy rfl).mp hq
          refine s_iload (pc' := 35) W d_jdk_35_method_15_33 rfl rfl ?_
          refine s_iload_n (pc' := 36) W d_jdk_35_method_15_35 rfl rfl ?_
          refine s_iadd (pc' := 37) W d_jdk_35_method_15_36 rfl ?_
          rw [show ((3 : Int32) + (0 : Int32)) = (3 : Int32) from by decide]
          refine s_ireturn W rfl d_jdk_35_method_15_37 (bl rfl) (bl rfl) ?_
          intro vm' C'
          exact ⟨3, by rw [if_neg hx]; rfl, rfl, ⟨by decide, by show _ < 1000; omega, Or.inr (by show 100 ≤ _; omega)⟩, by decide⟩
      · have hq2 := (ltNJ (P := 100) hy rfl).mp hq
        refine s_iload (pc' := 35) W d_jdk_35_method_15_33 rfl rfl ?_
        refine s_iload_n (pc' := 36) W d_jdk_35_method_15_35 rfl rfl ?_
        refine s_iadd (pc' := 37) W d_jdk_35_method_15_36 rfl ?_
        rw [show ((2 : Int32) + (0 : Int32)) = (2 : Int32) from by decide]
        refine s_ireturn W rfl d_jdk_35_method_15_37 (bl rfl) (bl rfl) ?_
        intro vm' C'
        exact ⟨2, by rw [if_neg hx]; rfl, rfl, ⟨by decide, by show _ < 100; omega, Or.inr (by show 10 ≤ _; omega)⟩, by decide⟩
    · have hq2 := (ltNJ (P := 10) hy rfl).mp hq
      refine s_iload (pc' := 35) W d_jdk_35_method_15_33 rfl rfl ?_
      refine s_iload_n (pc' := 36) W d_jdk_35_method_15_35 rfl rfl ?_
      refine s_iadd (pc' := 37) W d_jdk_35_method_15_36 rfl ?_
      rw [show ((1 : Int32) + (0 : Int32)) = (1 : Int32) from by decide]
      refine s_ireturn W rfl d_jdk_35_method_15_37 (bl rfl) (bl rfl) ?_
      intro vm' C'
      exact ⟨1, by rw [if_neg hx]; rfl, rfl, ⟨by decide, by show _ < 10; omega, Or.inl rfl⟩, by decide⟩
set_option maxRecDepth 65536 in
set_option maxHeartbeats 40000000 in
theorem lp_getcharsI {pp : Program} {l : Launch} {e : Env} {R : Room} {s : State} {m : MethodId} {args : Array Value} {below : List Frame} {meth : Method} {c : Code} {Z : State} {a0 : Array Value} (hw : Hw Z a0) {n0 : Nat} {cells slots : Nat} (hc : cells ≤ R.cells) (hl : slots ≤ R.slots) (DG : Dg Z) {b : Addr} {kb : ClassId} {cap sg : Nat} {E : Int32} {x0 : Int64} {o4 o5 : Slot} (hs : sg = 0 ∨ sg = 1) (hcap : cap ≤ 4096) {hh : Heap} : ∀ (n : Nat) (y : Int32), y.toInt = -(n : Int) → ∀ (T : State) (vm : Vm) (h : Heap) (p d : Nat) (vs : List Value) (o6 o9 : Slot), One o6 → One o9 → isDig n d → d + sg ≤ p → p ≤ cap → vs.length = cap → Wk pp l e R s m args below meth c Z a0 EL1 n0 "java/lang/Long" "getChars" jdk_35_method_14_code 11 (some .int) T vm h cells slots → Arv Z h b kb .byte (Int32.ofNat cap) vs (.int 0) → Mine Z EL1 n0 vm h b → Keep hh h [b] → Go pp e below s R Z EL1 n0 (fun v vm' h' => ∃ vs', v = some (.int (Int32.ofNat (p - (d + sg)))) ∧ Keep hh h' [b] ∧ Arv Z h' b kb .byte (Int32.ofNat cap) vs' (.int 0) ∧ Wrote vs vs' p n d sg) (T.setTop (mkF m 86 #[.val (.long x0), .second, iv E, rv b, o4, o5, o6, iv (Int32.ofNat p), iv (Int32.ofNat sg), o9, iv y] [])) := by
  intro n
  induction n using Nat.strongRecOn with
  | ind n ih =>
    intro y hy T vm h p d vs o6 o9 ho6 ho9 hdig hp hpc hvs W D M K
    obtain ⟨a1, a2, k1, k2, S1, S2, A1, A2⟩ := DG
    have hd1 := hdig.1
    have ry := rng32 y
    refine s_iload (pc' := 88) W d_jdk_35_method_14_86 rfl rfl ?_
    refine s_bipush (pc' := 90) W (-100 : Int32) d_jdk_35_method_14_88 rfl rfl ?_
    refine s_icmpgt (pc' := 93) (pcT := 143) W d_jdk_35_method_14_90 (by decide) rfl rfl (fun hq => ?_) (fun hq => ?_)
    · have hn : n < 100 := (ltN (P := 100) hy rfl).mp hq
      have hny := neg_toInt hy (by omega)
      refine s_aload_n (pc' := 144) W d_jdk_35_method_14_143 rfl rfl rfl ?_
      refine s_iinc (pc' := 147) W (-1 : Int32) #[.val (.long x0), .second, iv E, rv b, o4, o5, o6, iv ((Int32.ofNat p) + (-1 : Int32)), iv (Int32.ofNat sg), o9, iv y] d_jdk_35_method_14_144 rfl rfl rfl rfl ?_
      rw [n_pred (by omega)]
      refine s_iload (pc' := 149) W d_jdk_35_method_14_147 rfl rfl ?_
      refine s_gets (pc' := 152) W (w141 hw) Via.refl S1 d_jdk_35_method_14_149 rfl ?_
      intro T W
      refine s_iload (pc' := 154) W d_jdk_35_method_14_152 rfl rfl ?_
      refine s_ineg (pc' := 155) W d_jdk_35_method_14_154 rfl ?_
      rw [hny]
      refine s_baload (pc' := 156) W (.int (dch n 0)) (A1.ext W.old.2) (n_nn (by omega)) (n_lt (n := 100) (by omega) (by decide)) (by rw [n_clamp (by omega), tab_getD _ (by omega)]; exact congrArg Value.int ((by rw [← ones_eq n, Nat.mod_eq_of_lt hn]))) d_jdk_35_method_14_155 rfl ?_
      refine s_bastore (pc' := 157) W (p - 1) D M (n_clamp (by omega)) (n_nn (by omega)) (n_lt (by omega) (by omega)) (by omega) d_jdk_35_method_14_156 rfl ?_
      intro T h W K3 C3 Vn3
      replace M := M.mv C3
      have D := Vn3
      clear Vn3
      replace K := K.trans K3 (fun x hx => Or.inl hx)
      rw [dch_b] at D
      refine s_iload (pc' := 159) W d_jdk_35_method_14_157 rfl rfl ?_
      refine s_bipush (pc' := 161) W (-9 : Int32) d_jdk_35_method_14_159 rfl rfl ?_
      refine s_icmpge (pc' := 164) (pcT := 178) W d_jdk_35_method_14_161 (by decide) rfl rfl (fun hq9 => ?_) (fun hq9 => ?_)
      · have hn9 : n < 10 := Nat.lt_of_not_le (fun r => hq9 ((lt_iff _ _).mpr (by rw [hy]; show _ < (-9 : Int); omega)))
        obtain rfl : d = 1 := hdig.unique ⟨by decide, by simpa using hn9, Or.inl rfl⟩
        refine s_iload (pc' := 180) W d_jdk_35_method_14_178 rfl rfl ?_
        rcases hs with rfl | rfl
        · refine s_ifeq (pc' := 183) (pcT := 192) W d_jdk_35_method_14_180 (by decide) rfl rfl (fun _ => ?_) (fun hq => absurd (rfl : Int32.ofNat 0 = 0) hq)
          refine s_iload (pc' := 194) W d_jdk_35_method_14_192 rfl rfl ?_
          refine s_ireturn W rfl d_jdk_35_method_14_194 hc hl ?_
          intro vm' C'
          exact ⟨_, by congr 3 <;> omega, K, D, Wrote.b10 (by omega) (by omega)⟩
        · refine s_ifeq (pc' := 183) (pcT := 192) W d_jdk_35_method_14_180 (by decide) rfl rfl (fun hq => absurd hq (by decide : ¬ Int32.ofNat 1 = 0)) (fun _ => ?_)
          refine s_aload_n (pc' := 184) W d_jdk_35_method_14_183 rfl rfl rfl ?_
          refine s_iinc (pc' := 187) W (-1 : Int32) #[.val (.long x0), .second, iv E, rv b, o4, o5, o6, iv ((Int32.ofNat (p - 1)) + (-1 : Int32)), iv (Int32.ofNat 1), o9, iv y] d_jdk_35_method_14_184 rfl rfl rfl rfl ?_
          rw [n_pred (by omega), show p - 1 - 1 = p - 2 by omega]
          refine s_iload (pc' := 189) W d_jdk_35_method_14_187 rfl rfl ?_
          refine s_bipush (pc' := 191) W (45 : Int32) d_jdk_35_method_14_189 rfl rfl ?_
          refine s_bastore (pc' := 192) W (p - 2) D M (n_clamp (by omega)) (n_nn (by omega)) (n_lt (by omega) (by omega)) (by simp only [List.length_set]; omega) d_jdk_35_method_14_191 rfl ?_
          intro T h W K5 C5 Vn5
          replace M := M.mv C5
          have D := Vn5
          clear Vn5
          replace K := K.trans K5 (fun x hx => Or.inl hx)
          refine s_iload (pc' := 194) W d_jdk_35_method_14_192 rfl rfl ?_
          refine s_ireturn W rfl d_jdk_35_method_14_194 hc hl ?_
          intro vm' C'
          exact ⟨_, by congr 3 <;> omega, K, D, Wrote.b11 (by omega) (by omega)⟩
      · have hn9 : 10 ≤ n := by have := (lt_iff _ _).mp hq9; rw [hy] at this; have e9 : (-9 : Int32).toInt = -9 := rfl; omega
        obtain rfl : d = 2 := hdig.unique ⟨by decide, by simpa using hn, Or.inr (by simpa using hn9)⟩
        refine s_aload_n (pc' := 165) W d_jdk_35_method_14_164 rfl rfl rfl ?_
        refine s_iinc (pc' := 168) W (-1 : Int32) #[.val (.long x0), .second, iv E, rv b, o4, o5, o6, iv ((Int32.ofNat (p - 1)) + (-1 : Int32)), iv (Int32.ofNat sg), o9, iv y] d_jdk_35_method_14_165 rfl rfl rfl rfl ?_
        rw [n_pred (by omega), show p - 1 - 1 = p - 2 by omega]
        refine s_iload (pc' := 170) W d_jdk_35_method_14_168 rfl rfl ?_
        refine s_gets (pc' := 173) W (w283 hw) Via.refl S2 d_jdk_35_method_14_170 rfl ?_
        intro T W
        refine s_iload (pc' := 175) W d_jdk_35_method_14_173 rfl rfl ?_
        refine s_ineg (pc' := 176) W d_jdk_35_method_14_175 rfl ?_
        rw [hny]
        refine s_baload (pc' := 177) W (.int (dch n 1)) (A2.ext W.old.2) (n_nn (by omega)) (n_lt (n := 100) (by omega) (by decide)) (by rw [n_clamp (by omega), tab_getD _ (by omega)]; exact congrArg Value.int ((by rw [← tens_eq n, Nat.mod_eq_of_lt hn]))) d_jdk_35_method_14_176 rfl ?_
        refine s_bastore (pc' := 178) W (p - 2) D M (n_clamp (by omega)) (n_nn (by omega)) (n_lt (by omega) (by omega)) (by rw [List.length_set]; omega) d_jdk_35_method_14_177 rfl ?_
        intro T h W K4 C4 Vn4
        replace M := M.mv C4
        have D := Vn4
        clear Vn4
        replace K := K.trans K4 (fun x hx => Or.inl hx)
        rw [dch_b] at D
        refine s_iload (pc' := 180) W d_jdk_35_method_14_178 rfl rfl ?_
        rcases hs with rfl | rfl
        · refine s_ifeq (pc' := 183) (pcT := 192) W d_jdk_35_method_14_180 (by decide) rfl rfl (fun _ => ?_) (fun hq => absurd (rfl : Int32.ofNat 0 = 0) hq)
          refine s_iload (pc' := 194) W d_jdk_35_method_14_192 rfl rfl ?_
          refine s_ireturn W rfl d_jdk_35_method_14_194 hc hl ?_
          intro vm' C'
          exact ⟨_, by congr 3 <;> omega, K, D, Wrote.b20 (by omega) (by omega)⟩
        · refine s_ifeq (pc' := 183) (pcT := 192) W d_jdk_35_method_14_180 (by decide) rfl rfl (fun hq => absurd hq (by decide : ¬ Int32.ofNat 1 = 0)) (fun _ => ?_)
          refine s_aload_n (pc' := 184) W d_jdk_35_method_14_183 rfl rfl rfl ?_
          refine s_iinc (pc' := 187) W (-1 : Int32) #[.val (.long x0), .second, iv E, rv b, o4, o5, o6, iv ((Int32.ofNat (p - 2)) + (-1 : Int32)), iv (Int32.ofNat 1), o9, iv y] d_jdk_35_method_14_184 rfl rfl rfl rfl ?_
          rw [n_pred (by omega), show p - 2 - 1 = p - 3 by omega]
          refine s_iload (pc' := 189) W d_jdk_35_method_14_187 rfl rfl ?_
          refine s_bipush (pc' := 191) W (45 : Int32) d_jdk_35_method_14_189 rfl rfl ?_
          refine s_bastore (pc' := 192) W (p - 3) D M (n_clamp (by omega)) (n_nn (by omega)) (n_lt (by omega) (by omega)) (by simp only [List.length_set]; omega) d_jdk_35_method_14_191 rfl ?_
          intro T h W K6 C6 Vn6
          replace M := M.mv C6
          have D := Vn6
          clear Vn6
          replace K := K.trans K6 (fun x hx => Or.inl hx)
          refine s_iload (pc' := 194) W d_jdk_35_method_14_192 rfl rfl ?_
          refine s_ireturn W rfl d_jdk_35_method_14_194 hc hl ?_
          intro vm' C'
          exact ⟨_, by congr 3 <;> omega, K, D, Wrote.b21 (by omega) (by omega)⟩
    · have hn : 100 ≤ n := Nat.le_of_not_lt (fun r => hq ((ltN (P := 100) hy rfl).mpr r))
      obtain ⟨hd3, hdn⟩ := hdig.down hn
      refine s_iload (pc' := 95) W d_jdk_35_method_14_93 rfl rfl ?_
      refine s_bipush (pc' := 97) W (100 : Int32) d_jdk_35_method_14_95 rfl rfl ?_
      refine s_idiv (pc' := 98) W d_jdk_35_method_14_97 (by decide) rfl ?_
      refine s_istore (pc' := 100) W #[.val (.long x0), .second, iv E, rv b, o4, o5, o6, iv (Int32.ofNat p), iv (Int32.ofNat sg), iv (y / (100 : Int32)), iv y] d_jdk_35_method_14_98 (Jvm.Free.XS.store1 (i := 9) rfl ho9 rfl) rfl ?_
      refine s_iload (pc' := 102) W d_jdk_35_method_14_100 rfl rfl ?_
      refine s_bipush (pc' := 104) W (100 : Int32) d_jdk_35_method_14_102 rfl rfl ?_
      refine s_imul (pc' := 105) W d_jdk_35_method_14_104 rfl ?_
      refine s_iload (pc' := 107) W d_jdk_35_method_14_105 rfl rfl ?_
      refine s_isub (pc' := 108) W d_jdk_35_method_14_107 rfl ?_
      rw [gc_r hy]
      refine s_istore (pc' := 110) W #[.val (.long x0), .second, iv E, rv b, o4, o5, iv (Int32.ofNat (n % 100)), iv (Int32.ofNat p), iv (Int32.ofNat sg), iv (y / (100 : Int32)), iv y] d_jdk_35_method_14_108 (Jvm.Free.XS.store1 (i := 6) rfl ho6 rfl) rfl ?_
      refine s_iload (pc' := 112) W d_jdk_35_method_14_110 rfl rfl ?_
      refine s_istore (pc' := 114) W #[.val (.long x0), .second, iv E, rv b, o4, o5, iv (Int32.ofNat (n % 100)), iv (Int32.ofNat p), iv (Int32.ofNat sg), iv (y / (100 : Int32)), iv (y / (100 : Int32))] d_jdk_35_method_14_112 rfl rfl ?_
      refine s_aload_n (pc' := 115) W d_jdk_35_method_14_114 rfl rfl rfl ?_
      refine s_iinc (pc' := 118) W (-1 : Int32) #[.val (.long x0), .second, iv E, rv b, o4, o5, iv (Int32.ofNat (n % 100)), iv ((Int32.ofNat p) + (-1 : Int32)), iv (Int32.ofNat sg), iv (y / (100 : Int32)), iv (y / (100 : Int32))] d_jdk_35_method_14_115 rfl rfl rfl rfl ?_
      rw [n_pred (by omega)]
      refine s_iload (pc' := 120) W d_jdk_35_method_14_118 rfl rfl ?_
      refine s_gets (pc' := 123) W (w141 hw) Via.refl S1 d_jdk_35_method_14_120 rfl ?_
      intro T W
      refine s_iload (pc' := 125) W d_jdk_35_method_14_123 rfl rfl ?_
      refine s_baload (pc' := 126) W (.int (dch n 0)) (A1.ext W.old.2) (n_nn (by omega)) (n_lt (n := 100) (by omega) (by decide)) (by rw [n_clamp (by omega), tab_getD _ (by omega)]; exact congrArg Value.int (ones_eq n)) d_jdk_35_method_14_125 rfl ?_
      refine s_bastore (pc' := 127) W (p - 1) D M (n_clamp (by omega)) (n_nn (by omega)) (n_lt (by omega) (by omega)) (by omega) d_jdk_35_method_14_126 rfl ?_
      intro T h W K1 C1 Vn1
      replace M := M.mv C1
      have D := Vn1
      clear Vn1
      replace K := K.trans K1 (fun x hx => Or.inl hx)
      rw [dch_b] at D
      refine s_aload_n (pc' := 128) W d_jdk_35_method_14_127 rfl rfl rfl ?_
      refine s_iinc (pc' := 131) W (-1 : Int32) #[.val (.long x0), .second, iv E, rv b, o4, o5, iv (Int32.ofNat (n % 100)), iv ((Int32.ofNat (p - 1)) + (-1 : Int32)), iv (Int32.ofNat sg), iv (y / (100 : Int32)), iv (y / (100 : Int32))] d_jdk_35_method_14_128 rfl rfl rfl rfl ?_
      rw [n_pred (by omega), show p - 1 - 1 = p - 2 by omega]
      refine s_iload (pc' := 133) W d_jdk_35_method_14_131 rfl rfl ?_
      refine s_gets (pc' := 136) W (w283 hw) Via.refl S2 d_jdk_35_method_14_133 rfl ?_
      intro T W
      refine s_iload (pc' := 138) W d_jdk_35_method_14_136 rfl rfl ?_
      refine s_baload (pc' := 139) W (.int (dch n 1)) (A2.ext W.old.2) (n_nn (by omega)) (n_lt (n := 100) (by omega) (by decide)) (by rw [n_clamp (by omega), tab_getD _ (by omega)]; exact congrArg Value.int (tens_eq n)) d_jdk_35_method_14_138 rfl ?_
      refine s_bastore (pc' := 140) W (p - 2) D M (n_clamp (by omega)) (n_nn (by omega)) (n_lt (by omega) (by omega)) (by rw [List.length_set]; omega) d_jdk_35_method_14_139 rfl ?_
      intro T h W K2 C2 Vn2
      replace M := M.mv C2
      have D := Vn2
      clear Vn2
      replace K := K.trans K2 (fun x hx => Or.inl hx)
      rw [dch_b] at D
      refine s_goto (pc' := 86) W d_jdk_35_method_14_140 (by decide) rfl ?_
      refine Go.imp (fun v vm' h' q => ?_) (ih (n / 100) (by omega) _ (gc_q hy) T _ _ (p - 2) (d - 2) _ _ _ (One.val rfl) (One.val rfl) hdn (by omega) (by omega) (by rw [List.length_set, List.length_set]; exact hvs) W D M K)
      obtain ⟨vs', q1, q2, q3, q4⟩ := q
      exact ⟨vs', by rw [q1]; congr 3 <;> omega, q2, q3, q4.two rfl rfl hd3 hp (by omega)⟩
set_option maxRecDepth 65536 in
set_option maxHeartbeats 40000000 in
theorem lp_getcharsJ {pp : Program} {l : Launch} {e : Env} {R : Room} {s : State} {m : MethodId} {args : Array Value} {below : List Frame} {meth : Method} {c : Code} {Z : State} {a0 : Array Value} (hw : Hw Z a0) {n0 : Nat} {cells slots : Nat} (hc : cells ≤ R.cells) (hl : slots ≤ R.slots) (DG : Dg Z) {b : Addr} {kb : ClassId} {cap sg : Nat} {E : Int32} (hs : sg = 0 ∨ sg = 1) (hcap : cap ≤ 4096) {hh : Heap} : ∀ (n : Nat) (y : Int64), y.toInt = -(n : Int) → ∀ (T : State) (vm : Vm) (h : Heap) (p d : Nat) (vs : List Value) (o4 o5 o6 : Slot), ((o4 = .unset ∧ o5 = .unset) ∨ ∃ q : Int64, o4 = .val (.long q) ∧ o5 = .second) → One o6 → isDig n d → d + sg ≤ p → p ≤ cap → vs.length = cap → Wk pp l e R s m args below meth c Z a0 EL1 n0 "java/lang/Long" "getChars" jdk_35_method_14_code 11 (some .int) T vm h cells slots → Arv Z h b kb .byte (Int32.ofNat cap) vs (.int 0) → Mine Z EL1 n0 vm h b → Keep hh h [b] → Go pp e below s R Z EL1 n0 (fun v vm' h' => ∃ vs', v = some (.int (Int32.ofNat (p - (d + sg)))) ∧ Keep hh h' [b] ∧ Arv Z h' b kb .byte (Int32.ofNat cap) vs' (.int 0) ∧ Wrote vs vs' p n d sg) (T.setTop (mkF m 24 #[.val (.long y), .second, iv E, rv b, o4, o5, o6, iv (Int32.ofNat p), iv (Int32.ofNat sg), .unset, .unset] [])) := by
  intro n
  induction n using Nat.strongRecOn with
  | ind n ih =>
    intro y hy T vm h p d vs o4 o5 o6 ho ho6 hdig hp hpc hvs W D M K
    have DG0 := DG
    obtain ⟨a1, a2, k1, k2, S1, S2, A1, A2⟩ := DG
    have hd1 := hdig.1
    have ry := rng64 y
    refine s_lload_n (pc' := 25) W d_jdk_35_method_14_24 rfl rfl ?_
    refine s_ldc2J (pc' := 28) W (w140 hw) d_jdk_35_method_14_25 rfl ?_
    refine s_lcmp (pc' := 29) W d_jdk_35_method_14_28 rfl ?_
    refine s_iflgt (pc' := 32) (pcT := 82) W d_jdk_35_method_14_29 (by decide) rfl rfl (fun hq => ?_) (fun hq => ?_)
    · have hn : n < 2147483648 := (ltNJ (P := 2147483648) hy rfl).mp hq
      refine s_lload_n (pc' := 83) W d_jdk_35_method_14_82 rfl rfl ?_
      refine s_l2i (pc' := 84) W d_jdk_35_method_14_83 rfl ?_
      refine s_istore (pc' := 86) W #[.val (.long y), .second, iv E, rv b, o4, o5, o6, iv (Int32.ofNat p), iv (Int32.ofNat sg), .unset, iv y.toInt32] d_jdk_35_method_14_84 rfl rfl ?_
      have hy2 : (y.toInt32).toInt = -(n : Int) := by have l := c_l2i y; have rl := rng32 y.toInt32; omega
      exact lp_getcharsI hw hc hl DG0 hs hcap n _ hy2 T _ _ p d vs _ _ ho6 One.u hdig hp hpc hvs W D M K
    · have hn : 2147483648 ≤ n := Nat.le_of_not_lt (fun r => hq ((ltNJ (P := 2147483648) hy rfl).mpr r))
      obtain ⟨hd3, hdn⟩ := hdig.down (by omega)
      rcases ho with ⟨rfl, rfl⟩ | ⟨q0, rfl, rfl⟩
      · refine s_lload_n (pc' := 33) W d_jdk_35_method_14_32 rfl rfl ?_
        refine s_ldc2J (pc' := 36) W (w314 hw) d_jdk_35_method_14_33 rfl ?_
        refine s_ldiv (pc' := 37) W d_jdk_35_method_14_36 (by decide) rfl ?_
        refine s_lstore (pc' := 39) W #[.val (.long y), .second, iv E, rv b, .val (.long (y / (100 : Int64))), .second, o6, iv (Int32.ofNat p), iv (Int32.ofNat sg), .unset, .unset] d_jdk_35_method_14_37 rfl rfl ?_
        refine s_lload (pc' := 41) W d_jdk_35_method_14_39 rfl rfl ?_
        refine s_ldc2J (pc' := 44) W (w314 hw) d_jdk_35_method_14_41 rfl ?_
        refine s_lmul (pc' := 45) W d_jdk_35_method_14_44 rfl ?_
        refine s_lload_n (pc' := 46) W d_jdk_35_method_14_45 rfl rfl ?_
        refine s_lsub (pc' := 47) W d_jdk_35_method_14_46 rfl ?_
        refine s_l2i (pc' := 48) W d_jdk_35_method_14_47 rfl ?_
        rw [gcJ_r hy]
        refine s_istore (pc' := 50) W #[.val (.long y), .second, iv E, rv b, .val (.long (y / (100 : Int64))), .second, iv (Int32.ofNat (n % 100)), iv (Int32.ofNat p), iv (Int32.ofNat sg), .unset, .unset] d_jdk_35_method_14_48 (Jvm.Free.XS.store1 (i := 6) rfl ho6 rfl) rfl ?_
        refine s_lload (pc' := 52) W d_jdk_35_method_14_50 rfl rfl ?_
        refine s_lstore_n (pc' := 53) W #[.val (.long (y / (100 : Int64))), .second, iv E, rv b, .val (.long (y / (100 : Int64))), .second, iv (Int32.ofNat (n % 100)), iv (Int32.ofNat p), iv (Int32.ofNat sg), .unset, .unset] d_jdk_35_method_14_52 rfl rfl ?_
        refine s_aload_n (pc' := 54) W d_jdk_35_method_14_53 rfl rfl rfl ?_
        refine s_iinc (pc' := 57) W (-1 : Int32) #[.val (.long (y / (100 : Int64))), .second, iv E, rv b, .val (.long (y / (100 : Int64))), .second, iv (Int32.ofNat (n % 100)), iv ((Int32.ofNat p) + (-1 : Int32)), iv (Int32.ofNat sg), .unset, .unset] d_jdk_35_method_14_54 rfl rfl rfl rfl ?_
        rw [n_pred (by omega)]
        refine s_iload (pc' := 59) W d_jdk_35_method_14_57 rfl rfl ?_
        refine s_gets (pc' := 62) W (w141 hw) Via.refl S1 d_jdk_35_method_14_59 rfl ?_
        intro T W
        refine s_iload (pc' := 64) W d_jdk_35_method_14_62 rfl rfl ?_
        refine s_baload (pc' := 65) W (.int (dch n 0)) (A1.ext W.old.2) (n_nn (by omega)) (n_lt (n := 100) (by omega) (by decide)) (by rw [n_clamp (by omega), tab_getD _ (by omega)]; exact congrArg Value.int (ones_eq n)) d_jdk_35_method_14_64 rfl ?_
        refine s_bastore (pc' := 66) W (p - 1) D M (n_clamp (by omega)) (n_nn (by omega)) (n_lt (by omega) (by omega)) (by omega) d_jdk_35_method_14_65 rfl ?_
        intro T h W K1 C1 Vn1
        replace M := M.mv C1
        have D := Vn1
        clear Vn1
        replace K := K.trans K1 (fun x hx => Or.inl hx)
        rw [dch_b] at D
        refine s_aload_n (pc' := 67) W d_jdk_35_method_14_66 rfl rfl rfl ?_
        refine s_iinc (pc' := 70) W (-1 : Int32) #[.val (.long (y / (100 : Int64))), .second, iv E, rv b, .val (.long (y / (100 : Int64))), .second, iv (Int32.ofNat (n % 100)), iv ((Int32.ofNat (p - 1)) + (-1 : Int32)), iv (Int32.ofNat sg), .unset, .unset] d_jdk_35_method_14_67 rfl rfl rfl rfl ?_
        rw [n_pred (by omega), show p - 1 - 1 = p - 2 by omega]
        refine s_iload (pc' := 72) W d_jdk_35_method_14_70 rfl rfl ?_
        refine s_gets (pc' := 75) W (w283 hw) Via.refl S2 d_jdk_35_method_14_72 rfl ?_
        intro T W
        refine s_iload (pc' := 77) W d_jdk_35_method_14_75 rfl rfl ?_
        refine s_baload (pc' := 78) W (.int (dch n 1)) (A2.ext W.old.2) (n_nn (by omega)) (n_lt (n := 100) (by omega) (by decide)) (by rw [n_clamp (by omega), tab_getD _ (by omega)]; exact congrArg Value.int (tens_eq n)) d_jdk_35_method_14_77 rfl ?_
        refine s_bastore (pc' := 79) W (p - 2) D M (n_clamp (by omega)) (n_nn (by omega)) (n_lt (by omega) (by omega)) (by rw [List.length_set]; omega) d_jdk_35_method_14_78 rfl ?_
        intro T h W K2 C2 Vn2
        replace M := M.mv C2
        have D := Vn2
        clear Vn2
        replace K := K.trans K2 (fun x hx => Or.inl hx)
        rw [dch_b] at D
        refine s_goto (pc' := 24) W d_jdk_35_method_14_79 (by decide) rfl ?_
        refine Go.imp (fun v vm' h' q => ?_) (ih (n / 100) (by omega) _ (gcJ_q hy) T _ _ (p - 2) (d - 2) _ _ _ _ (Or.inr ⟨_, rfl, rfl⟩) (One.val rfl) hdn (by omega) (by omega) (by rw [List.length_set, List.length_set]; exact hvs) W D M K)
        obtain ⟨vs', q1, q2, q3, q4⟩ := q
        exact ⟨vs', by rw [q1]; congr 3 <;> omega, q2, q3, q4.two rfl rfl hd3 hp (by omega)⟩
      · refine s_lload_n (pc' := 33) W d_jdk_35_method_14_32 rfl rfl ?_
        refine s_ldc2J (pc' := 36) W (w314 hw) d_jdk_35_method_14_33 rfl ?_
        refine s_ldiv (pc' := 37) W d_jdk_35_method_14_36 (by decide) rfl ?_
        refine s_lstore (pc' := 39) W #[.val (.long y), .second, iv E, rv b, .val (.long (y / (100 : Int64))), .second, o6, iv (Int32.ofNat p), iv (Int32.ofNat sg), .unset, .unset] d_jdk_35_method_14_37 rfl rfl ?_
        refine s_lload (pc' := 41) W d_jdk_35_method_14_39 rfl rfl ?_
        refine s_ldc2J (pc' := 44) W (w314 hw) d_jdk_35_method_14_41 rfl ?_
        refine s_lmul (pc' := 45) W d_jdk_35_method_14_44 rfl ?_
        refine s_lload_n (pc' := 46) W d_jdk_35_method_14_45 rfl rfl ?_
        refine s_lsub (pc' := 47) W d_jdk_35_method_14_46 rfl ?_
        refine s_l2i (pc' := 48) W d_jdk_35_method_14_47 rfl ?_
        rw [gcJ_r hy]
        refine s_istore (pc' := 50) W #[.val (.long y), .second, iv E, rv b, .val (.long (y / (100 : Int64))), .second, iv (Int32.ofNat (n % 100)), iv (Int32.ofNat p), iv (Int32.ofNat sg), .unset, .unset] d_jdk_35_method_14_48 (Jvm.Free.XS.store1 (i := 6) rfl ho6 rfl) rfl ?_
        refine s_lload (pc' := 52) W d_jdk_35_method_14_50 rfl rfl ?_
        refine s_lstore_n (pc' := 53) W #[.val (.long (y / (100 : Int64))), .second, iv E, rv b, .val (.long (y / (100 : Int64))), .second, iv (Int32.ofNat (n % 100)), iv (Int32.ofNat p), iv (Int32.ofNat sg), .unset, .unset] d_jdk_35_method_14_52 rfl rfl ?_
        refine s_aload_n (pc' := 54) W d_jdk_35_method_14_53 rfl rfl rfl ?_
        refine s_iinc (pc' := 57) W (-1 : Int32) #[.val (.long (y / (100 : Int64))), .second, iv E, rv b, .val (.long (y / (100 : Int64))), .second, iv (Int32.ofNat (n % 100)), iv ((Int32.ofNat p) + (-1 : Int32)), iv (Int32.ofNat sg), .unset, .unset] d_jdk_35_method_14_54 rfl rfl rfl rfl ?_
        rw [n_pred (by omega)]
        refine s_iload (pc' := 59) W d_jdk_35_method_14_57 rfl rfl ?_
        refine s_gets (pc' := 62) W (w141 hw) Via.refl S1 d_jdk_35_method_14_59 rfl ?_
        intro T W
        refine s_iload (pc' := 64) W d_jdk_35_method_14_62 rfl rfl ?_
        refine s_baload (pc' := 65) W (.int (dch n 0)) (A1.ext W.old.2) (n_nn (by omega)) (n_lt (n := 100) (by omega) (by decide)) (by rw [n_clamp (by omega), tab_getD _ (by omega)]; exact congrArg Value.int (ones_eq n)) d_jdk_35_method_14_64 rfl ?_
        refine s_bastore (pc' := 66) W (p - 1) D M (n_clamp (by omega)) (n_nn (by omega)) (n_lt (by omega) (by omega)) (by omega) d_jdk_35_method_14_65 rfl ?_
        intro T h W K3 C3 Vn3
        replace M := M.mv C3
        have D := Vn3
        clear Vn3
        replace K := K.trans K3 (fun x hx => Or.inl hx)
        rw [dch_b] at D
        refine s_aload_n (pc' := 67) W d_jdk_35_method_14_66 rfl rfl rfl ?_
        refine s_iinc (pc' := 70) W (-1 : Int32) #[.val (.long (y / (100 : Int64))), .second, iv E, rv b, .val (.long (y / (100 : Int64))), .second, iv (Int32.ofNat (n % 100)), iv ((Int32.ofNat (p - 1)) + (-1 : Int32)), iv (Int32.ofNat sg), .unset, .unset] d_jdk_35_method_14_67 rfl rfl rfl rfl ?_
        rw [n_pred (by omega), show p - 1 - 1 = p - 2 by omega]
        refine s_iload (pc' := 72) W d_jdk_35_method_14_70 rfl rfl ?_
        refine s_gets (pc' := 75) W (w283 hw) Via.refl S2 d_jdk_35_method_14_72 rfl ?_
        intro T W
        refine s_iload (pc' := 77) W d_jdk_35_method_14_75 rfl rfl ?_
        refine s_baload (pc' := 78) W (.int (dch n 1)) (A2.ext W.old.2) (n_nn (by omega)) (n_lt (n := 100) (by omega) (by decide)) (by rw [n_clamp (by omega), tab_getD _ (by omega)]; exact congrArg Value.int (tens_eq n)) d_jdk_35_method_14_77 rfl ?_
        refine s_bastore (pc' := 79) W (p - 2) D M (n_clamp (by omega)) (n_nn (by omega)) (n_lt (by omega) (by omega)) (by rw [List.length_set]; omega) d_jdk_35_method_14_78 rfl ?_
        intro T h W K4 C4 Vn4
        replace M := M.mv C4
        have D := Vn4
        clear Vn4
        replace K := K.trans K4 (fun x hx => Or.inl hx)
        rw [dch_b] at D
        refine s_goto (pc' := 24) W d_jdk_35_method_14_79 (by decide) rfl ?_
        refine Go.imp (fun v vm' h' q => ?_) (ih (n / 100) (by omega) _ (gcJ_q hy) T _ _ (p - 2) (d - 2) _ _ _ _ (Or.inr ⟨_, rfl, rfl⟩) (One.val rfl) hdn (by omega) (by omega) (by rw [List.length_set, List.length_set]; exact hvs) W D M K)
        obtain ⟨vs', q1, q2, q3, q4⟩ := q
        exact ⟨vs', by rw [q1]; congr 3 <;> omega, q2, q3, q4.two rfl rfl hd3 hp (by omega)⟩
set_option maxRecDepth 65536 in
set_option maxHeartbeats 40000000 in
theorem ef_getcharsJ (m : MethodId) (x0 : Int64) (x1 : Int32) (x2 : Addr) : entryFrame m #[(.long x0), (.int x1), (.ref x2)] 11 = mkF m 0 #[.val (.long x0), .second, .val (.int x1), .val (.ref x2), .unset, .unset, .unset, .unset, .unset, .unset, .unset] [] := by first | (simp [entryFrame, mkF, argsToLocals, Value.category]; done) | rfl
set_option maxRecDepth 65536 in
set_option maxHeartbeats 40000000 in
theorem c_getcharsJ (l : Launch) {Z : State} {a0 : Array Value} (hw : Hw Z a0) {n0 : Nat} {h : Heap} (O : Old Z n0 h) (DG : Dg Z) {x : Int64} {b : Nat} {kb : ClassId} {cap p d : Nat} {vs : List Value} (hcap : cap ≤ 4096) (D : Arv Z h b kb .byte (Int32.ofNat cap) vs (.int 0)) (hvs : vs.length = cap) (hdig : isDig x.toInt.natAbs d) (hp : d + (if x < 0 then 1 else 0) ≤ p) (hpc : p ≤ cap) (M0 : n0 ≤ b) (Mb : b < h.size) :
    Con l Z EL1 n0 (⟨"java/lang/Long", "getChars", "(JI[B)I"⟩ : MethodName) jdk_35_method_14_code 11 (some .int) [] ({ frames := 0, cells := 0, slots := 0, locals := 0 } : Room) #[(.long x), (.int (Int32.ofNat p)), (.ref b)] h [b] (fun v vm' h' => ∃ vs', v = some (.int (Int32.ofNat (p - (d + (if x < 0 then 1 else 0))))) ∧ Keep h h' [b] ∧ Arv Z h' b kb .byte (Int32.ofNat cap) vs' (.int 0) ∧ Wrote vs vs' p x.toInt.natAbs d (if x < 0 then 1 else 0)) := by
  refine Con.of pn36 O (el hw) ?_
  intro pg_ e s m below meth cd_ T W hs_ hSf
  rw [ef_getcharsJ]
  have M : Mine Z EL1 n0 s.vm h b := ⟨M0, Mb, hSf b (by simp)⟩
  have e0 : (0 : Int64).toInt = 0 := rfl
  have hbx := rng64 x
  refine s_iload_n (pc' := 1) W d_jdk_35_method_14_0 rfl rfl ?_
  refine s_istore (pc' := 3) W #[.val (.long x), .second, iv (Int32.ofNat p), rv b, .unset, .unset, .unset, iv (Int32.ofNat p), .unset, .unset, .unset] d_jdk_35_method_14_1 rfl rfl ?_
  refine s_lload_n (pc' := 4) W d_jdk_35_method_14_3 rfl rfl ?_
  refine s_lconst (pc' := 5) W (0 : Int64) d_jdk_35_method_14_4 rfl rfl ?_
  refine s_lcmp (pc' := 6) W d_jdk_35_method_14_5 rfl ?_
  refine s_iflge (pc' := 9) (pcT := 13) W d_jdk_35_method_14_6 (by decide) rfl rfl (fun hx => ?_) (fun hx => ?_)
  · refine s_iconst (pc' := 14) W (0 : Int32) d_jdk_35_method_14_13 rfl rfl ?_
    refine s_istore (pc' := 16) W #[.val (.long x), .second, iv (Int32.ofNat p), rv b, .unset, .unset, .unset, iv (Int32.ofNat p), iv (0 : Int32), .unset, .unset] d_jdk_35_method_14_14 rfl rfl ?_
    refine s_iload (pc' := 18) W d_jdk_35_method_14_16 rfl rfl ?_
    refine s_ifne (pc' := 21) (pcT := 24) W d_jdk_35_method_14_18 (by decide) rfl rfl (fun hq => absurd (by decide) hq) (fun _ => ?_)
    refine s_lload_n (pc' := 22) W d_jdk_35_method_14_21 rfl rfl ?_
    refine s_lneg (pc' := 23) W d_jdk_35_method_14_22 rfl ?_
    refine s_lstore_n (pc' := 24) W #[.val (.long (-x)), .second, iv (Int32.ofNat p), rv b, .unset, .unset, .unset, iv (Int32.ofNat p), iv (0 : Int32), .unset, .unset] d_jdk_35_method_14_23 rfl rfl ?_
    have hy : (-x).toInt = -(x.toInt.natAbs : Int) := negJ (by have : ¬ x.toInt < (0 : Int64).toInt := fun q => hx ((Int64.lt_iff_toInt_lt (x := x) (y := 0)).mpr q); omega)
    refine Go.imp (fun v vm' h' q => ?_) (lp_getcharsJ hw (Nat.le_refl _) (Nat.le_refl _) DG (sg := 0) (by decide) hcap _ _ hy T _ _ p d vs .unset .unset .unset (Or.inl ⟨rfl, rfl⟩) One.u hdig (by rw [if_neg hx] at hp; exact hp) hpc hvs W D M (Keep.refl _ _))
    rw [if_neg hx]; exact q
  · refine s_iconst (pc' := 10) W (1 : Int32) d_jdk_35_method_14_9 rfl rfl ?_
    refine s_goto (pc' := 14) W d_jdk_35_method_14_10 (by decide) rfl ?_
    refine s_istore (pc' := 16) W #[.val (.long x), .second, iv (Int32.ofNat p), rv b, .unset, .unset, .unset, iv (Int32.ofNat p), iv (1 : Int32), .unset, .unset] d_jdk_35_method_14_14 rfl rfl ?_
    refine s_iload (pc' := 18) W d_jdk_35_method_14_16 rfl rfl ?_
    refine s_ifne (pc' := 21) (pcT := 24) W d_jdk_35_method_14_18 (by decide) rfl rfl (fun _ => ?_) (fun hq => absurd hq (by decide))
    have hy : x.toInt = -(x.toInt.natAbs : Int) := by have := (Int64.lt_iff_toInt_lt (x := x) (y := 0)).mp hx; omega
    refine Go.imp (fun v vm' h' q => ?_) (lp_getcharsJ hw (Nat.le_refl _) (Nat.le_refl _) DG (sg := 1) (by decide) hcap _ _ hy T _ _ p d vs .unset .unset .unset (Or.inl ⟨rfl, rfl⟩) One.u hdig (by rw [if_pos hx] at hp; exact hp) hpc hvs W D M (Keep.refl _ _))
    rw [if_pos hx]; exact q
set_option maxRecDepth 65536 in
set_option maxHeartbeats 40000000 in
theorem ef_asbappendJ (m : MethodId) (x0 : Addr) (x1 : Int64) : entryFrame m #[(.ref x0), (.long x1)] 5 = mkF m 0 #[.val (.ref x0), .val (.long x1), .second, .unset, .unset] [] := by first | (simp [entryFrame, mkF, argsToLocals, Value.category]; done) | rfl
set_option maxRecDepth 65536 in
set_option maxHeartbeats 40000000 in
theorem c_asbappendJ (l : Launch) {Z : State} {a0 : Array Value} (hw : Hw Z a0) {n0 : Nat} {h : Heap} (O : Old Z n0 h) (CS0 : CS Z) (DG : Dg Z) {a b : Nat} {kb : ClassId} {cap : Nat} {cs : List Int32} (F : SBd Z h a b kb cap cs) {x : Int64} (hcap : gcap cap (cs.length + 20) ≤ 4096) (nab : a ≠ b) (M0 : n0 ≤ a) (M1 : n0 ≤ b) :
    Con l Z EL1 n0 (⟨"java/lang/AbstractStringBuilder", "append", "(J)Ljava/lang/AbstractStringBuilder;"⟩ : MethodName) jdk_68_method_33_code 5 (some (.object "java/lang/AbstractStringBuilder")) [] ({ frames := 4, cells := 1, slots := gcap cap (cs.length + 20), locals := 62 } : Room) #[(.ref a), (.long x)] h [a, b] (fun v vm' h' => v = some (.ref a) ∧ Keep h h' [a, b] ∧ ∃ d : Nat, isDig x.toInt.natAbs d ∧ d ≤ 19 ∧ ∃ b' kb', SBd Z h' a b' kb' (gcap cap (cs.length + (d + (if x < 0 then 1 else 0)))) (cs ++ ((if x < 0 then [45] else [] : List Int32) ++ decs x.toInt.natAbs d)) ∧ (b' = b ∨ h.size ≤ b') ∧ Mine Z EL1 n0 vm' h' b' ∧ a ≠ b') := by
  refine Con.of pn37 O (el hw) ?_
  intro pg_ e s m below meth cd_ T W hs_ hSf
  rw [ef_asbappendJ]
  have M : Mine Z EL1 n0 s.vm h a := ⟨M0, F.lt, hSf a (by simp)⟩
  have MB : Mine Z EL1 n0 s.vm h b := ⟨M1, F.ltb, hSf b (by simp)⟩
  have Kt := Keep.refl h [a, b]
  have lbF := nlt F.ltb
  have laF := nlt F.lt
  have hsg : (if x < 0 then 1 else 0) ≤ 1 := by split <;> decide
  refine s_aload_n (pc' := 1) W d_jdk_68_method_33_0 rfl rfl rfl ?_
  refine s_getf (pc' := 4) W (w91 hw) Via.refl F.2.2.1 d_jdk_68_method_33_1 rfl ?_
  intro T W
  refine s_istore_n (pc' := 5) W #[rv a, .val (.long x), .second, iv (Int32.ofNat cs.length), .unset] d_jdk_68_method_33_4 rfl rfl ?_
  refine s_iload_n (pc' := 6) W d_jdk_68_method_33_5 rfl rfl ?_
  refine s_lload_n (pc' := 7) W d_jdk_68_method_33_6 rfl rfl ?_
  refine s_static (pc' := 10) W (w127 hw) (w128 hw) (w129 hw) (w130 hw) (by decide) pd23 [(.long x)] rfl (c_stringsizeJ l hw W.old) all0 rfl d_jdk_68_method_33_7 1 (le rfl) (bl rfl) (bl rfl) (by (try dsimp only) <;> omega) (by (try dsimp only) <;> omega) rfl ?_
  rintro _ T vm _ W C1 ⟨d, rfl, rfl, hd, hd10⟩
  replace M := M.mv C1
  replace MB := MB.mv C1
  have hm : gcap cap (cs.length + (d + (if x < 0 then 1 else 0))) ≤ 4096 := Nat.le_trans (gcap_mono _ (by omega)) hcap
  have hmr : gcap cap (cs.length + (d + (if x < 0 then 1 else 0))) ≤ gcap cap (cs.length + 20) := gcap_mono _ (by omega)
  refine s_iadd (pc' := 11) W d_jdk_68_method_33_10 rfl ?_
  rw [n_add]
  refine s_istore (pc' := 13) W #[rv a, .val (.long x), .second, iv (Int32.ofNat cs.length), iv (Int32.ofNat (cs.length + (d + (if x < 0 then 1 else 0))))] d_jdk_68_method_33_11 rfl rfl ?_
  refine s_aload_n (pc' := 14) W d_jdk_68_method_33_13 rfl rfl rfl ?_
  refine s_iload (pc' := 16) W d_jdk_68_method_33_14 rfl rfl ?_
  refine s_virt (pc' := 19) W (C0 := "java/lang/StringBuilder") (w93 hw) (decl_of (w94 hw) (w97 hw)) (w96 hw) (w94 hw) (w61 hw) (w97 hw) (notFace_of_selects (args := a0) (w96 hw)) (by decide) pd16 [(.int (Int32.ofNat (cs.length + (d + (if x < 0 then 1 else 0)))))] rfl F.1 (c_ensureG l hw W.old F hm nab M0 M1) (allS ⟨F.lt, M.2.2⟩ (allS ⟨F.ltb, MB.2.2⟩ all0)) rfl d_jdk_68_method_33_16 0 (le rfl) (bl rfl) (bl rfl) (by (try dsimp only) <;> omega) (by (try dsimp only) <;> omega) rfl ?_
  rintro _ T vm h W C2 ⟨rfl, K2, b', kb', F, hb', MB', nab'⟩
  replace Kt := Kt.trans K2 (allS (P := fun x => _ ∨ _) (Or.inl (by simp)) all0)
  replace M := M.mv C2
  replace MB := MB.mv C2
  have hge := gcap_ge cap (cs.length + (d + (if x < 0 then 1 else 0)))
  refine s_aload_n (pc' := 20) W d_jdk_68_method_33_19 rfl rfl rfl ?_
  refine s_virt (pc' := 23) W (C0 := "java/lang/StringBuilder") (w132 hw) (w133 hw) (w135 hw) (w134 hw) (w61 hw) (w136 hw) (notFace_of_selects (args := a0) (w135 hw)) (by decide) pd7 [] rfl F.1 (c_asblatin1 l hw W.old CS0 F) all0 rfl d_jdk_68_method_33_20 0 (le rfl) (bl rfl) (bl rfl) (by (try dsimp only) <;> omega) (by (try dsimp only) <;> omega) rfl ?_
  rintro _ T vm _ W C3 ⟨rfl, rfl⟩
  replace M := M.mv C3
  replace MB := MB.mv C3
  replace MB' := MB'.mv C3
  refine s_ifeq (pc' := 26) (pcT := 40) W d_jdk_68_method_33_23 (by decide) rfl rfl (fun hq => absurd hq (by decide)) (fun _ => ?_)
  refine s_lload_n (pc' := 27) W d_jdk_68_method_33_26 rfl rfl ?_
  refine s_iload (pc' := 29) W d_jdk_68_method_33_27 rfl rfl ?_
  refine s_aload_n (pc' := 30) W d_jdk_68_method_33_29 rfl rfl rfl ?_
  refine s_getf (pc' := 33) W (w65 hw) Via.refl F.2.2.2.1 d_jdk_68_method_33_30 rfl ?_
  intro T W
  obtain ⟨f1, f2, f3, f4, ⟨r, hr, A⟩, f6⟩ := F
  have XB := f6.2.2
  refine s_static (pc' := 36) W (w137 hw) (w138 hw) (w129 hw) (w139 hw) (by decide) pd24 [(.long x), (.int (Int32.ofNat (cs.length + (d + (if x < 0 then 1 else 0))))), (.ref b')] rfl (c_getcharsJ l hw W.old DG f6.2.1 A (by simp; omega) hd (by omega) (by omega) MB'.1 MB'.2.1) (allS ⟨MB'.2.1, MB'.2.2⟩ all0) rfl d_jdk_68_method_33_33 0 (le rfl) (bl rfl) (bl rfl) (by (try dsimp only) <;> omega) (by (try dsimp only) <;> omega) rfl ?_
  rintro _ T vm h W C4 ⟨vs', rfl, K4, D, Wr⟩
  replace Kt := Kt.trans K4 (allS (P := fun x => _ ∨ _) (hb'.elim (fun q => Or.inl (by simp [q])) (fun q => Or.inr q)) all0)
  replace M := M.mv C4
  replace MB := MB.mv C4
  replace MB' := MB'.mv C4
  replace XB := XB.keep K4
  replace f1 := f1.keep K4
  replace f2 := f2.keep K4 (ninS nab' nin0)
  replace f3 := f3.keep K4 (ninS nab' nin0)
  replace f4 := f4.keep K4 (ninS nab' nin0)
  have hsg2 : (if x < 0 then 1 else 0) = 0 ∨ (if x < 0 then 1 else 0) = 1 := by split <;> simp
  have hvl := Wr.1
  have hve := Wr.list hr hsg2 (by omega)
  have hsi : (if (if x < 0 then 1 else 0) = 1 then ([45] : List Int32) else []) = (if x < 0 then [45] else [] : List Int32) := by by_cases q : x < 0 <;> simp [q]
  rw [hsi] at hve
  rw [hve] at D
  refine s_pop (pc' := 37) W d_jdk_68_method_33_36 rfl rfl ?_
  refine s_goto (pc' := 52) W d_jdk_68_method_33_37 (by decide) rfl ?_
  refine s_aload_n (pc' := 53) W d_jdk_68_method_33_52 rfl rfl rfl ?_
  refine s_iload (pc' := 55) W d_jdk_68_method_33_53 rfl rfl ?_
  refine s_putf (pc' := 58) W (w91 hw) Via.refl f3 f1 M (Or.inl (w92 hw)) (w52 hw) (ty := .int) (by decide) rfl rfl d_jdk_68_method_33_55 rfl ?_
  intro T h W K5 C5 Wr5 Fn5
  replace f2 := f2.other Wr5 (Or.inr (slot_ne (Or.inl (w68 hw)) (Or.inl (w92 hw)) (by decide) (by decide : parseFieldDescriptor "B" = some .byte) (by decide : parseFieldDescriptor "I" = some .int)))
  replace f4 := f4.other Wr5 (Or.inr (slot_ne (Or.inl (w66 hw)) (Or.inl (w92 hw)) (by decide) (by decide : parseFieldDescriptor "[B" = some (.array .byte)) (by decide : parseFieldDescriptor "I" = some .int)))
  replace Kt := Kt.trans K5 (allS (P := fun x => _ ∨ _) (Or.inl (by simp)) all0)
  replace M := M.mv C5
  replace MB := MB.mv C5
  replace MB' := MB'.mv C5
  replace XB := XB.keep K5
  replace f1 := f1.keep K5
  replace D := D.keep K5 (ninS (Ne.symm nab') nin0)
  have f3 := Fn5
  clear Fn5
  have hlen : (cs ++ ((if x < 0 then [45] else [] : List Int32) ++ decs x.toInt.natAbs d)).length = cs.length + (d + (if x < 0 then 1 else 0)) := by by_cases q : x < 0 <;> simp [q, decs_len] <;> omega
  refine s_aload_n (pc' := 59) W d_jdk_68_method_33_58 rfl rfl rfl ?_
  refine s_areturn W rfl rfl rfl d_jdk_68_method_33_59 (by (try dsimp only) <;> omega) (by (try dsimp only) <;> omega) ?_
  intro vm' C'
  exact ⟨rfl, Kt, d, hd, hd10, b', kb', ⟨f1, f2, by rw [hlen]; exact f3, f4, ⟨_, by rw [hlen, List.length_drop, hvl]; simp; omega, D⟩, fun c hc => (List.mem_append.mp hc).elim (f6.1 c) (fun q => (List.mem_append.mp q).elim (fun q => by split at q <;> simp at q; subst q; exact ⟨by decide, by decide⟩) (fun q => by obtain ⟨k, -, rfl⟩ := List.mem_map.mp q; exact dch_L1 _ _)), f6.2.1, XB⟩, hb', MB'.mv C', nab'⟩
set_option maxRecDepth 65536 in
set_option maxHeartbeats 40000000 in
theorem ef_sbappendJ (m : MethodId) (x0 : Addr) (x1 : Int64) : entryFrame m #[(.ref x0), (.long x1)] 3 = mkF m 0 #[.val (.ref x0), .val (.long x1), .second] [] := by first | (simp [entryFrame, mkF, argsToLocals, Value.category]; done) | rfl
set_option maxRecDepth 65536 in
set_option maxHeartbeats 40000000 in
theorem c_sbappendJ (l : Launch) {Z : State} {a0 : Array Value} (hw : Hw Z a0) {n0 : Nat} {h : Heap} (O : Old Z n0 h) (CS0 : CS Z) (DG : Dg Z) {a b : Nat} {kb : ClassId} {cap : Nat} {cs : List Int32} (F : SBd Z h a b kb cap cs) {x : Int64} (hcap : gcap cap (cs.length + 20) ≤ 4096) (nab : a ≠ b) (M0 : n0 ≤ a) (M1 : n0 ≤ b) :
    Con l Z EL1 n0 (⟨"java/lang/StringBuilder", "append", "(J)Ljava/lang/StringBuilder;"⟩ : MethodName) jdk_67_method_16_code 3 (some (.object "java/lang/StringBuilder")) [] ({ frames := 5, cells := 1, slots := gcap cap (cs.length + 20), locals := 78 } : Room) #[(.ref a), (.long x)] h [a, b] (fun v vm' h' => v = some (.ref a) ∧ Keep h h' [a, b] ∧ ∃ d : Nat, isDig x.toInt.natAbs d ∧ d ≤ 19 ∧ ∃ b' kb', SBd Z h' a b' kb' (gcap cap (cs.length + (d + (if x < 0 then 1 else 0)))) (cs ++ ((if x < 0 then [45] else [] : List Int32) ++ decs x.toInt.natAbs d)) ∧ (b' = b ∨ h.size ≤ b') ∧ Mine Z EL1 n0 vm' h' b' ∧ a ≠ b') := by
  refine Con.of pn38 O (el hw) ?_
  intro pg_ e s m below meth cd_ T W hs_ hSf
  rw [ef_sbappendJ]
  have S1 := hSf a (by simp)
  have S2 := hSf b (by simp)
  refine s_aload_n (pc' := 1) W d_jdk_67_method_16_0 rfl rfl rfl ?_
  refine s_lload_n (pc' := 2) W d_jdk_67_method_16_1 rfl rfl ?_
  refine s_super (pc' := 5) W (K := "java/lang/AbstractStringBuilder") (w123 hw) (same_of (y := (⟨"java/lang/AbstractStringBuilder", "append", "(J)Ljava/lang/AbstractStringBuilder;"⟩ : MethodName)) (by decide) (w124 hw) (nf_of (y := (⟨"java/lang/AbstractStringBuilder", "append", "(J)Ljava/lang/AbstractStringBuilder;"⟩ : MethodName)) (y' := (⟨"java/lang/AbstractStringBuilder", "ensureCapacityInternal", "(I)V"⟩ : MethodName)) rfl (w96 hw))) (w124 hw) (w77 hw) (w61 hw) (w126 hw) (by decide) pd25 [(.long x)] rfl (Ins.of_exa F.1 (w60 hw)) (c_asbappendJ l hw W.old CS0 DG F hcap nab M0 M1) (allS ⟨F.lt, S1⟩ (allS ⟨F.ltb, S2⟩ all0)) rfl d_jdk_67_method_16_2 0 (le rfl) (bl rfl) (bl rfl) (by (try dsimp only) <;> omega) (by (try dsimp only) <;> omega) rfl ?_
  rintro _ T vm h W C1 ⟨rfl, K1, d, hd, hd10, b', kb', H, hb', MB', nab'⟩
  refine s_pop (pc' := 6) W d_jdk_67_method_16_5 rfl rfl ?_
  refine s_aload_n (pc' := 7) W d_jdk_67_method_16_6 rfl rfl rfl ?_
  refine s_areturn W rfl rfl rfl d_jdk_67_method_16_7 (by (try dsimp only) <;> omega) (by (try dsimp only) <;> omega) ?_
  intro vm' C'
  exact ⟨rfl, K1, d, hd, hd10, b', kb', H, hb', MB'.mv C', nab'⟩
set_option maxRecDepth 65536 in
set_option maxHeartbeats 40000000 in
theorem ef_canencC (m : MethodId) (x0 : Int32) : entryFrame m #[(.int x0)] 1 = mkF m 0 #[.val (.int x0)] [] := by first | (simp [entryFrame, mkF, argsToLocals, Value.category]; done) | rfl
set_option maxRecDepth 65536 in
set_option maxHeartbeats 40000000 in
theorem c_canencC (l : Launch) {Z : State} {a0 : Array Value} (hw : Hw Z a0) {n0 : Nat} {h : Heap} (O : Old Z n0 h) {x : Int32} (hL : L1 x) :
    Con l Z EL1 n0 (⟨"java/lang/StringLatin1", "canEncode", "(C)Z"⟩ : MethodName) jdk_43_method_3_code 1 (some .boolean) [] ({ frames := 0, cells := 0, slots := 0, locals := 0 } : Room) #[(.int x)] h [] (fun v vm' h' => v = some (.int 1) ∧ h = h') := by
  refine Con.of pn39 O (el hw) ?_
  intro pg_ e s m below meth cd_ T W hs_ hSf
  rw [ef_canencC]
  refine s_iload_n (pc' := 1) W d_jdk_43_method_3_0 rfl rfl ?_
  refine s_sipush (pc' := 4) W (255 : Int32) d_jdk_43_method_3_1 rfl rfl ?_
  refine s_icmpgt (pc' := 7) (pcT := 11) W d_jdk_43_method_3_4 (by decide) rfl rfl (fun hq => absurd hq hL.2) (fun _ => ?_)
  refine s_iconst (pc' := 8) W (1 : Int32) d_jdk_43_method_3_7 rfl rfl ?_
  refine s_goto (pc' := 12) W d_jdk_43_method_3_8 (by decide) rfl ?_
  refine s_nreturn W (t := .boolean) rfl (by simp) d_jdk_43_method_3_12 (bl rfl) (bl rfl) ?_
  intro vm' C'
  exact ⟨rfl, rfl⟩
set_option maxRecDepth 65536 in
set_option maxHeartbeats 40000000 in
theorem ef_tobytesC (m : MethodId) (x0 : Int32) : entryFrame m #[(.int x0)] 1 = mkF m 0 #[.val (.int x0)] [] := by first | (simp [entryFrame, mkF, argsToLocals, Value.category]; done) | rfl
set_option maxRecDepth 65536 in
set_option maxHeartbeats 40000000 in
theorem c_tobytesC (l : Launch) {Z : State} {a0 : Array Value} (hw : Hw Z a0) {n0 : Nat} {h : Heap} (O : Old Z n0 h) {x : Int32} :
    Con l Z EL1 n0 (⟨"java/lang/StringLatin1", "toBytes", "(C)[B"⟩ : MethodName) jdk_43_method_46_code 1 (some (.array .byte)) [] ({ frames := 0, cells := 1, slots := 1, locals := 0 } : Room) #[(.int x)] h [] (fun v vm' h' => ∃ b kb, v = some (.ref b) ∧ Keep h h' [] ∧ Arv Z h' b kb .byte 1 [bv x] (.int 0) ∧ h.size ≤ b) := by
  refine Con.of pn40 O (el hw) ?_
  intro pg_ e s m below meth cd_ T W hs_ hSf
  rw [ef_tobytesC]
  have Kt := Keep.refl h []
  refine s_iconst (pc' := 1) W (1 : Int32) d_jdk_43_method_46_0 rfl rfl ?_
  refine s_newarr (pc' := 3) W (aty := .byte) 1 "[B" (by decide) (w38 hw) d_jdk_43_method_46_1 (by decide) (by decide) (by decide) (bl rfl) (bl rfl) rfl ?_
  intro b T h k_b g_b
  have fs_b := Nat.le_trans Kt.1 (Nat.le_of_eq g_b.symm)
  intro W K1 C1 M_b V_b X_b
  replace Kt := Kt.trans K1 all0
  have V_b : Arv Z _ b k_b .byte (1 : Int32) [.int 0] (.int 0) := V_b
  refine s_dup (pc' := 4) W d_jdk_43_method_46_3 rfl rfl ?_
  refine s_iconst (pc' := 5) W (0 : Int32) d_jdk_43_method_46_4 rfl rfl ?_
  refine s_iload_n (pc' := 6) W d_jdk_43_method_46_5 rfl rfl ?_
  refine s_i2b (pc' := 7) W d_jdk_43_method_46_6 rfl ?_
  refine s_bastore (pc' := 8) W 0 V_b M_b rfl (by decide) (by decide) (bt rfl) d_jdk_43_method_46_7 rfl ?_
  intro T h W K2 C2 Vn2
  replace Kt := Kt.trans K2 (allS (P := fun x => _ ∨ _) (Or.inr fs_b) all0)
  replace M_b := M_b.mv C2
  replace X_b := X_b.keep K2
  have V_b := Vn2
  clear Vn2
  rw [bb] at V_b
  refine s_areturn W rfl rfl rfl d_jdk_43_method_46_8 (bl rfl) (bl rfl) ?_
  intro vm' C'
  exact ⟨b, k_b, rfl, Kt, V_b, fs_b⟩
set_option maxRecDepth 65536 in
set_option maxHeartbeats 40000000 in
theorem ef_strinitB (m : MethodId) (x0 : Addr) (x1 : Addr) (x2 : Int32) : entryFrame m #[(.ref x0), (.ref x1), (.int x2)] 3 = mkF m 0 #[.val (.ref x0), .val (.ref x1), .val (.int x2)] [] := by first | (simp [entryFrame, mkF, argsToLocals, Value.category]; done) | rfl
set_option maxRecDepth 65536 in
set_option maxHeartbeats 40000000 in
theorem c_strinitB (l : Launch) {Z : State} {a0 : Array Value} (hw : Hw Z a0) {n0 : Nat} {h : Heap} (O : Old Z n0 h) {a b : Nat} {kb : ClassId} {cs : List Int32} (E : Exa Z h a "java/lang/String") (M0 : n0 ≤ a) (Ma : a < h.size) (Fc : Fld Z h a "java/lang/String" "coder" "B" (.int 0)) (Fv : Fld Z h a "java/lang/String" "value" "[B" .null) (A : Arv Z h b kb .byte (Int32.ofNat cs.length) (cs.map bv) (.int 0)) (hL : ∀ c ∈ cs, L1 c) (hn : cs.length < 2147483648) (nab : a ≠ b) :
    Con l Z EL1 n0 (⟨"java/lang/String", "<init>", "([BB)V"⟩ : MethodName) jdk_42_method_151_code 3 none [] ({ frames := 1, cells := 0, slots := 0, locals := 12 } : Room) #[(.ref a), (.ref b), (.int (0 : Int32))] h [a] (fun v vm' h' => v = none ∧ Keep h h' [a] ∧ LatB Z h' a b kb cs) := by
  refine Con.of pn41 O (el hw) ?_
  intro pg_ e s m below meth cd_ T W hs_ hSf
  rw [ef_strinitB]
  have M : Mine Z EL1 n0 s.vm h a := ⟨M0, Ma, hSf a (by simp)⟩
  have Kt := Keep.refl h [a]
  refine s_aload_n (pc' := 1) W d_jdk_42_method_151_0 rfl rfl rfl ?_
  refine s_objinit (pc' := 4) W (w34 hw) (w35 hw) (w36 hw) rfl d_jdk_42_method_151_1 0 (le rfl) (bl rfl) (bl rfl) rfl ?_
  intro T W
  refine s_aload_n (pc' := 5) W d_jdk_42_method_151_4 rfl rfl rfl ?_
  refine s_aload_n (pc' := 6) W d_jdk_42_method_151_5 rfl rfl rfl ?_
  refine s_putf (pc' := 9) W (w43 hw) Via.refl Fv E M (Or.inr ⟨(w39 hw), rfl, rfl⟩) (w24 hw) (ty := (.array .byte)) (by decide) rfl rfl d_jdk_42_method_151_6 rfl ?_
  intro T h W K1 C1 Wr1 Fn1
  replace Fc := Fc.other Wr1 (Or.inr (slot_ne (Or.inr (w40 hw)) (Or.inr (w39 hw)) (by decide) (by decide : parseFieldDescriptor "B" = some .byte) (by decide : parseFieldDescriptor "[B" = some (.array .byte))))
  replace Kt := Kt.trans K1 (allS (P := fun x => _ ∨ _) (Or.inl (by simp)) all0)
  replace E := E.keep K1
  replace A := A.keep K1 (ninS (Ne.symm nab) nin0)
  replace M := M.mv C1
  have Fv := Fn1
  clear Fn1
  refine s_aload_n (pc' := 10) W d_jdk_42_method_151_9 rfl rfl rfl ?_
  refine s_iload_n (pc' := 11) W d_jdk_42_method_151_10 rfl rfl ?_
  refine s_putfn (pc' := 14) W (w44 hw) Via.refl Fc E M (Or.inr ⟨(w40 hw), rfl, rfl⟩) (w24 hw) (ty := .byte) (v' := .int 0) (by decide) rfl rfl d_jdk_42_method_151_11 rfl ?_
  intro T h W K2 C2 Wr2 Fn2
  replace Fv := Fv.other Wr2 (Or.inr (slot_ne (Or.inr (w39 hw)) (Or.inr (w40 hw)) (by decide) (by decide : parseFieldDescriptor "[B" = some (.array .byte)) (by decide : parseFieldDescriptor "B" = some .byte)))
  replace Kt := Kt.trans K2 (allS (P := fun x => _ ∨ _) (Or.inl (by simp)) all0)
  replace E := E.keep K2
  replace A := A.keep K2 (ninS (Ne.symm nab) nin0)
  replace M := M.mv C2
  have Fc := Fn2
  clear Fn2
  refine s_ret W rfl d_jdk_42_method_151_14 (bl rfl) (bl rfl) ?_
  intro vm' C'
  exact ⟨rfl, Kt, E, Fc, Fv, A, hL, hn⟩
set_option maxRecDepth 65536 in
set_option maxHeartbeats 40000000 in
theorem ef_valueofC (m : MethodId) (x0 : Int32) : entryFrame m #[(.int x0)] 1 = mkF m 0 #[.val (.int x0)] [] := by first | (simp [entryFrame, mkF, argsToLocals, Value.category]; done) | rfl
set_option maxRecDepth 65536 in
set_option maxHeartbeats 40000000 in
theorem c_valueofC (l : Launch) {Z : State} {a0 : Array Value} (hw : Hw Z a0) {n0 : Nat} {h : Heap} (O : Old Z n0 h) (CS0 : CS Z) {x : Int32} (hL : L1 x) :
    Con l Z EL1 n0 (⟨"java/lang/String", "valueOf", "(C)Ljava/lang/String;"⟩ : MethodName) jdk_42_method_139_code 1 (some (.object "java/lang/String")) [] ({ frames := 2, cells := 2, slots := 5, locals := 27 } : Room) #[(.int x)] h [] (fun v vm' h' => ∃ a b kb, v = some (.ref a) ∧ Keep h h' [] ∧ LatB Z h' a b kb [x] ∧ h.size ≤ a ∧ h.size ≤ b) := by
  refine Con.of pn42 O (el hw) ?_
  intro pg_ e s m below meth cd_ T W hs_ hSf
  rw [ef_valueofC]
  have Kt := Keep.refl h []
  obtain ⟨vc, Sc, hvc⟩ := CS0
  refine s_gets (pc' := 3) W (w90 hw) Via.refl Sc d_jdk_42_method_139_0 rfl ?_
  intro T W
  refine s_ifeq (pc' := 6) (pcT := 26) W d_jdk_42_method_139_3 (by decide) rfl rfl (fun hq => absurd hq hvc) (fun _ => ?_)
  refine s_iload_n (pc' := 7) W d_jdk_42_method_139_6 rfl rfl ?_
  refine s_static (pc' := 10) W (w287 hw) (w288 hw) (w261 hw) (w289 hw) (by decide) pd26 [(.int x)] rfl (c_canencC l hw W.old hL) all0 rfl d_jdk_42_method_139_7 0 (le rfl) (bl rfl) (bl rfl) (bl rfl) (bl rfl) rfl ?_
  rintro _ T vm _ W C1 ⟨rfl, rfl⟩
  refine s_ifeq (pc' := 13) (pcT := 26) W d_jdk_42_method_139_10 (by decide) rfl rfl (fun hq => absurd hq (by decide)) (fun _ => ?_)
  refine s_new (pc' := 16) W (w290 hw) (w24 hw) (w25 hw) d_jdk_42_method_139_13 (bl rfl) (bl rfl) rfl ?_
  intro a T h g_a
  have fs_a := Nat.le_trans Kt.1 (Nat.le_of_eq g_a.symm)
  intro W K2 C2 M_a E_a D_a U_a
  replace Kt := Kt.trans K2 all0
  have F_coder_a : Fld Z _ a "java/lang/String" "coder" "B" (.int 0) := D_a (Or.inr (w40 hw)) (ty := .byte) (by decide)
  have F_value_a : Fld Z _ a "java/lang/String" "value" "[B" .null := D_a (Or.inr (w39 hw)) (ty := (.array .byte)) (by decide)
  have la := nlt M_a.2.1
  have Kt0 := Kt.1
  refine s_dup (pc' := 17) W d_jdk_42_method_139_16 rfl rfl ?_
  refine s_iload_n (pc' := 18) W d_jdk_42_method_139_17 rfl rfl ?_
  refine s_static (pc' := 21) W (w291 hw) (w292 hw) (w261 hw) (w293 hw) (by decide) pd27 [(.int x)] rfl (c_tobytesC l hw W.old) all0 rfl d_jdk_42_method_139_18 2 (le rfl) (bl rfl) (bl rfl) (bl rfl) (bl rfl) rfl ?_
  rintro _ T vm h W C3 ⟨b, kb, rfl, K3, V_b, hb⟩
  replace Kt := Kt.trans K3 all0
  replace E_a := E_a.keep K3
  replace M_a := M_a.mv C3
  replace F_coder_a := F_coder_a.keep K3 nin0
  replace F_value_a := F_value_a.keep K3 nin0
  have nab : @Ne Nat a b := by omega
  refine s_iconst (pc' := 22) W (0 : Int32) d_jdk_42_method_139_21 rfl rfl ?_
  refine s_init (pc' := 25) W rfl (w294 hw) (w295 hw) (w25 hw) (w296 hw) (by decide) pd28 [(.ref b), (.int (0 : Int32))] rfl (c_strinitB l hw W.old (cs := [x]) E_a M_a.1 M_a.2.1 F_coder_a F_value_a V_b (by simp [hL]) (by simp) nab) (allS ⟨M_a.2.1, M_a.2.2⟩ all0) rfl d_jdk_42_method_139_22 1 (le rfl) (bl rfl) (bl rfl) (bl rfl) (bl rfl) rfl ?_
  rintro _ T vm h W C4 ⟨rfl, K4, La⟩
  replace Kt := Kt.trans K4 (allS (P := fun x => _ ∨ _) (Or.inr fs_a) all0)
  replace E_a := E_a.keep K4
  replace M_a := M_a.mv C4
  refine s_areturn W rfl rfl rfl d_jdk_42_method_139_25 (bl rfl) (bl rfl) ?_
  intro vm' C'
  exact ⟨a, b, kb, rfl, Kt, La, fs_a, Nat.le_trans Kt0 hb⟩
set_option maxRecDepth 65536 in
set_option maxHeartbeats 40000000 in
theorem ef_thr (m : MethodId) (x0 : Addr) (x1 : Addr) : entryFrame m #[(.ref x0), (.ref x1)] 2 = mkF m 0 #[.val (.ref x0), .val (.ref x1)] [] := by first | (simp [entryFrame, mkF, argsToLocals, Value.category]; done) | rfl
set_option maxRecDepth 65536 in
set_option maxHeartbeats 40000000 in
theorem c_thr (l : Launch) {Z : State} {a0 : Array Value} (hw : Hw Z a0) {n0 : Nat} {h : Heap} (O : Old Z n0 h) (HT : ∀ e : Env, l.admits e → e.platform.stackTraces = true) (TS : ThSt Z) {a t : Nat} (E : Exa Z h a "com/example/nerai/nerai/crawler/MalformedFileException") (U : Unt h a) (F_cause : Fld Z h a "java/lang/Throwable" "cause" "Ljava/lang/Throwable;" .null) (F_stackTrace : Fld Z h a "java/lang/Throwable" "stackTrace" "[Ljava/lang/StackTraceElement;" .null) (F_suppressedExceptions : Fld Z h a "java/lang/Throwable" "suppressedExceptions" "Ljava/util/List;" .null) (F_backtrace : Fld Z h a "java/lang/Throwable" "backtrace" "Ljava/lang/Object;" .null) (F_detailMessage : Fld Z h a "java/lang/Throwable" "detailMessage" "Ljava/lang/String;" .null) (M0 : n0 ≤ a) :
    ConK l Z EL1 n0 (⟨"java/lang/Throwable", "<init>", "(Ljava/lang/String;)V"⟩ : MethodName) jdk_78_method_2_code 2 none [] ({ frames := 3, cells := 1, slots := 2752, locals := 42 } : Room) #[(.ref a), (.ref t)] h [a] (fun v vm' h' => v = none ∧ Keep h h' [a] ∧ Fld Z h' a "java/lang/Throwable" "detailMessage" "Ljava/lang/String;" (.ref t)) := by
  refine ConK.of pn43 O (el hw) ?_
  intro pg_ e s m below meth cd_ T W hs_ hSf hKn
  rw [ef_thr]
  have M : Mine Z EL1 n0 s.vm h a := ⟨M0, E.lt, hSf a (by simp)⟩
  have Kt := Keep.refl h [a]
  obtain ⟨us, sv, Su, hus, hun, Ss, hsv⟩ := TS
  refine s_aload_n (pc' := 1) W d_jdk_78_method_2_0 rfl rfl rfl ?_
  refine s_objinit (pc' := 4) W (w205 hw) (w35 hw) (w36 hw) rfl d_jdk_78_method_2_1 0 (le rfl) (bl rfl) (bl rfl) rfl ?_
  intro T W
  refine s_aload_n (pc' := 5) W d_jdk_78_method_2_4 rfl rfl rfl ?_
  refine s_aload_n (pc' := 6) W d_jdk_78_method_2_5 rfl rfl rfl ?_
  refine s_putf (pc' := 9) W (w206 hw) Via.refl F_cause E M (Or.inl (w207 hw)) (w50 hw) (ty := (.object "java/lang/Throwable")) (by decide) rfl rfl d_jdk_78_method_2_6 rfl ?_
  intro T h W K1 C1 Wr1 Fn1
  replace F_stackTrace := F_stackTrace.other Wr1 (Or.inr (slot_ne (Or.inl (w210 hw)) (Or.inl (w207 hw)) (by decide) (by decide : parseFieldDescriptor "[Ljava/lang/StackTraceElement;" = some (.array (.object "java/lang/StackTraceElement"))) (by decide : parseFieldDescriptor "Ljava/lang/Throwable;" = some (.object "java/lang/Throwable"))))
  replace F_suppressedExceptions := F_suppressedExceptions.other Wr1 (Or.inr (slot_ne (Or.inl (w213 hw)) (Or.inl (w207 hw)) (by decide) (by decide : parseFieldDescriptor "Ljava/util/List;" = some (.object "java/util/List")) (by decide : parseFieldDescriptor "Ljava/lang/Throwable;" = some (.object "java/lang/Throwable"))))
  replace F_backtrace := F_backtrace.other Wr1 (Or.inr (slot_ne (Or.inl (w238 hw)) (Or.inl (w207 hw)) (by decide) (by decide : parseFieldDescriptor "Ljava/lang/Object;" = some (.object "java/lang/Object")) (by decide : parseFieldDescriptor "Ljava/lang/Throwable;" = some (.object "java/lang/Throwable"))))
  replace F_detailMessage := F_detailMessage.other Wr1 (Or.inr (slot_ne (Or.inl (w237 hw)) (Or.inl (w207 hw)) (by decide) (by decide : parseFieldDescriptor "Ljava/lang/String;" = some (.object "java/lang/String")) (by decide : parseFieldDescriptor "Ljava/lang/Throwable;" = some (.object "java/lang/Throwable"))))
  replace Kt := Kt.trans K1 (allS (P := fun x => _ ∨ _) (Or.inl (by simp)) all0)
  replace E := E.keep K1
  replace M := M.mv C1
  have F_cause := Fn1
  clear Fn1
  replace U := U.wr Wr1
  refine s_aload_n (pc' := 10) W d_jdk_78_method_2_9 rfl rfl rfl ?_
  refine s_gets (pc' := 13) W (w208 hw) Via.refl Su d_jdk_78_method_2_10 rfl ?_
  intro T W
  refine s_putfn (pc' := 16) W (w209 hw) Via.refl F_stackTrace E M (Or.inl (w210 hw)) (w50 hw) (ty := (.array (.object "java/lang/StackTraceElement"))) (v' := us) (by decide) (narrow_isRef _ hus) (fits_refV_array _ ⟨us, hus⟩) d_jdk_78_method_2_13 rfl ?_
  intro T h W K2 C2 Wr2 Fn2
  replace F_suppressedExceptions := F_suppressedExceptions.other Wr2 (Or.inr (slot_ne (Or.inl (w213 hw)) (Or.inl (w210 hw)) (by decide) (by decide : parseFieldDescriptor "Ljava/util/List;" = some (.object "java/util/List")) (by decide : parseFieldDescriptor "[Ljava/lang/StackTraceElement;" = some (.array (.object "java/lang/StackTraceElement")))))
  replace F_backtrace := F_backtrace.other Wr2 (Or.inr (slot_ne (Or.inl (w238 hw)) (Or.inl (w210 hw)) (by decide) (by decide : parseFieldDescriptor "Ljava/lang/Object;" = some (.object "java/lang/Object")) (by decide : parseFieldDescriptor "[Ljava/lang/StackTraceElement;" = some (.array (.object "java/lang/StackTraceElement")))))
  replace F_detailMessage := F_detailMessage.other Wr2 (Or.inr (slot_ne (Or.inl (w237 hw)) (Or.inl (w210 hw)) (by decide) (by decide : parseFieldDescriptor "Ljava/lang/String;" = some (.object "java/lang/String")) (by decide : parseFieldDescriptor "[Ljava/lang/StackTraceElement;" = some (.array (.object "java/lang/StackTraceElement")))))
  replace F_cause := F_cause.other Wr2 (Or.inr (slot_ne (Or.inl (w207 hw)) (Or.inl (w210 hw)) (by decide) (by decide : parseFieldDescriptor "Ljava/lang/Throwable;" = some (.object "java/lang/Throwable")) (by decide : parseFieldDescriptor "[Ljava/lang/StackTraceElement;" = some (.array (.object "java/lang/StackTraceElement")))))
  replace Kt := Kt.trans K2 (allS (P := fun x => _ ∨ _) (Or.inl (by simp)) all0)
  replace E := E.keep K2
  replace M := M.mv C2
  have F_stackTrace := Fn2
  clear Fn2
  replace U := U.wr Wr2
  refine s_aload_n (pc' := 17) W d_jdk_78_method_2_16 rfl rfl rfl ?_
  refine s_gets (pc' := 20) W (w211 hw) Via.refl Ss d_jdk_78_method_2_17 rfl ?_
  intro T W
  refine s_putfn (pc' := 23) W (w212 hw) Via.refl F_suppressedExceptions E M (Or.inl (w213 hw)) (w50 hw) (ty := (.object "java/util/List")) (v' := sv) (by decide) (narrow_isRef _ hsv) (fits_refV_object _ ⟨sv, hsv⟩) d_jdk_78_method_2_20 rfl ?_
  intro T h W K3 C3 Wr3 Fn3
  replace F_backtrace := F_backtrace.other Wr3 (Or.inr (slot_ne (Or.inl (w238 hw)) (Or.inl (w213 hw)) (by decide) (by decide : parseFieldDescriptor "Ljava/lang/Object;" = some (.object "java/lang/Object")) (by decide : parseFieldDescriptor "Ljava/util/List;" = some (.object "java/util/List"))))
  replace F_detailMessage := F_detailMessage.other Wr3 (Or.inr (slot_ne (Or.inl (w237 hw)) (Or.inl (w213 hw)) (by decide) (by decide : parseFieldDescriptor "Ljava/lang/String;" = some (.object "java/lang/String")) (by decide : parseFieldDescriptor "Ljava/util/List;" = some (.object "java/util/List"))))
  replace F_cause := F_cause.other Wr3 (Or.inr (slot_ne (Or.inl (w207 hw)) (Or.inl (w213 hw)) (by decide) (by decide : parseFieldDescriptor "Ljava/lang/Throwable;" = some (.object "java/lang/Throwable")) (by decide : parseFieldDescriptor "Ljava/util/List;" = some (.object "java/util/List"))))
  replace F_stackTrace := F_stackTrace.other Wr3 (Or.inr (slot_ne (Or.inl (w210 hw)) (Or.inl (w213 hw)) (by decide) (by decide : parseFieldDescriptor "[Ljava/lang/StackTraceElement;" = some (.array (.object "java/lang/StackTraceElement"))) (by decide : parseFieldDescriptor "Ljava/util/List;" = some (.object "java/util/List"))))
  replace Kt := Kt.trans K3 (allS (P := fun x => _ ∨ _) (Or.inl (by simp)) all0)
  replace E := E.keep K3
  replace M := M.mv C3
  have F_suppressedExceptions := Fn3
  clear Fn3
  replace U := U.wr Wr3
  refine s_aload_n (pc' := 24) W d_jdk_78_method_2_23 rfl rfl rfl ?_
  refine s_fill (pc' := 27) W HT hKn (rc := "com/example/nerai/nerai/crawler/MalformedFileException") rfl (thrA hw) (w50 hw) E U F_backtrace F_stackTrace Su hus hun M rfl d_jdk_78_method_2_24 0 (le rfl) (bl rfl) (bl rfl) (bl rfl) (bl rfl) rfl ?_
  intro T h W K4 C4
  replace Kt := Kt.trans K4 (allS (P := fun x => _ ∨ _) (Or.inl (by simp)) all0)
  replace E := E.keep K4
  replace M := M.mv C4
  obtain ⟨vd, F_detailMessage⟩ := fld_laid (O := "java/lang/Throwable") (n := "detailMessage") (d := "Ljava/lang/String;") E (known_keep K4 U) (w50 hw) (Or.inl (w237 hw))
  refine s_pop (pc' := 28) W d_jdk_78_method_2_27 rfl rfl ?_
  refine s_aload_n (pc' := 29) W d_jdk_78_method_2_28 rfl rfl rfl ?_
  refine s_aload_n (pc' := 30) W d_jdk_78_method_2_29 rfl rfl rfl ?_
  refine s_putf (pc' := 33) W (w241 hw) Via.refl F_detailMessage E M (Or.inl (w237 hw)) (w50 hw) (ty := (.object "java/lang/String")) (by decide) rfl rfl d_jdk_78_method_2_30 rfl ?_
  intro T h W K5 C5 Wr5 Fn5
  replace Kt := Kt.trans K5 (allS (P := fun x => _ ∨ _) (Or.inl (by simp)) all0)
  replace E := E.keep K5
  replace M := M.mv C5
  have F_detailMessage := Fn5
  clear Fn5
  refine s_ret W rfl d_jdk_78_method_2_33 (bl rfl) (bl rfl) ?_
  intro vm' C'
  exact ⟨rfl, Kt, F_detailMessage⟩
set_option maxRecDepth 65536 in
set_option maxHeartbeats 40000000 in
theorem ef_exc (m : MethodId) (x0 : Addr) (x1 : Addr) : entryFrame m #[(.ref x0), (.ref x1)] 2 = mkF m 0 #[.val (.ref x0), .val (.ref x1)] [] := by first | (simp [entryFrame, mkF, argsToLocals, Value.category]; done) | rfl
set_option maxRecDepth 65536 in
set_option maxHeartbeats 40000000 in
theorem c_exc (l : Launch) {Z : State} {a0 : Array Value} (hw : Hw Z a0) {n0 : Nat} {h : Heap} (O : Old Z n0 h) (HT : ∀ e : Env, l.admits e → e.platform.stackTraces = true) (TS : ThSt Z) {a t : Nat} (E : Exa Z h a "com/example/nerai/nerai/crawler/MalformedFileException") (U : Unt h a) (F_cause : Fld Z h a "java/lang/Throwable" "cause" "Ljava/lang/Throwable;" .null) (F_stackTrace : Fld Z h a "java/lang/Throwable" "stackTrace" "[Ljava/lang/StackTraceElement;" .null) (F_suppressedExceptions : Fld Z h a "java/lang/Throwable" "suppressedExceptions" "Ljava/util/List;" .null) (F_backtrace : Fld Z h a "java/lang/Throwable" "backtrace" "Ljava/lang/Object;" .null) (F_detailMessage : Fld Z h a "java/lang/Throwable" "detailMessage" "Ljava/lang/String;" .null) (M0 : n0 ≤ a) :
    ConK l Z EL1 n0 (⟨"java/lang/Exception", "<init>", "(Ljava/lang/String;)V"⟩ : MethodName) jdk_59_method_2_code 2 none [] ({ frames := 4, cells := 1, slots := 2752, locals := 55 } : Room) #[(.ref a), (.ref t)] h [a] (fun v vm' h' => v = none ∧ Keep h h' [a] ∧ Fld Z h' a "java/lang/Throwable" "detailMessage" "Ljava/lang/String;" (.ref t)) := by
  refine ConK.of pn44 O (el hw) ?_
  intro pg_ e s m below meth cd_ T W hs_ hSf hKn
  rw [ef_exc]
  have Sa := hSf a (by simp)
  refine s_aload_n (pc' := 1) W d_jdk_59_method_2_0 rfl rfl rfl ?_
  refine s_aload_n (pc' := 2) W d_jdk_59_method_2_1 rfl rfl rfl ?_
  refine s_initK (pc' := 5) W hKn rfl (w199 hw) (w200 hw) (w203 hw) (w204 hw) (by decide) pd13 [(.ref t)] rfl (c_thr l hw W.old HT TS E U F_cause F_stackTrace F_suppressedExceptions F_backtrace F_detailMessage M0) (allS ⟨E.lt, Sa⟩ all0) rfl d_jdk_59_method_2_2 0 (le rfl) (bl rfl) (bl rfl) (bl rfl) (bl rfl) rfl ?_
  rintro _ T vm h W C1 ⟨rfl, K1, F⟩
  refine s_ret W rfl d_jdk_59_method_2_5 (bl rfl) (bl rfl) ?_
  intro vm' C'
  exact ⟨rfl, K1, F⟩
set_option maxRecDepth 65536 in
set_option maxHeartbeats 40000000 in
theorem ef_ioe (m : MethodId) (x0 : Addr) (x1 : Addr) : entryFrame m #[(.ref x0), (.ref x1)] 2 = mkF m 0 #[.val (.ref x0), .val (.ref x1)] [] := by first | (simp [entryFrame, mkF, argsToLocals, Value.category]; done) | rfl
set_option maxRecDepth 65536 in
set_option maxHeartbeats 40000000 in
theorem c_ioe (l : Launch) {Z : State} {a0 : Array Value} (hw : Hw Z a0) {n0 : Nat} {h : Heap} (O : Old Z n0 h) (HT : ∀ e : Env, l.admits e → e.platform.stackTraces = true) (TS : ThSt Z) {a t : Nat} (E : Exa Z h a "com/example/nerai/nerai/crawler/MalformedFileException") (U : Unt h a) (F_cause : Fld Z h a "java/lang/Throwable" "cause" "Ljava/lang/Throwable;" .null) (F_stackTrace : Fld Z h a "java/lang/Throwable" "stackTrace" "[Ljava/lang/StackTraceElement;" .null) (F_suppressedExceptions : Fld Z h a "java/lang/Throwable" "suppressedExceptions" "Ljava/util/List;" .null) (F_backtrace : Fld Z h a "java/lang/Throwable" "backtrace" "Ljava/lang/Object;" .null) (F_detailMessage : Fld Z h a "java/lang/Throwable" "detailMessage" "Ljava/lang/String;" .null) (M0 : n0 ≤ a) :
    ConK l Z EL1 n0 (⟨"java/io/IOException", "<init>", "(Ljava/lang/String;)V"⟩ : MethodName) jdk_131_method_2_code 2 none [] ({ frames := 5, cells := 1, slots := 2752, locals := 68 } : Room) #[(.ref a), (.ref t)] h [a] (fun v vm' h' => v = none ∧ Keep h h' [a] ∧ Fld Z h' a "java/lang/Throwable" "detailMessage" "Ljava/lang/String;" (.ref t)) := by
  refine ConK.of pn45 O (el hw) ?_
  intro pg_ e s m below meth cd_ T W hs_ hSf hKn
  rw [ef_ioe]
  have Sa := hSf a (by simp)
  refine s_aload_n (pc' := 1) W d_jdk_131_method_2_0 rfl rfl rfl ?_
  refine s_aload_n (pc' := 2) W d_jdk_131_method_2_1 rfl rfl rfl ?_
  refine s_initK (pc' := 5) W hKn rfl (w193 hw) (w194 hw) (w197 hw) (w198 hw) (by decide) pd13 [(.ref t)] rfl (c_exc l hw W.old HT TS E U F_cause F_stackTrace F_suppressedExceptions F_backtrace F_detailMessage M0) (allS ⟨E.lt, Sa⟩ all0) rfl d_jdk_131_method_2_2 0 (le rfl) (bl rfl) (bl rfl) (bl rfl) (bl rfl) rfl ?_
  rintro _ T vm h W C1 ⟨rfl, K1, F⟩
  refine s_ret W rfl d_jdk_131_method_2_5 (bl rfl) (bl rfl) ?_
  intro vm' C'
  exact ⟨rfl, K1, F⟩
set_option maxRecDepth 65536 in
set_option maxHeartbeats 40000000 in
theorem ef_mfe (m : MethodId) (x0 : Addr) (x1 : Addr) : entryFrame m #[(.ref x0), (.ref x1)] 2 = mkF m 0 #[.val (.ref x0), .val (.ref x1)] [] := by first | (simp [entryFrame, mkF, argsToLocals, Value.category]; done) | rfl
set_option maxRecDepth 65536 in
set_option maxHeartbeats 40000000 in
theorem c_mfe (l : Launch) {Z : State} {a0 : Array Value} (hw : Hw Z a0) {n0 : Nat} {h : Heap} (O : Old Z n0 h) (HT : ∀ e : Env, l.admits e → e.platform.stackTraces = true) (TS : ThSt Z) {a t : Nat} (E : Exa Z h a "com/example/nerai/nerai/crawler/MalformedFileException") (U : Unt h a) (F_cause : Fld Z h a "java/lang/Throwable" "cause" "Ljava/lang/Throwable;" .null) (F_stackTrace : Fld Z h a "java/lang/Throwable" "stackTrace" "[Ljava/lang/StackTraceElement;" .null) (F_suppressedExceptions : Fld Z h a "java/lang/Throwable" "suppressedExceptions" "Ljava/util/List;" .null) (F_backtrace : Fld Z h a "java/lang/Throwable" "backtrace" "Ljava/lang/Object;" .null) (F_detailMessage : Fld Z h a "java/lang/Throwable" "detailMessage" "Ljava/lang/String;" .null) (M0 : n0 ≤ a) :
    ConK l Z EL1 n0 (⟨"com/example/nerai/nerai/crawler/MalformedFileException", "<init>", "(Ljava/lang/String;)V"⟩ : MethodName) prog_11_method_1_code 2 none [] ({ frames := 6, cells := 1, slots := 2752, locals := 81 } : Room) #[(.ref a), (.ref t)] h [a] (fun v vm' h' => v = none ∧ Keep h h' [a] ∧ Fld Z h' a "java/lang/Throwable" "detailMessage" "Ljava/lang/String;" (.ref t)) := by
  refine ConK.of pn46 O (el hw) ?_
  intro pg_ e s m below meth cd_ T W hs_ hSf hKn
  rw [ef_mfe]
  have Sa := hSf a (by simp)
  refine s_aload_n (pc' := 1) W d_prog_11_method_1_0 rfl rfl rfl ?_
  refine s_aload_n (pc' := 2) W d_prog_11_method_1_1 rfl rfl rfl ?_
  refine s_initK (pc' := 5) W hKn rfl (w188 hw) (w189 hw) (w191 hw) (w192 hw) (by decide) pd13 [(.ref t)] rfl (c_ioe l hw W.old HT TS E U F_cause F_stackTrace F_suppressedExceptions F_backtrace F_detailMessage M0) (allS ⟨E.lt, Sa⟩ all0) rfl d_prog_11_method_1_2 0 (le rfl) (bl rfl) (bl rfl) (bl rfl) (bl rfl) rfl ?_
  rintro _ T vm h W C1 ⟨rfl, K1, F⟩
  refine s_ret W rfl d_prog_11_method_1_5 (bl rfl) (bl rfl) ?_
  intro vm' C'
  exact ⟨rfl, K1, F⟩
set_option maxRecDepth 65536 in
set_option maxHeartbeats 40000000 in
theorem ef_atline (m : MethodId) (x0 : Int64) (x1 : Addr) : entryFrame m #[(.long x0), (.ref x1)] 3 = mkF m 0 #[.val (.long x0), .second, .val (.ref x1)] [] := by first | (simp [entryFrame, mkF, argsToLocals, Value.category]; done) | rfl
set_option maxRecDepth 65536 in
set_option maxHeartbeats 40000000 in
theorem c_atline (l : Launch) {Z : State} {a0 : Array Value} (hw : Hw Z a0) {n0 : Nat} {h : Heap} (O : Old Z n0 h) (CS0 : CS Z) (DG : Dg Z) (HT : ∀ e : Env, l.admits e → e.platform.stackTraces = true) (TS : ThSt Z) {x : Int64} {sa sb : Nat} {ks : ClassId} {ds : List Int32} (G : LatB Z h sa sb ks ds) (hds : ds.length ≤ 3) :
    ConK l Z EL1 n0 (⟨"com/example/nerai/nerai/crawler/MalformedFileException", "atLine", "(JLjava/lang/String;)Lcom/example/nerai/nerai/crawler/MalformedFileException;"⟩ : MethodName) prog_11_method_2_code 3 (some (.object "com/example/nerai/nerai/crawler/MalformedFileException")) [] ({ frames := 7, cells := 14, slots := 2988, locals := 95 } : Room) #[(.long x), (.ref sa)] h [] (fun v vm' h' => ∃ ex t c kc d, v = some (.ref ex) ∧ Keep h h' [] ∧ Exa Z h' ex "com/example/nerai/nerai/crawler/MalformedFileException" ∧ Fld Z h' ex "java/lang/Throwable" "detailMessage" "Ljava/lang/String;" (.ref t) ∧ LatB Z h' t c kc ((((([] : List Int32) ++ [(108 : Int32), (105 : Int32), (110 : Int32), (101 : Int32), (32 : Int32)]) ++ ((if x < 0 then [45] else [] : List Int32) ++ decs x.toInt.natAbs d)) ++ [(58 : Int32), (32 : Int32)]) ++ ds) ∧ isDig x.toInt.natAbs d ∧ d ≤ 19) := by
  refine ConK.of pn47 O (el hw) ?_
  intro pg_ e s m below meth cd_ T W hs_ hSf hKn
  rw [ef_atline]
  have Kt := Keep.refl h []
  have l_sa := nlt G.lt
  have l_sb := nlt G.ltb
  refine s_new (pc' := 3) W (w49 hw) (w50 hw) (w47 hw) d_prog_11_method_2_0 (by (try dsimp only) <;> omega) (by (try dsimp only) <;> omega) rfl ?_
  intro ex T h g_ex
  have fs_ex := Nat.le_trans Kt.1 (Nat.le_of_eq g_ex.symm)
  have ne_sa_ex : @Ne Nat sa ex := by have := nlt G.lt; omega
  have ne_sb_ex : @Ne Nat sb ex := by have := nlt G.ltb; omega
  intro W K1 C1 M_ex E_ex D_ex U_ex
  replace Kt := Kt.trans K1 all0
  replace G := G.keep K1 nin0 nin0
  have F_cause_ex : Fld Z _ ex "java/lang/Throwable" "cause" "Ljava/lang/Throwable;" .null := D_ex (Or.inl (w207 hw)) (ty := (.object "java/lang/Throwable")) (by decide)
  have F_stackTrace_ex : Fld Z _ ex "java/lang/Throwable" "stackTrace" "[Ljava/lang/StackTraceElement;" .null := D_ex (Or.inl (w210 hw)) (ty := (.array (.object "java/lang/StackTraceElement"))) (by decide)
  have F_suppressedExceptions_ex : Fld Z _ ex "java/lang/Throwable" "suppressedExceptions" "Ljava/util/List;" .null := D_ex (Or.inl (w213 hw)) (ty := (.object "java/util/List")) (by decide)
  have F_backtrace_ex : Fld Z _ ex "java/lang/Throwable" "backtrace" "Ljava/lang/Object;" .null := D_ex (Or.inl (w238 hw)) (ty := (.object "java/lang/Object")) (by decide)
  have F_detailMessage_ex : Fld Z _ ex "java/lang/Throwable" "detailMessage" "Ljava/lang/String;" .null := D_ex (Or.inl (w237 hw)) (ty := (.object "java/lang/String")) (by decide)
  have l_ex := nlt M_ex.2.1
  refine s_dup (pc' := 4) W d_prog_11_method_2_3 rfl rfl ?_
  refine s_new (pc' := 7) W (w51 hw) (w52 hw) (w53 hw) d_prog_11_method_2_4 (by (try dsimp only) <;> omega) (by (try dsimp only) <;> omega) rfl ?_
  intro a T h g_a
  have fs_a := Nat.le_trans Kt.1 (Nat.le_of_eq g_a.symm)
  have ne_sa_a : @Ne Nat sa a := by have := nlt G.lt; omega
  have ne_sb_a : @Ne Nat sb a := by have := nlt G.ltb; omega
  have ne_ex_a : @Ne Nat ex a := by have := nlt E_ex.lt; omega
  intro W K2 C2 M_a E_a D_a U_a
  replace Kt := Kt.trans K2 all0
  replace G := G.keep K2 nin0 nin0
  replace E_ex := E_ex.keep K2
  replace M_ex := M_ex.mv C2
  replace U_ex := U_ex.keepk K2 nin0
  replace F_cause_ex := F_cause_ex.keep K2 nin0
  replace F_stackTrace_ex := F_stackTrace_ex.keep K2 nin0
  replace F_suppressedExceptions_ex := F_suppressedExceptions_ex.keep K2 nin0
  replace F_backtrace_ex := F_backtrace_ex.keep K2 nin0
  replace F_detailMessage_ex := F_detailMessage_ex.keep K2 nin0
  have F_coder_a : Fld Z _ a "java/lang/AbstractStringBuilder" "coder" "B" (.int 0) := D_a (Or.inl (w68 hw)) (ty := .byte) (by decide)
  have F_value_a : Fld Z _ a "java/lang/AbstractStringBuilder" "value" "[B" .null := D_a (Or.inl (w66 hw)) (ty := (.array .byte)) (by decide)
  have F_count_a : Fld Z _ a "java/lang/AbstractStringBuilder" "count" "I" (.int 0) := D_a (Or.inl (w92 hw)) (ty := .int) (by decide)
  have la := nlt M_a.2.1
  have Kt0 := Kt.1
  have l_ex2 := nlt M_ex.2.1
  refine s_dup (pc' := 8) W d_prog_11_method_2_7 rfl rfl ?_
  refine s_init (pc' := 11) W rfl (w54 hw) (w55 hw) (w53 hw) (w56 hw) (by decide) pd29 [] rfl (c_sbinit l hw W.old CS0 E_a M_a.1 M_a.2.1 F_coder_a F_value_a F_count_a) (allS ⟨M_a.2.1, M_a.2.2⟩ all0) rfl d_prog_11_method_2_8 3 (le rfl) (bl rfl) (bl rfl) (by (try dsimp only) <;> omega) (by (try dsimp only) <;> omega) rfl ?_
  rintro _ T vm h W C3 ⟨rfl, K3, b, kb, Sb, hb_, M_b⟩
  replace Kt := Kt.trans K3 (allS (P := fun x => _ ∨ _) (Or.inr fs_a) all0)
  replace G := G.keep K3 (ninS ne_sa_a nin0) (ninS ne_sb_a nin0)
  replace E_ex := E_ex.keep K3
  replace M_ex := M_ex.mv C3
  replace U_ex := U_ex.keepk K3 (ninS ne_ex_a nin0)
  replace F_cause_ex := F_cause_ex.keep K3 (ninS ne_ex_a nin0)
  replace F_stackTrace_ex := F_stackTrace_ex.keep K3 (ninS ne_ex_a nin0)
  replace F_suppressedExceptions_ex := F_suppressedExceptions_ex.keep K3 (ninS ne_ex_a nin0)
  replace F_backtrace_ex := F_backtrace_ex.keep K3 (ninS ne_ex_a nin0)
  replace F_detailMessage_ex := F_detailMessage_ex.keep K3 (ninS ne_ex_a nin0)
  replace E_a := E_a.keep K3
  replace M_a := M_a.mv C3
  have nab : @Ne Nat a b := by omega
  have fs_b := Nat.le_trans Kt0 hb_
  have ne_sa_b : @Ne Nat sa b := by omega
  have ne_sb_b : @Ne Nat sb b := by omega
  have ne_ex_b : @Ne Nat ex b := by omega
  have hcp : (16 : Nat) = 16 ∨ (16 : Nat) = 34 := Or.inl rfl
  replace W := W.more (cells' := 3) (slots' := 26) (by (try dsimp only) <;> omega) (by (try dsimp only) <;> omega)
  refine s_ldcS (pc' := 13) W 20 (w69 hw) (wS hw) (by decide +kernel) (vs := [.int (108), .int (105), .int (110), .int (101), .int (32)]) (z := 5) (by decide +kernel) (by decide) (by decide) d_prog_11_method_2_11 (by decide +kernel) (by decide) (by (try dsimp only) <;> omega) (by (try dsimp only) <;> omega) rfl ?_
  intro e1 b_e1 k_e1 T vm h W K4 C4 E_e1 Fc_e1 Fv_e1 V_e1 N_e1
  replace Kt := Kt.trans K4 all0
  replace G := G.keep K4 nin0 nin0
  replace E_ex := E_ex.keep K4
  replace M_ex := M_ex.mv C4
  replace U_ex := U_ex.keepk K4 nin0
  replace F_cause_ex := F_cause_ex.keep K4 nin0
  replace F_stackTrace_ex := F_stackTrace_ex.keep K4 nin0
  replace F_suppressedExceptions_ex := F_suppressedExceptions_ex.keep K4 nin0
  replace F_backtrace_ex := F_backtrace_ex.keep K4 nin0
  replace F_detailMessage_ex := F_detailMessage_ex.keep K4 nin0
  replace M_a := M_a.mv C4
  replace M_b := M_b.mv C4
  replace Sb := Sb.keep K4 nin0 nin0
  have G_e1 : LatB Z _ e1 b_e1 k_e1 [108, 105, 110, 101, 32] := ⟨E_e1, Fc_e1, Fv_e1, V_e1, by simp [L1]; try decide, by decide⟩
  have ne_ex_e1 := N_e1 _ M_ex.2.2
  have ne_a_e1 := N_e1 _ M_a.2.2
  have ne_b_e1 := N_e1 _ M_b.2.2
  have hgs : gcap 16 ((([] : List Int32)).length + ([(108 : Int32), (105 : Int32), (110 : Int32), (101 : Int32), (32 : Int32)]).length) = 16 ∨ gcap 16 ((([] : List Int32)).length + ([(108 : Int32), (105 : Int32), (110 : Int32), (101 : Int32), (32 : Int32)]).length) = 34 := gcap_set hcp (by simp only [List.length_append, List.length_cons, List.length_nil, decs_len]; omega)
  have lt5_0 := nlt G.lt
  have lt5_1 := nlt G.ltb
  have lt5_2 := nlt E_ex.lt
  have lt5_3 := nlt M_a.2.1
  have lt5_4 := nlt M_b.2.1
  have lt5_5 := nlt G_e1.lt
  have lt5_6 := nlt G_e1.ltb
  have KtS5 := Kt.1
  refine s_virt (pc' := 16) W (C0 := "java/lang/StringBuilder") (w70 hw) (w71 hw) (w73 hw) (w72 hw) (w53 hw) (w74 hw) (notFace_of_selects (args := a0) (w73 hw)) (by decide) pd30 [(.ref e1)] rfl Sb.1 (c_sbappendG l hw W.old CS0 Sb G_e1 (by omega) (Ne.symm ne_a_e1.1) (Ne.symm ne_a_e1.2) nab M_a.1 M_b.1) (allS ⟨M_a.2.1, M_a.2.2⟩ (allS ⟨M_b.2.1, M_b.2.2⟩ all0)) rfl d_prog_11_method_2_13 2 (le rfl) (bl rfl) (bl rfl) (by (try dsimp only) <;> omega) (by (try dsimp only) <;> omega) rfl ?_
  rintro _ T vm h W C6 ⟨rfl, K6, b1, k_b1, Sb, hg_b1, M_b1, nab⟩
  replace Kt := Kt.trans K6 (allS (P := fun x => _ ∨ _) (Or.inr fs_a) (allS (P := fun x => _ ∨ _) (Or.inr fs_b) all0))
  replace G := G.keep K6 (ninS ne_sa_a (ninS ne_sa_b nin0)) (ninS ne_sb_a (ninS ne_sb_b nin0))
  replace E_ex := E_ex.keep K6
  replace M_ex := M_ex.mv C6
  replace U_ex := U_ex.keepk K6 (ninS ne_ex_a (ninS ne_ex_b nin0))
  replace F_cause_ex := F_cause_ex.keep K6 (ninS ne_ex_a (ninS ne_ex_b nin0))
  replace F_stackTrace_ex := F_stackTrace_ex.keep K6 (ninS ne_ex_a (ninS ne_ex_b nin0))
  replace F_suppressedExceptions_ex := F_suppressedExceptions_ex.keep K6 (ninS ne_ex_a (ninS ne_ex_b nin0))
  replace F_backtrace_ex := F_backtrace_ex.keep K6 (ninS ne_ex_a (ninS ne_ex_b nin0))
  replace F_detailMessage_ex := F_detailMessage_ex.keep K6 (ninS ne_ex_a (ninS ne_ex_b nin0))
  replace M_a := M_a.mv C6
  replace M_b := M_b.mv C6
  replace G_e1 := G_e1.keep K6 (ninS (Ne.symm ne_a_e1.1) (ninS (Ne.symm ne_b_e1.1) nin0)) (ninS (Ne.symm ne_a_e1.2) (ninS (Ne.symm ne_b_e1.2) nin0))
  have ne_sa_b1 : @Ne Nat sa b1 := by rcases hg_b1 with q | q; rw [q]; exact ne_sa_b; omega
  have ne_sb_b1 : @Ne Nat sb b1 := by rcases hg_b1 with q | q; rw [q]; exact ne_sb_b; omega
  have ne_ex_b1 : @Ne Nat ex b1 := by rcases hg_b1 with q | q; rw [q]; exact ne_ex_b; omega
  have fs_b1 := hg_b1.elim (fun q => by rw [q]; exact fs_b) (fun q => Nat.le_trans KtS5 q)
  generalize gcap 16 ((([] : List Int32)).length + ([(108 : Int32), (105 : Int32), (110 : Int32), (101 : Int32), (32 : Int32)]).length) = cp1 at hgs Sb W
  have hcp := hgs
  clear hgs
  replace W := W.more (cells' := 6) (slots' := 84) (by (try dsimp only) <;> omega) (by (try dsimp only) <;> omega)
  have hgs : gcap cp1 ((([] : List Int32) ++ [(108 : Int32), (105 : Int32), (110 : Int32), (101 : Int32), (32 : Int32)]).length + 20) = 16 ∨ gcap cp1 ((([] : List Int32) ++ [(108 : Int32), (105 : Int32), (110 : Int32), (101 : Int32), (32 : Int32)]).length + 20) = 34 := gcap_set hcp (by simp only [List.length_append, List.length_cons, List.length_nil, decs_len]; omega)
  have lt7_0 := nlt G.lt
  have lt7_1 := nlt G.ltb
  have lt7_2 := nlt E_ex.lt
  have lt7_3 := nlt M_a.2.1
  have lt7_4 := nlt M_b1.2.1
  have KtS7 := Kt.1
  refine s_lload_n (pc' := 17) W d_prog_11_method_2_16 rfl rfl ?_
  refine s_virt (pc' := 20) W (C0 := "java/lang/StringBuilder") (w118 hw) (w119 hw) (w121 hw) (w120 hw) (w53 hw) (w122 hw) (notFace_of_selects (args := a0) (w121 hw)) (by decide) pd31 [(.long x)] rfl Sb.1 (c_sbappendJ l hw W.old CS0 DG Sb (by omega) nab M_a.1 M_b1.1) (allS ⟨M_a.2.1, M_a.2.2⟩ (allS ⟨M_b1.2.1, M_b1.2.2⟩ all0)) rfl d_prog_11_method_2_17 2 (le rfl) (bl rfl) (bl rfl) (by (try dsimp only) <;> omega) (by (try dsimp only) <;> omega) rfl ?_
  rintro _ T vm h W C8 ⟨rfl, K8, d, hd, hd19, b2, k_b2, Sb, hg_b2, M_b2, nab⟩
  replace Kt := Kt.trans K8 (allS (P := fun x => _ ∨ _) (Or.inr fs_a) (allS (P := fun x => _ ∨ _) (Or.inr fs_b1) all0))
  replace G := G.keep K8 (ninS ne_sa_a (ninS ne_sa_b1 nin0)) (ninS ne_sb_a (ninS ne_sb_b1 nin0))
  replace E_ex := E_ex.keep K8
  replace M_ex := M_ex.mv C8
  replace U_ex := U_ex.keepk K8 (ninS ne_ex_a (ninS ne_ex_b1 nin0))
  replace F_cause_ex := F_cause_ex.keep K8 (ninS ne_ex_a (ninS ne_ex_b1 nin0))
  replace F_stackTrace_ex := F_stackTrace_ex.keep K8 (ninS ne_ex_a (ninS ne_ex_b1 nin0))
  replace F_suppressedExceptions_ex := F_suppressedExceptions_ex.keep K8 (ninS ne_ex_a (ninS ne_ex_b1 nin0))
  replace F_backtrace_ex := F_backtrace_ex.keep K8 (ninS ne_ex_a (ninS ne_ex_b1 nin0))
  replace F_detailMessage_ex := F_detailMessage_ex.keep K8 (ninS ne_ex_a (ninS ne_ex_b1 nin0))
  replace M_a := M_a.mv C8
  replace M_b1 := M_b1.mv C8
  have ne_sa_b2 : @Ne Nat sa b2 := by rcases hg_b2 with q | q; rw [q]; exact ne_sa_b1; omega
  have ne_sb_b2 : @Ne Nat sb b2 := by rcases hg_b2 with q | q; rw [q]; exact ne_sb_b1; omega
  have ne_ex_b2 : @Ne Nat ex b2 := by rcases hg_b2 with q | q; rw [q]; exact ne_ex_b1; omega
  have fs_b2 := hg_b2.elim (fun q => by rw [q]; exact fs_b1) (fun q => Nat.le_trans KtS7 q)
  replace W := W.more (cells' := 7) (slots' := 118) (by (try dsimp only) <;> omega) (by (try dsimp only) <;> omega)
  clear hgs
  have hsgl : (if x < 0 then [45] else [] : List Int32).length = (if x < 0 then 1 else 0) := by split <;> rfl
  have hsg1 : (if x < 0 then 1 else 0) ≤ 1 := by split <;> decide
  have hgs : gcap cp1 ((([] : List Int32) ++ [(108 : Int32), (105 : Int32), (110 : Int32), (101 : Int32), (32 : Int32)]).length + (d + (if x < 0 then 1 else 0))) = 16 ∨ gcap cp1 ((([] : List Int32) ++ [(108 : Int32), (105 : Int32), (110 : Int32), (101 : Int32), (32 : Int32)]).length + (d + (if x < 0 then 1 else 0))) = 34 := gcap_set hcp (by simp only [List.length_append, List.length_cons, List.length_nil, decs_len]; omega)
  generalize gcap cp1 ((([] : List Int32) ++ [(108 : Int32), (105 : Int32), (110 : Int32), (101 : Int32), (32 : Int32)]).length + (d + (if x < 0 then 1 else 0))) = cp2 at hgs Sb
  have hcp := hgs
  clear hgs
  refine s_ldcS (pc' := 22) W 8 (w143 hw) (wS hw) (by decide +kernel) (vs := [.int (58), .int (32)]) (z := 2) (by decide +kernel) (by decide) (by decide) d_prog_11_method_2_20 (by decide +kernel) (by decide) (by (try dsimp only) <;> omega) (by (try dsimp only) <;> omega) rfl ?_
  intro e2 b_e2 k_e2 T vm h W K9 C9 E_e2 Fc_e2 Fv_e2 V_e2 N_e2
  replace Kt := Kt.trans K9 all0
  replace G := G.keep K9 nin0 nin0
  replace E_ex := E_ex.keep K9
  replace M_ex := M_ex.mv C9
  replace U_ex := U_ex.keepk K9 nin0
  replace F_cause_ex := F_cause_ex.keep K9 nin0
  replace F_stackTrace_ex := F_stackTrace_ex.keep K9 nin0
  replace F_suppressedExceptions_ex := F_suppressedExceptions_ex.keep K9 nin0
  replace F_backtrace_ex := F_backtrace_ex.keep K9 nin0
  replace F_detailMessage_ex := F_detailMessage_ex.keep K9 nin0
  replace M_a := M_a.mv C9
  replace Sb := Sb.keep K9 nin0 nin0
  replace M_b2 := M_b2.mv C9
  have G_e2 : LatB Z _ e2 b_e2 k_e2 [58, 32] := ⟨E_e2, Fc_e2, Fv_e2, V_e2, by simp [L1]; try decide, by decide⟩
  have ne_ex_e2 := N_e2 _ M_ex.2.2
  have ne_a_e2 := N_e2 _ M_a.2.2
  have ne_b2_e2 := N_e2 _ M_b2.2.2
  have hgs : gcap cp2 (((([] : List Int32) ++ [(108 : Int32), (105 : Int32), (110 : Int32), (101 : Int32), (32 : Int32)]) ++ ((if x < 0 then [45] else [] : List Int32) ++ decs x.toInt.natAbs d)).length + ([(58 : Int32), (32 : Int32)]).length) = 16 ∨ gcap cp2 (((([] : List Int32) ++ [(108 : Int32), (105 : Int32), (110 : Int32), (101 : Int32), (32 : Int32)]) ++ ((if x < 0 then [45] else [] : List Int32) ++ decs x.toInt.natAbs d)).length + ([(58 : Int32), (32 : Int32)]).length) = 34 := gcap_set hcp (by simp only [List.length_append, List.length_cons, List.length_nil, decs_len]; omega)
  have lt10_0 := nlt G.lt
  have lt10_1 := nlt G.ltb
  have lt10_2 := nlt E_ex.lt
  have lt10_3 := nlt M_a.2.1
  have lt10_4 := nlt M_b2.2.1
  have lt10_5 := nlt G_e2.lt
  have lt10_6 := nlt G_e2.ltb
  have KtS10 := Kt.1
  refine s_virt (pc' := 25) W (C0 := "java/lang/StringBuilder") (w70 hw) (w71 hw) (w73 hw) (w72 hw) (w53 hw) (w74 hw) (notFace_of_selects (args := a0) (w73 hw)) (by decide) pd30 [(.ref e2)] rfl Sb.1 (c_sbappendG l hw W.old CS0 Sb G_e2 (by omega) (Ne.symm ne_a_e2.1) (Ne.symm ne_a_e2.2) nab M_a.1 M_b2.1) (allS ⟨M_a.2.1, M_a.2.2⟩ (allS ⟨M_b2.2.1, M_b2.2.2⟩ all0)) rfl d_prog_11_method_2_22 2 (le rfl) (bl rfl) (bl rfl) (by (try dsimp only) <;> omega) (by (try dsimp only) <;> omega) rfl ?_
  rintro _ T vm h W C11 ⟨rfl, K11, b3, k_b3, Sb, hg_b3, M_b3, nab⟩
  replace Kt := Kt.trans K11 (allS (P := fun x => _ ∨ _) (Or.inr fs_a) (allS (P := fun x => _ ∨ _) (Or.inr fs_b2) all0))
  replace G := G.keep K11 (ninS ne_sa_a (ninS ne_sa_b2 nin0)) (ninS ne_sb_a (ninS ne_sb_b2 nin0))
  replace E_ex := E_ex.keep K11
  replace M_ex := M_ex.mv C11
  replace U_ex := U_ex.keepk K11 (ninS ne_ex_a (ninS ne_ex_b2 nin0))
  replace F_cause_ex := F_cause_ex.keep K11 (ninS ne_ex_a (ninS ne_ex_b2 nin0))
  replace F_stackTrace_ex := F_stackTrace_ex.keep K11 (ninS ne_ex_a (ninS ne_ex_b2 nin0))
  replace F_suppressedExceptions_ex := F_suppressedExceptions_ex.keep K11 (ninS ne_ex_a (ninS ne_ex_b2 nin0))
  replace F_backtrace_ex := F_backtrace_ex.keep K11 (ninS ne_ex_a (ninS ne_ex_b2 nin0))
  replace F_detailMessage_ex := F_detailMessage_ex.keep K11 (ninS ne_ex_a (ninS ne_ex_b2 nin0))
  replace M_a := M_a.mv C11
  replace M_b2 := M_b2.mv C11
  replace G_e2 := G_e2.keep K11 (ninS (Ne.symm ne_a_e2.1) (ninS (Ne.symm ne_b2_e2.1) nin0)) (ninS (Ne.symm ne_a_e2.2) (ninS (Ne.symm ne_b2_e2.2) nin0))
  have ne_sa_b3 : @Ne Nat sa b3 := by rcases hg_b3 with q | q; rw [q]; exact ne_sa_b2; omega
  have ne_sb_b3 : @Ne Nat sb b3 := by rcases hg_b3 with q | q; rw [q]; exact ne_sb_b2; omega
  have ne_ex_b3 : @Ne Nat ex b3 := by rcases hg_b3 with q | q; rw [q]; exact ne_ex_b2; omega
  have fs_b3 := hg_b3.elim (fun q => by rw [q]; exact fs_b2) (fun q => Nat.le_trans KtS10 q)
  generalize gcap cp2 (((([] : List Int32) ++ [(108 : Int32), (105 : Int32), (110 : Int32), (101 : Int32), (32 : Int32)]) ++ ((if x < 0 then [45] else [] : List Int32) ++ decs x.toInt.natAbs d)).length + ([(58 : Int32), (32 : Int32)]).length) = cp3 at hgs Sb W
  have hcp := hgs
  clear hgs
  replace W := W.more (cells' := 10) (slots' := 164) (by (try dsimp only) <;> omega) (by (try dsimp only) <;> omega)
  have hgs : gcap cp3 ((((([] : List Int32) ++ [(108 : Int32), (105 : Int32), (110 : Int32), (101 : Int32), (32 : Int32)]) ++ ((if x < 0 then [45] else [] : List Int32) ++ decs x.toInt.natAbs d)) ++ [(58 : Int32), (32 : Int32)]).length + ds.length) = 16 ∨ gcap cp3 ((((([] : List Int32) ++ [(108 : Int32), (105 : Int32), (110 : Int32), (101 : Int32), (32 : Int32)]) ++ ((if x < 0 then [45] else [] : List Int32) ++ decs x.toInt.natAbs d)) ++ [(58 : Int32), (32 : Int32)]).length + ds.length) = 34 := gcap_set hcp (by simp only [List.length_append, List.length_cons, List.length_nil, decs_len]; omega)
  have lt12_0 := nlt G.lt
  have lt12_1 := nlt G.ltb
  have lt12_2 := nlt E_ex.lt
  have lt12_3 := nlt M_a.2.1
  have lt12_4 := nlt M_b3.2.1
  have KtS12 := Kt.1
  refine s_aload_n (pc' := 26) W d_prog_11_method_2_25 rfl rfl rfl ?_
  refine s_virt (pc' := 29) W (C0 := "java/lang/StringBuilder") (w70 hw) (w71 hw) (w73 hw) (w72 hw) (w53 hw) (w74 hw) (notFace_of_selects (args := a0) (w73 hw)) (by decide) pd30 [(.ref sa)] rfl Sb.1 (c_sbappendG l hw W.old CS0 Sb G (by omega) ne_sa_a ne_sb_a nab M_a.1 M_b3.1) (allS ⟨M_a.2.1, M_a.2.2⟩ (allS ⟨M_b3.2.1, M_b3.2.2⟩ all0)) rfl d_prog_11_method_2_26 2 (le rfl) (bl rfl) (bl rfl) (by (try dsimp only) <;> omega) (by (try dsimp only) <;> omega) rfl ?_
  rintro _ T vm h W C13 ⟨rfl, K13, b4, k_b4, Sb, hg_b4, M_b4, nab⟩
  replace Kt := Kt.trans K13 (allS (P := fun x => _ ∨ _) (Or.inr fs_a) (allS (P := fun x => _ ∨ _) (Or.inr fs_b3) all0))
  replace G := G.keep K13 (ninS ne_sa_a (ninS ne_sa_b3 nin0)) (ninS ne_sb_a (ninS ne_sb_b3 nin0))
  replace E_ex := E_ex.keep K13
  replace M_ex := M_ex.mv C13
  replace U_ex := U_ex.keepk K13 (ninS ne_ex_a (ninS ne_ex_b3 nin0))
  replace F_cause_ex := F_cause_ex.keep K13 (ninS ne_ex_a (ninS ne_ex_b3 nin0))
  replace F_stackTrace_ex := F_stackTrace_ex.keep K13 (ninS ne_ex_a (ninS ne_ex_b3 nin0))
  replace F_suppressedExceptions_ex := F_suppressedExceptions_ex.keep K13 (ninS ne_ex_a (ninS ne_ex_b3 nin0))
  replace F_backtrace_ex := F_backtrace_ex.keep K13 (ninS ne_ex_a (ninS ne_ex_b3 nin0))
  replace F_detailMessage_ex := F_detailMessage_ex.keep K13 (ninS ne_ex_a (ninS ne_ex_b3 nin0))
  replace M_a := M_a.mv C13
  replace M_b3 := M_b3.mv C13
  have ne_ex_b4 : @Ne Nat ex b4 := by rcases hg_b4 with q | q; rw [q]; exact ne_ex_b3; omega
  have fs_b4 := hg_b4.elim (fun q => by rw [q]; exact fs_b3) (fun q => Nat.le_trans KtS12 q)
  generalize gcap cp3 ((((([] : List Int32) ++ [(108 : Int32), (105 : Int32), (110 : Int32), (101 : Int32), (32 : Int32)]) ++ ((if x < 0 then [45] else [] : List Int32) ++ decs x.toInt.natAbs d)) ++ [(58 : Int32), (32 : Int32)]).length + ds.length) = cp4 at hgs Sb W
  have hcp := hgs
  clear hgs
  replace W := W.more (cells' := 11) (slots' := 198) (by (try dsimp only) <;> omega) (by (try dsimp only) <;> omega)
  have lt14_0 := nlt E_ex.lt
  have lt14_1 := nlt M_a.2.1
  have lt14_2 := nlt Sb.ltb
  have KtS14 := Kt.1
  refine s_virt (pc' := 32) W (C0 := "java/lang/StringBuilder") (w144 hw) (w145 hw) (w147 hw) (w146 hw) (w53 hw) (w148 hw) (notFace_of_selects (args := a0) (w147 hw)) (by decide) pd32 [] rfl Sb.1 (c_sbtostring l hw W.old CS0 Sb) all0 rfl d_prog_11_method_2_29 2 (le rfl) (bl rfl) (bl rfl) (by (try dsimp only) <;> omega) (by (try dsimp only) <;> omega) rfl ?_
  rintro _ T vm h W C15 ⟨t, c_, kc, rfl, K15, L, ht⟩
  replace Kt := Kt.trans K15 all0
  replace E_ex := E_ex.keep K15
  replace M_ex := M_ex.mv C15
  replace U_ex := U_ex.keepk K15 nin0
  replace F_cause_ex := F_cause_ex.keep K15 nin0
  replace F_stackTrace_ex := F_stackTrace_ex.keep K15 nin0
  replace F_suppressedExceptions_ex := F_suppressedExceptions_ex.keep K15 nin0
  replace F_backtrace_ex := F_backtrace_ex.keep K15 nin0
  replace F_detailMessage_ex := F_detailMessage_ex.keep K15 nin0
  replace M_a := M_a.mv C15
  replace Sb := Sb.keep K15 nin0 nin0
  replace M_b4 := M_b4.mv C15
  have ne_ex_t : @Ne Nat ex t := by omega
  have ne_a_t : @Ne Nat a t := by omega
  have ne_b4_t : @Ne Nat b4 t := by omega
  have fs_t := Nat.le_trans KtS14 ht.1
  have ne_ex_c_ : @Ne Nat ex c_ := by omega
  have ne_a_c_ : @Ne Nat a c_ := by omega
  have ne_b4_c_ : @Ne Nat b4 c_ := by omega
  have fs_c_ := Nat.le_trans KtS14 ht.2
  replace W := W.more (cells' := 13) (slots' := 236) (by (try dsimp only) <;> omega) (by (try dsimp only) <;> omega)
  refine s_initK (pc' := 35) W hKn rfl (w185 hw) (w186 hw) (w47 hw) (w187 hw) (by decide) pd13 [(.ref t)] rfl (c_mfe l hw W.old HT TS E_ex U_ex F_cause_ex F_stackTrace_ex F_suppressedExceptions_ex F_backtrace_ex F_detailMessage_ex M_ex.1) (allS ⟨M_ex.2.1, M_ex.2.2⟩ all0) rfl d_prog_11_method_2_32 1 (le rfl) (bl rfl) (bl rfl) (by (try dsimp only) <;> omega) (by (try dsimp only) <;> omega) rfl ?_
  rintro _ T vm h W C16 ⟨rfl, K16, Fm⟩
  replace Kt := Kt.trans K16 (allS (P := fun x => _ ∨ _) (Or.inr fs_ex) all0)
  replace E_ex := E_ex.keep K16
  replace M_ex := M_ex.mv C16
  replace L := L.keep K16 (ninS (Ne.symm ne_ex_t) nin0) (ninS (Ne.symm ne_ex_c_) nin0)
  refine s_areturn W rfl rfl rfl d_prog_11_method_2_35 (by (try dsimp only) <;> omega) (by (try dsimp only) <;> omega) ?_
  intro vm' C'
  exact ⟨ex, t, c_, kc, d, rfl, Kt, E_ex, Fm, L, hd, hd19⟩
set_option maxRecDepth 65536 in
set_option maxHeartbeats 40000000 in
theorem ef_getmsg (m : MethodId) (x0 : Addr) : entryFrame m #[(.ref x0)] 1 = mkF m 0 #[.val (.ref x0)] [] := by first | (simp [entryFrame, mkF, argsToLocals, Value.category]; done) | rfl
set_option maxRecDepth 65536 in
set_option maxHeartbeats 40000000 in
theorem c_getmsg (l : Launch) {Z : State} {a0 : Array Value} (hw : Hw Z a0) {n0 : Nat} {h : Heap} (O : Old Z n0 h) {a t : Nat} (F : Fld Z h a "java/lang/Throwable" "detailMessage" "Ljava/lang/String;" (.ref t)) :
    Con l Z EL1 n0 (⟨"java/lang/Throwable", "getMessage", "()Ljava/lang/String;"⟩ : MethodName) jdk_78_method_6_code 1 (some (.object "java/lang/String")) [] ({ frames := 0, cells := 0, slots := 0, locals := 0 } : Room) #[(.ref a)] h [] (fun v vm' h' => v = some (.ref t) ∧ h = h') := by
  refine Con.of pn48 O (el hw) ?_
  intro pg_ e s m below meth cd_ T W hs_ hSf
  rw [ef_getmsg]
  refine s_aload_n (pc' := 1) W d_jdk_78_method_6_0 rfl rfl rfl ?_
  refine s_getf (pc' := 4) W (w241 hw) Via.refl F d_jdk_78_method_6_1 rfl ?_
  intro T W
  refine s_areturn W rfl rfl rfl d_jdk_78_method_6_4 (bl rfl) (bl rfl) ?_
  intro vm' C'
  exact ⟨rfl, rfl⟩
set_option maxRecDepth 65536 in
set_option maxHeartbeats 40000000 in
theorem ef_problem (m : MethodId) (x0 : Int32) (x1 : Int32) (x2 : Int32) (x3 : Int32) : entryFrame m #[(.int x0), (.int x1), (.int x2), (.int x3)] 4 = mkF m 0 #[.val (.int x0), .val (.int x1), .val (.int x2), .val (.int x3)] [] := by first | (simp [entryFrame, mkF, argsToLocals, Value.category]; done) | rfl
set_option maxRecDepth 65536 in
set_option maxHeartbeats 40000000 in
theorem c_problem (l : Launch) {Z : State} {a0 : Array Value} (hw : Hw Z a0) {n0 : Nat} {h : Heap} (O : Old Z n0 h) (CS0 : CS Z) {k : Nat} (hk : k ≤ 3) {c0 c1 c2 : Int32} (h0 : L1 c0) (h1 : L1 c1) (h2 : L1 c2) :
    Con l Z EL1 n0 (⟨"com/example/nerai/nerai/crawler/MalformedFileExceptionAtLinePinLaw", "problemOf", "(ICCC)Ljava/lang/String;"⟩ : MethodName) method_2_code 4 (some (.object "java/lang/String")) [] ({ frames := 4, cells := 6, slots := 20, locals := 66 } : Room) #[(.int (Int32.ofNat k)), (.int c0), (.int c1), (.int c2)] h [] (fun v vm' h' => ∃ a b kb, v = some (.ref a) ∧ Keep h h' [] ∧ LatB Z h' a b kb ([c0, c1, c2].take k)) := by
  refine Con.of pn49 O (el hw) ?_
  intro pg_ e s m below meth cd_ T W hs_ hSf
  rw [ef_problem]
  have Kt := Keep.refl h []
  rcases (show k = 0 ∨ k = 1 ∨ k = 2 ∨ k = 3 by omega) with rfl | rfl | rfl | rfl
  · rw [show Int32.ofNat 0 = (0 : Int32) from rfl]
    refine s_iload_n (pc' := 1) W d_method_2_0 rfl rfl ?_
    refine s_ifne (pc' := 4) (pcT := 15) W d_method_2_1 (by decide) rfl rfl (fun hq => absurd (by decide) hq) (fun _ => ?_)
    refine s_new (pc' := 7) W (w23 hw) (w24 hw) (w25 hw) d_method_2_4 (bl rfl) (bl rfl) rfl ?_
    intro s T h g_s
    have fs_s := Nat.le_trans Kt.1 (Nat.le_of_eq g_s.symm)
    intro W K1 C1 M_s E_s D_s U_s
    replace Kt := Kt.trans K1 all0
    have F_coder_s : Fld Z _ s "java/lang/String" "coder" "B" (.int 0) := D_s (Or.inr (w40 hw)) (ty := .byte) (by decide)
    have F_value_s : Fld Z _ s "java/lang/String" "value" "[B" .null := D_s (Or.inr (w39 hw)) (ty := (.array .byte)) (by decide)
    refine s_dup (pc' := 8) W d_method_2_7 rfl rfl ?_
    refine s_iconst (pc' := 9) W (0 : Int32) d_method_2_8 rfl rfl ?_
    refine s_newarr (pc' := 11) W (aty := .char) 0 "[C" (by decide) (w26 hw) d_method_2_9 (by decide) (by decide) (by decide) (bl rfl) (bl rfl) rfl ?_
    intro r T h k_r g_r
    have fs_r := Nat.le_trans Kt.1 (Nat.le_of_eq g_r.symm)
    have ne_s_r : @Ne Nat s r := by have := nlt E_s.lt; omega
    intro W K2 C2 M_r V_r X_r
    replace Kt := Kt.trans K2 all0
    replace E_s := E_s.keep K2
    replace M_s := M_s.mv C2
    replace F_coder_s := F_coder_s.keep K2 nin0
    replace F_value_s := F_value_s.keep K2 nin0
    have V_r : Arv Z _ r k_r .char (0 : Int32) [] (.int 0) := V_r
    refine s_init (pc' := 14) W rfl (w27 hw) (w28 hw) (w25 hw) (w29 hw) (by decide) pd33 [(.ref r)] rfl (c_strinit l hw W.old CS0 (cs := []) (n := 0) rfl (by decide) (by simp) E_s M_s.1 M_s.2.1 F_coder_s F_value_s V_r) (allS ⟨M_s.2.1, M_s.2.2⟩ all0) rfl d_method_2_11 1 (le rfl) (bl rfl) (bl rfl) (bl rfl) (bl rfl) rfl ?_
    rintro _ T vm h W C3 ⟨rfl, K3, b_s, kb_s, Ls⟩
    replace Kt := Kt.trans K3 (allS (P := fun x => _ ∨ _) (Or.inr fs_s) all0)
    replace E_s := E_s.keep K3
    replace M_s := M_s.mv C3
    replace V_r := V_r.keep K3 (ninS (Ne.symm ne_s_r) nin0)
    replace M_r := M_r.mv C3
    replace X_r := X_r.keep K3
    refine s_areturn W rfl rfl rfl d_method_2_14 (bl rfl) (bl rfl) ?_
    intro vm' C'
    exact ⟨s, b_s, kb_s, rfl, Kt, Ls⟩
  · rw [show Int32.ofNat 1 = (1 : Int32) from rfl]
    refine s_iload_n (pc' := 1) W d_method_2_0 rfl rfl ?_
    refine s_ifne (pc' := 4) (pcT := 15) W d_method_2_1 (by decide) rfl rfl (fun _ => ?_) (fun hq => absurd hq (by decide))
    refine s_iload_n (pc' := 16) W d_method_2_15 rfl rfl ?_
    refine s_iconst (pc' := 17) W (1 : Int32) d_method_2_16 rfl rfl ?_
    refine s_icmpne (pc' := 20) (pcT := 25) W d_method_2_17 (by decide) rfl rfl (fun hq => absurd (by decide) hq) (fun _ => ?_)
    refine s_iload_n (pc' := 21) W d_method_2_20 rfl rfl ?_
    refine s_static (pc' := 24) W (w284 hw) (w285 hw) (w25 hw) (w286 hw) (by decide) pd34 [(.int c0)] rfl (c_valueofC l hw W.old CS0 h0) all0 rfl d_method_2_21 0 (le rfl) (bl rfl) (bl rfl) (bl rfl) (bl rfl) rfl ?_
    rintro _ T vm h W C4 ⟨a, b, kb, rfl, K4, La, -⟩
    replace Kt := Kt.trans K4 all0
    refine s_areturn W rfl rfl rfl d_method_2_24 (bl rfl) (bl rfl) ?_
    intro vm' C'
    exact ⟨a, b, kb, rfl, Kt, La⟩
  · rw [show Int32.ofNat 2 = (2 : Int32) from rfl]
    refine s_iload_n (pc' := 1) W d_method_2_0 rfl rfl ?_
    refine s_ifne (pc' := 4) (pcT := 15) W d_method_2_1 (by decide) rfl rfl (fun _ => ?_) (fun hq => absurd hq (by decide))
    refine s_iload_n (pc' := 16) W d_method_2_15 rfl rfl ?_
    refine s_iconst (pc' := 17) W (1 : Int32) d_method_2_16 rfl rfl ?_
    refine s_icmpne (pc' := 20) (pcT := 25) W d_method_2_17 (by decide) rfl rfl (fun _ => ?_) (fun hq => absurd hq (by decide))
    refine s_iload_n (pc' := 26) W d_method_2_25 rfl rfl ?_
    refine s_iconst (pc' := 27) W (2 : Int32) d_method_2_26 rfl rfl ?_
    refine s_icmpne (pc' := 30) (pcT := 49) W d_method_2_27 (by decide) rfl rfl (fun hq => absurd (by decide) hq) (fun _ => ?_)
    refine s_new (pc' := 33) W (w23 hw) (w24 hw) (w25 hw) d_method_2_30 (bl rfl) (bl rfl) rfl ?_
    intro s T h g_s
    have fs_s := Nat.le_trans Kt.1 (Nat.le_of_eq g_s.symm)
    intro W K5 C5 M_s E_s D_s U_s
    replace Kt := Kt.trans K5 all0
    have F_coder_s : Fld Z _ s "java/lang/String" "coder" "B" (.int 0) := D_s (Or.inr (w40 hw)) (ty := .byte) (by decide)
    have F_value_s : Fld Z _ s "java/lang/String" "value" "[B" .null := D_s (Or.inr (w39 hw)) (ty := (.array .byte)) (by decide)
    refine s_dup (pc' := 34) W d_method_2_33 rfl rfl ?_
    refine s_iconst (pc' := 35) W (2 : Int32) d_method_2_34 rfl rfl ?_
    refine s_newarr (pc' := 37) W (aty := .char) 2 "[C" (by decide) (w26 hw) d_method_2_35 (by decide) (by decide) (by decide) (bl rfl) (bl rfl) rfl ?_
    intro r T h k_r g_r
    have fs_r := Nat.le_trans Kt.1 (Nat.le_of_eq g_r.symm)
    have ne_s_r : @Ne Nat s r := by have := nlt E_s.lt; omega
    intro W K6 C6 M_r V_r X_r
    replace Kt := Kt.trans K6 all0
    replace E_s := E_s.keep K6
    replace M_s := M_s.mv C6
    replace F_coder_s := F_coder_s.keep K6 nin0
    replace F_value_s := F_value_s.keep K6 nin0
    have V_r : Arv Z _ r k_r .char (2 : Int32) [.int 0, .int 0] (.int 0) := V_r
    refine s_dup (pc' := 38) W d_method_2_37 rfl rfl ?_
    refine s_iconst (pc' := 39) W (0 : Int32) d_method_2_38 rfl rfl ?_
    refine s_iload_n (pc' := 40) W d_method_2_39 rfl rfl ?_
    refine s_castore (pc' := 41) W 0 V_r M_r rfl (by decide) (by decide) (bt rfl) d_method_2_40 rfl ?_
    intro T h W K7 C7 Vn7
    replace Kt := Kt.trans K7 (allS (P := fun x => _ ∨ _) (Or.inr fs_r) all0)
    replace E_s := E_s.keep K7
    replace M_s := M_s.mv C7
    replace F_coder_s := F_coder_s.keep K7 (ninS ne_s_r nin0)
    replace F_value_s := F_value_s.keep K7 (ninS ne_s_r nin0)
    replace M_r := M_r.mv C7
    replace X_r := X_r.keep K7
    have V_r := Vn7
    clear Vn7
    rw [h0.nar] at V_r
    have V_r : Arv Z _ r k_r .char (2 : Int32) [.int c0, .int 0] (.int 0) := V_r
    refine s_dup (pc' := 42) W d_method_2_41 rfl rfl ?_
    refine s_iconst (pc' := 43) W (1 : Int32) d_method_2_42 rfl rfl ?_
    refine s_iload_n (pc' := 44) W d_method_2_43 rfl rfl ?_
    refine s_castore (pc' := 45) W 1 V_r M_r rfl (by decide) (by decide) (bt rfl) d_method_2_44 rfl ?_
    intro T h W K8 C8 Vn8
    replace Kt := Kt.trans K8 (allS (P := fun x => _ ∨ _) (Or.inr fs_r) all0)
    replace E_s := E_s.keep K8
    replace M_s := M_s.mv C8
    replace F_coder_s := F_coder_s.keep K8 (ninS ne_s_r nin0)
    replace F_value_s := F_value_s.keep K8 (ninS ne_s_r nin0)
    replace M_r := M_r.mv C8
    replace X_r := X_r.keep K8
    have V_r := Vn8
    clear Vn8
    rw [h1.nar] at V_r
    have V_r : Arv Z _ r k_r .char (2 : Int32) [.int c0, .int c1] (.int 0) := V_r
    refine s_init (pc' := 48) W rfl (w27 hw) (w28 hw) (w25 hw) (w29 hw) (by decide) pd33 [(.ref r)] rfl (c_strinit l hw W.old CS0 (cs := [c0, c1]) (n := 2) rfl (by decide) (by simp [h0, h1, h2]) E_s M_s.1 M_s.2.1 F_coder_s F_value_s V_r) (allS ⟨M_s.2.1, M_s.2.2⟩ all0) rfl d_method_2_45 1 (le rfl) (bl rfl) (bl rfl) (bl rfl) (bl rfl) rfl ?_
    rintro _ T vm h W C9 ⟨rfl, K9, b_s, kb_s, Ls⟩
    replace Kt := Kt.trans K9 (allS (P := fun x => _ ∨ _) (Or.inr fs_s) all0)
    replace E_s := E_s.keep K9
    replace M_s := M_s.mv C9
    replace M_r := M_r.mv C9
    replace X_r := X_r.keep K9
    replace V_r := V_r.keep K9 (ninS (Ne.symm ne_s_r) nin0)
    refine s_areturn W rfl rfl rfl d_method_2_48 (bl rfl) (bl rfl) ?_
    intro vm' C'
    exact ⟨s, b_s, kb_s, rfl, Kt, Ls⟩
  · rw [show Int32.ofNat 3 = (3 : Int32) from rfl]
    refine s_iload_n (pc' := 1) W d_method_2_0 rfl rfl ?_
    refine s_ifne (pc' := 4) (pcT := 15) W d_method_2_1 (by decide) rfl rfl (fun _ => ?_) (fun hq => absurd hq (by decide))
    refine s_iload_n (pc' := 16) W d_method_2_15 rfl rfl ?_
    refine s_iconst (pc' := 17) W (1 : Int32) d_method_2_16 rfl rfl ?_
    refine s_icmpne (pc' := 20) (pcT := 25) W d_method_2_17 (by decide) rfl rfl (fun _ => ?_) (fun hq => absurd hq (by decide))
    refine s_iload_n (pc' := 26) W d_method_2_25 rfl rfl ?_
    refine s_iconst (pc' := 27) W (2 : Int32) d_method_2_26 rfl rfl ?_
    refine s_icmpne (pc' := 30) (pcT := 49) W d_method_2_27 (by decide) rfl rfl (fun _ => ?_) (fun hq => absurd hq (by decide))
    refine s_new (pc' := 52) W (w23 hw) (w24 hw) (w25 hw) d_method_2_49 (bl rfl) (bl rfl) rfl ?_
    intro s T h g_s
    have fs_s := Nat.le_trans Kt.1 (Nat.le_of_eq g_s.symm)
    intro W K10 C10 M_s E_s D_s U_s
    replace Kt := Kt.trans K10 all0
    have F_coder_s : Fld Z _ s "java/lang/String" "coder" "B" (.int 0) := D_s (Or.inr (w40 hw)) (ty := .byte) (by decide)
    have F_value_s : Fld Z _ s "java/lang/String" "value" "[B" .null := D_s (Or.inr (w39 hw)) (ty := (.array .byte)) (by decide)
    refine s_dup (pc' := 53) W d_method_2_52 rfl rfl ?_
    refine s_iconst (pc' := 54) W (3 : Int32) d_method_2_53 rfl rfl ?_
    refine s_newarr (pc' := 56) W (aty := .char) 3 "[C" (by decide) (w26 hw) d_method_2_54 (by decide) (by decide) (by decide) (bl rfl) (bl rfl) rfl ?_
    intro r T h k_r g_r
    have fs_r := Nat.le_trans Kt.1 (Nat.le_of_eq g_r.symm)
    have ne_s_r : @Ne Nat s r := by have := nlt E_s.lt; omega
    intro W K11 C11 M_r V_r X_r
    replace Kt := Kt.trans K11 all0
    replace E_s := E_s.keep K11
    replace M_s := M_s.mv C11
    replace F_coder_s := F_coder_s.keep K11 nin0
    replace F_value_s := F_value_s.keep K11 nin0
    have V_r : Arv Z _ r k_r .char (3 : Int32) [.int 0, .int 0, .int 0] (.int 0) := V_r
    refine s_dup (pc' := 57) W d_method_2_56 rfl rfl ?_
    refine s_iconst (pc' := 58) W (0 : Int32) d_method_2_57 rfl rfl ?_
    refine s_iload_n (pc' := 59) W d_method_2_58 rfl rfl ?_
    refine s_castore (pc' := 60) W 0 V_r M_r rfl (by decide) (by decide) (bt rfl) d_method_2_59 rfl ?_
    intro T h W K12 C12 Vn12
    replace Kt := Kt.trans K12 (allS (P := fun x => _ ∨ _) (Or.inr fs_r) all0)
    replace E_s := E_s.keep K12
    replace M_s := M_s.mv C12
    replace F_coder_s := F_coder_s.keep K12 (ninS ne_s_r nin0)
    replace F_value_s := F_value_s.keep K12 (ninS ne_s_r nin0)
    replace M_r := M_r.mv C12
    replace X_r := X_r.keep K12
    have V_r := Vn12
    clear Vn12
    rw [h0.nar] at V_r
    have V_r : Arv Z _ r k_r .char (3 : Int32) [.int c0, .int 0, .int 0] (.int 0) := V_r
    refine s_dup (pc' := 61) W d_method_2_60 rfl rfl ?_
    refine s_iconst (pc' := 62) W (1 : Int32) d_method_2_61 rfl rfl ?_
    refine s_iload_n (pc' := 63) W d_method_2_62 rfl rfl ?_
    refine s_castore (pc' := 64) W 1 V_r M_r rfl (by decide) (by decide) (bt rfl) d_method_2_63 rfl ?_
    intro T h W K13 C13 Vn13
    replace Kt := Kt.trans K13 (allS (P := fun x => _ ∨ _) (Or.inr fs_r) all0)
    replace E_s := E_s.keep K13
    replace M_s := M_s.mv C13
    replace F_coder_s := F_coder_s.keep K13 (ninS ne_s_r nin0)
    replace F_value_s := F_value_s.keep K13 (ninS ne_s_r nin0)
    replace M_r := M_r.mv C13
    replace X_r := X_r.keep K13
    have V_r := Vn13
    clear Vn13
    rw [h1.nar] at V_r
    have V_r : Arv Z _ r k_r .char (3 : Int32) [.int c0, .int c1, .int 0] (.int 0) := V_r
    refine s_dup (pc' := 65) W d_method_2_64 rfl rfl ?_
    refine s_iconst (pc' := 66) W (2 : Int32) d_method_2_65 rfl rfl ?_
    refine s_iload_n (pc' := 67) W d_method_2_66 rfl rfl ?_
    refine s_castore (pc' := 68) W 2 V_r M_r rfl (by decide) (by decide) (bt rfl) d_method_2_67 rfl ?_
    intro T h W K14 C14 Vn14
    replace Kt := Kt.trans K14 (allS (P := fun x => _ ∨ _) (Or.inr fs_r) all0)
    replace E_s := E_s.keep K14
    replace M_s := M_s.mv C14
    replace F_coder_s := F_coder_s.keep K14 (ninS ne_s_r nin0)
    replace F_value_s := F_value_s.keep K14 (ninS ne_s_r nin0)
    replace M_r := M_r.mv C14
    replace X_r := X_r.keep K14
    have V_r := Vn14
    clear Vn14
    rw [h2.nar] at V_r
    have V_r : Arv Z _ r k_r .char (3 : Int32) [.int c0, .int c1, .int c2] (.int 0) := V_r
    refine s_init (pc' := 71) W rfl (w27 hw) (w28 hw) (w25 hw) (w29 hw) (by decide) pd33 [(.ref r)] rfl (c_strinit l hw W.old CS0 (cs := [c0, c1, c2]) (n := 3) rfl (by decide) (by simp [h0, h1, h2]) E_s M_s.1 M_s.2.1 F_coder_s F_value_s V_r) (allS ⟨M_s.2.1, M_s.2.2⟩ all0) rfl d_method_2_68 1 (le rfl) (bl rfl) (bl rfl) (bl rfl) (bl rfl) rfl ?_
    rintro _ T vm h W C15 ⟨rfl, K15, b_s, kb_s, Ls⟩
    replace Kt := Kt.trans K15 (allS (P := fun x => _ ∨ _) (Or.inr fs_s) all0)
    replace E_s := E_s.keep K15
    replace M_s := M_s.mv C15
    replace M_r := M_r.mv C15
    replace X_r := X_r.keep K15
    replace V_r := V_r.keep K15 (ninS (Ne.symm ne_s_r) nin0)
    refine s_areturn W rfl rfl rfl d_method_2_71 (bl rfl) (bl rfl) ?_
    intro vm' C'
    exact ⟨s, b_s, kb_s, rfl, Kt, Ls⟩
set_option maxRecDepth 65536 in
set_option maxHeartbeats 40000000 in
theorem lp_tail {p : Program} {l : Launch} {e : Env} {R : Room} {s : State} {m : MethodId} {args : Array Value} {below : List Frame} {meth : Method} {c : Code} {Z : State} {a0 : Array Value} (hw : Hw Z a0) {n0 : Nat} {cells slots : Nat} (hc : cells ≤ R.cells) (hl : slots ≤ R.slots) (hfr : 4 ≤ R.frames) (hlo : 53 ≤ R.locals) (CS0 : CS Z) (FM : Fmt Z) {pa t c_ sv exv : Nat} {kp kc : ClassId} {xl nl : Int64} {p1 p2 p3 p4 p5 c0 c1 c2 : Int32} {k d sg N : Nat} {cs : List Int32} (hk : k ≤ 3) (hd1 : 1 ≤ d) (hd19 : d ≤ 19) (hsg : sg ≤ 1) (hy : nl.toInt = -(N : Int)) {h : Heap} (A : Arv Z h pa kp .long 19 (p10s.map Value.long) (.long 0)) (L : LatB Z h t c_ kc cs) (hlen : cs.length = 5 + sg + d + 2 + k) (hdig : ∀ i, i < d → cs.getD (5 + sg + i) 0 = dch N (d - 1 - i)) (hcol : cs.getD (5 + sg + d) 0 = 58) (hspc : cs.getD (5 + sg + d + 1) 0 = 32) (hpr : ∀ i, i < k → cs.getD (5 + sg + d + 2 + i) 0 = [c0, c1, c2].getD i 0) {T : State} {vm : Vm} (W : Wk p l e R s m args below meth c Z a0 EL1 n0 x.cls x.name code maxLocals ret T vm h cells slots) : Go p e below s R Z EL1 n0 (fun v vm' h' => v = some (.int 1)) (T.setTop (mkF m 377 #[.val (.long xl), .second, iv p1, iv p2, iv p3, iv p4, iv p5, rv pa, iv (Int32.ofNat k), iv c0, iv c1, iv c2, rv sv, rv exv, rv t, iv (Int32.ofNat sg), iv (Int32.ofNat d), .val (.long nl), .second, .unset, .unset, .unset, .unset, .unset] [])) := by
  refine s_iload_n (pc' := 378) W at_377 rfl rfl ?_
  refine s_ldcI (pc' := 380) W (w271 hw) at_378 rfl ?_
  refine s_iand (pc' := 381) W at_380 rfl ?_
  refine s_iload (pc' := 383) W at_381 rfl rfl ?_
  refine s_irem (pc' := 384) W at_383 (fun q => by have := n_inj (j := 0) (by omega) (by decide) q; omega) rfl ?_
  obtain ⟨j, hj, ej⟩ := remj p1 hd1 hd19
  rw [ej]
  refine s_istore (pc' := 386) W #[.val (.long xl), .second, iv p1, iv p2, iv p3, iv p4, iv p5, rv pa, iv (Int32.ofNat k), iv c0, iv c1, iv c2, rv sv, rv exv, rv t, iv (Int32.ofNat sg), iv (Int32.ofNat d), .val (.long nl), .second, iv (Int32.ofNat j), .unset, .unset, .unset, .unset] at_384 rfl rfl ?_
  refine s_lload (pc' := 388) W at_386 rfl rfl ?_
  refine s_aload (pc' := 390) W at_388 rfl rfl rfl ?_
  refine s_iload (pc' := 392) W at_390 rfl rfl ?_
  refine s_laload (pc' := 393) W (.long (p10 j)) A (n_nn (by omega)) (n_lt (n := 19) (by omega) (by decide)) (by rw [n_clamp (by omega)]; exact lv_getD p10s j) at_392 rfl ?_
  have hP := p10_toInt (j := j) (by omega)
  have hPn := p10_ne (j := j) (by omega)
  refine s_ldiv (pc' := 394) W at_393 hPn.1 rfl ?_
  refine s_ldc2J (pc' := 397) W (w1 hw) at_394 rfl ?_
  refine s_lrem (pc' := 398) W at_397 (by decide) rfl ?_
  refine s_lneg (pc' := 399) W at_398 rfl ?_
  refine s_l2i (pc' := 400) W at_399 rfl ?_
  refine s_istore (pc' := 402) W #[.val (.long xl), .second, iv p1, iv p2, iv p3, iv p4, iv p5, rv pa, iv (Int32.ofNat k), iv c0, iv c1, iv c2, rv sv, rv exv, rv t, iv (Int32.ofNat sg), iv (Int32.ofNat d), .val (.long nl), .second, iv (Int32.ofNat j), iv ((-((nl / (p10 j)) % (10 : Int64))).toInt32), .unset, .unset, .unset] at_400 rfl rfl ?_
  refine s_iconst (pc' := 403) W (5 : Int32) at_402 rfl rfl ?_
  refine s_iload (pc' := 405) W at_403 rfl rfl ?_
  refine s_iadd (pc' := 406) W at_405 rfl ?_
  rw [show ((5 : Int32) + (Int32.ofNat sg)) = Int32.ofNat (5 + sg) from n_add (5) (sg)]
  refine s_iload (pc' := 408) W at_406 rfl rfl ?_
  refine s_iadd (pc' := 409) W at_408 rfl ?_
  rw [show ((Int32.ofNat (5 + sg)) + (Int32.ofNat d)) = Int32.ofNat ((5 + sg) + d) from n_add ((5 + sg)) (d)]
  refine s_iconst (pc' := 410) W (1 : Int32) at_409 rfl rfl ?_
  refine s_isub (pc' := 411) W at_410 rfl ?_
  refine s_iload (pc' := 413) W at_411 rfl rfl ?_
  refine s_isub (pc' := 414) W at_413 rfl ?_
  rw [show (((Int32.ofNat ((5 + sg) + d)) - (1 : Int32)) - (Int32.ofNat j)) = Int32.ofNat (5 + sg + (d - 1 - j)) from by rw [pos_eq (by omega)]; congr 1; omega]
  refine s_istore (pc' := 416) W #[.val (.long xl), .second, iv p1, iv p2, iv p3, iv p4, iv p5, rv pa, iv (Int32.ofNat k), iv c0, iv c1, iv c2, rv sv, rv exv, rv t, iv (Int32.ofNat sg), iv (Int32.ofNat d), .val (.long nl), .second, iv (Int32.ofNat j), iv ((-((nl / (p10 j)) % (10 : Int64))).toInt32), iv (Int32.ofNat (5 + sg + (d - 1 - j))), .unset, .unset] at_414 rfl rfl ?_
  refine s_aload (pc' := 418) W at_416 rfl rfl rfl ?_
  refine s_iload (pc' := 420) W at_418 rfl rfl ?_
  refine s_virt (pc' := 423) W (C0 := "java/lang/String") (w249 hw) (w250 hw) (w252 hw) (w251 hw) (w25 hw) (w253 hw) (notFace_of_selects (args := a0) (w252 hw)) (by decide) pd35 [(.int (Int32.ofNat (5 + sg + (d - 1 - j))))] rfl L.1 (c_charatL _ hw W.old CS0 FM L (i := 5 + sg + (d - 1 - j)) (by omega)) all0 rfl at_420 0 (le rfl) (Nat.le_trans (bl rfl) hfr) (Nat.le_trans (bl rfl) hlo) (by (try dsimp only) <;> omega) (by (try dsimp only) <;> omega) rfl ?_
  rintro _ T vm _ W C1 ⟨rfl, rfl⟩
  rw [hdig (d - 1 - j) (by omega), show d - 1 - (d - 1 - j) = j by omega]
  refine s_bipush (pc' := 425) W (48 : Int32) at_423 rfl rfl ?_
  refine s_iload (pc' := 427) W at_425 rfl rfl ?_
  refine s_iadd (pc' := 428) W at_427 rfl ?_
  refine s_i2c (pc' := 429) W at_428 rfl ?_
  rw [digit_neg hy hP hPn.2]
  refine s_icmpeq (pc' := 432) (pcT := 434) W at_429 (by decide) rfl rfl (fun _ => ?_) (fun hq => absurd (rfl : dch N j = dch N j) hq)
  refine s_iconst (pc' := 435) W (5 : Int32) at_434 rfl rfl ?_
  refine s_iload (pc' := 437) W at_435 rfl rfl ?_
  refine s_iadd (pc' := 438) W at_437 rfl ?_
  rw [show ((5 : Int32) + (Int32.ofNat sg)) = Int32.ofNat (5 + sg) from n_add (5) (sg)]
  refine s_iload (pc' := 440) W at_438 rfl rfl ?_
  refine s_iadd (pc' := 441) W at_440 rfl ?_
  rw [show ((Int32.ofNat (5 + sg)) + (Int32.ofNat d)) = Int32.ofNat ((5 + sg) + d) from n_add ((5 + sg)) (d)]
  refine s_istore (pc' := 443) W #[.val (.long xl), .second, iv p1, iv p2, iv p3, iv p4, iv p5, rv pa, iv (Int32.ofNat k), iv c0, iv c1, iv c2, rv sv, rv exv, rv t, iv (Int32.ofNat sg), iv (Int32.ofNat d), .val (.long nl), .second, iv (Int32.ofNat j), iv ((-((nl / (p10 j)) % (10 : Int64))).toInt32), iv (Int32.ofNat (5 + sg + (d - 1 - j))), iv (Int32.ofNat ((5 + sg) + d)), .unset] at_441 rfl rfl ?_
  refine s_aload (pc' := 445) W at_443 rfl rfl rfl ?_
  refine s_iload (pc' := 447) W at_445 rfl rfl ?_
  refine s_virt (pc' := 450) W (C0 := "java/lang/String") (w249 hw) (w250 hw) (w252 hw) (w251 hw) (w25 hw) (w253 hw) (notFace_of_selects (args := a0) (w252 hw)) (by decide) pd35 [(.int (Int32.ofNat ((5 + sg) + d)))] rfl L.1 (c_charatL _ hw W.old CS0 FM L (i := 5 + sg + d) (by omega)) all0 rfl at_447 0 (le rfl) (Nat.le_trans (bl rfl) hfr) (Nat.le_trans (bl rfl) hlo) (by (try dsimp only) <;> omega) (by (try dsimp only) <;> omega) rfl ?_
  rintro _ T vm _ W C2 ⟨rfl, rfl⟩
  rw [hcol]
  refine s_bipush (pc' := 452) W (58 : Int32) at_450 rfl rfl ?_
  refine s_icmpne (pc' := 455) (pcT := 469) W at_452 (by decide) rfl rfl (fun hq => absurd (by decide) hq) (fun _ => ?_)
  refine s_aload (pc' := 457) W at_455 rfl rfl rfl ?_
  refine s_iload (pc' := 459) W at_457 rfl rfl ?_
  refine s_iconst (pc' := 460) W (1 : Int32) at_459 rfl rfl ?_
  refine s_iadd (pc' := 461) W at_460 rfl ?_
  rw [show ((Int32.ofNat ((5 + sg) + d)) + (1 : Int32)) = Int32.ofNat (((5 + sg) + d) + 1) from n_add (((5 + sg) + d)) (1)]
  refine s_virt (pc' := 464) W (C0 := "java/lang/String") (w249 hw) (w250 hw) (w252 hw) (w251 hw) (w25 hw) (w253 hw) (notFace_of_selects (args := a0) (w252 hw)) (by decide) pd35 [(.int (Int32.ofNat (((5 + sg) + d) + 1)))] rfl L.1 (c_charatL _ hw W.old CS0 FM L (i := 5 + sg + d + 1) (by omega)) all0 rfl at_461 0 (le rfl) (Nat.le_trans (bl rfl) hfr) (Nat.le_trans (bl rfl) hlo) (by (try dsimp only) <;> omega) (by (try dsimp only) <;> omega) rfl ?_
  rintro _ T vm _ W C3 ⟨rfl, rfl⟩
  rw [hspc]
  refine s_bipush (pc' := 466) W (32 : Int32) at_464 rfl rfl ?_
  refine s_icmpeq (pc' := 469) (pcT := 471) W at_466 (by decide) rfl rfl (fun _ => ?_) (fun hq => absurd (by decide) hq)
  refine s_iload (pc' := 473) W at_471 rfl rfl ?_
  refine s_iconst (pc' := 474) W (2 : Int32) at_473 rfl rfl ?_
  refine s_iadd (pc' := 475) W at_474 rfl ?_
  rw [show ((Int32.ofNat ((5 + sg) + d)) + (2 : Int32)) = Int32.ofNat (((5 + sg) + d) + 2) from n_add (((5 + sg) + d)) (2)]
  refine s_istore (pc' := 477) W #[.val (.long xl), .second, iv p1, iv p2, iv p3, iv p4, iv p5, rv pa, iv (Int32.ofNat k), iv c0, iv c1, iv c2, rv sv, rv exv, rv t, iv (Int32.ofNat sg), iv (Int32.ofNat d), .val (.long nl), .second, iv (Int32.ofNat j), iv ((-((nl / (p10 j)) % (10 : Int64))).toInt32), iv (Int32.ofNat (5 + sg + (d - 1 - j))), iv (Int32.ofNat ((5 + sg) + d)), iv (Int32.ofNat (((5 + sg) + d) + 2))] at_475 rfl rfl ?_
  refine s_iload (pc' := 479) W at_477 rfl rfl ?_
  refine s_iconst (pc' := 480) W (1 : Int32) at_479 rfl rfl ?_
  refine s_icmplt (pc' := 483) (pcT := 497) W at_480 (by decide) rfl rfl (fun hq0 => ?_) (fun hq0 => ?_)
  · have hk0 : k < 1 := by rcases Nat.lt_or_ge k 1 with q | q; exact q; exact absurd hq0 (n_ge (i := k) (n := 1) q (by omega))
    refine s_iload (pc' := 499) W at_497 rfl rfl ?_
    refine s_iconst (pc' := 500) W (2 : Int32) at_499 rfl rfl ?_
    refine s_icmplt (pc' := 503) (pcT := 519) W at_500 (by decide) rfl rfl (fun _ => ?_) (fun hq => absurd (n_lt (n := 2) (by omega) (by decide)) hq)
    refine s_iload (pc' := 521) W at_519 rfl rfl ?_
    refine s_iconst (pc' := 522) W (3 : Int32) at_521 rfl rfl ?_
    refine s_icmplt (pc' := 525) (pcT := 541) W at_522 (by decide) rfl rfl (fun _ => ?_) (fun hq => absurd (n_lt (n := 3) (by omega) (by decide)) hq)
    refine s_iconst (pc' := 542) W (1 : Int32) at_541 rfl rfl ?_
    refine s_nreturn W (t := .boolean) rfl (by simp) at_542 hc hl ?_
    intro vm' C'
    exact rfl
  · have hk0 : 1 ≤ k := Nat.le_of_not_lt (fun q => hq0 (n_lt (n := 1) q (by decide)))
    refine s_aload (pc' := 485) W at_483 rfl rfl rfl ?_
    refine s_iload (pc' := 487) W at_485 rfl rfl ?_
    refine s_virt (pc' := 490) W (C0 := "java/lang/String") (w249 hw) (w250 hw) (w252 hw) (w251 hw) (w25 hw) (w253 hw) (notFace_of_selects (args := a0) (w252 hw)) (by decide) pd35 [(.int (Int32.ofNat (((5 + sg) + d) + 2)))] rfl L.1 (c_charatL _ hw W.old CS0 FM L (i := 5 + sg + d + 2) (by omega)) all0 rfl at_487 0 (le rfl) (Nat.le_trans (bl rfl) hfr) (Nat.le_trans (bl rfl) hlo) (by (try dsimp only) <;> omega) (by (try dsimp only) <;> omega) rfl ?_
    rintro _ T vm _ W C4 ⟨rfl, rfl⟩
    rw [show cs.getD (5 + sg + d + 2) 0 = c0 from hpr 0 (by omega)]
    refine s_iload (pc' := 492) W at_490 rfl rfl ?_
    refine s_icmpeq (pc' := 495) (pcT := 497) W at_492 (by decide) rfl rfl (fun _ => ?_) (fun hq => absurd (rfl : c0 = c0) hq)
    refine s_iload (pc' := 499) W at_497 rfl rfl ?_
    refine s_iconst (pc' := 500) W (2 : Int32) at_499 rfl rfl ?_
    refine s_icmplt (pc' := 503) (pcT := 519) W at_500 (by decide) rfl rfl (fun hq1 => ?_) (fun hq1 => ?_)
    · have hk1 : k < 2 := by rcases Nat.lt_or_ge k 2 with q | q; exact q; exact absurd hq1 (n_ge (i := k) (n := 2) q (by omega))
      refine s_iload (pc' := 521) W at_519 rfl rfl ?_
      refine s_iconst (pc' := 522) W (3 : Int32) at_521 rfl rfl ?_
      refine s_icmplt (pc' := 525) (pcT := 541) W at_522 (by decide) rfl rfl (fun _ => ?_) (fun hq => absurd (n_lt (n := 3) (by omega) (by decide)) hq)
      refine s_iconst (pc' := 542) W (1 : Int32) at_541 rfl rfl ?_
      refine s_nreturn W (t := .boolean) rfl (by simp) at_542 hc hl ?_
      intro vm' C'
      exact rfl
    · have hk1 : 2 ≤ k := Nat.le_of_not_lt (fun q => hq1 (n_lt (n := 2) q (by decide)))
      refine s_aload (pc' := 505) W at_503 rfl rfl rfl ?_
      refine s_iload (pc' := 507) W at_505 rfl rfl ?_
      refine s_iconst (pc' := 508) W (1 : Int32) at_507 rfl rfl ?_
      refine s_iadd (pc' := 509) W at_508 rfl ?_
      rw [show ((Int32.ofNat (((5 + sg) + d) + 2)) + (1 : Int32)) = Int32.ofNat ((((5 + sg) + d) + 2) + 1) from n_add ((((5 + sg) + d) + 2)) (1)]
      refine s_virt (pc' := 512) W (C0 := "java/lang/String") (w249 hw) (w250 hw) (w252 hw) (w251 hw) (w25 hw) (w253 hw) (notFace_of_selects (args := a0) (w252 hw)) (by decide) pd35 [(.int (Int32.ofNat ((((5 + sg) + d) + 2) + 1)))] rfl L.1 (c_charatL _ hw W.old CS0 FM L (i := 5 + sg + d + 2 + 1) (by omega)) all0 rfl at_509 0 (le rfl) (Nat.le_trans (bl rfl) hfr) (Nat.le_trans (bl rfl) hlo) (by (try dsimp only) <;> omega) (by (try dsimp only) <;> omega) rfl ?_
      rintro _ T vm _ W C5 ⟨rfl, rfl⟩
      rw [show cs.getD (5 + sg + d + 2 + 1) 0 = c1 from hpr 1 (by omega)]
      refine s_iload (pc' := 514) W at_512 rfl rfl ?_
      refine s_icmpeq (pc' := 517) (pcT := 519) W at_514 (by decide) rfl rfl (fun _ => ?_) (fun hq => absurd (rfl : c1 = c1) hq)
      refine s_iload (pc' := 521) W at_519 rfl rfl ?_
      refine s_iconst (pc' := 522) W (3 : Int32) at_521 rfl rfl ?_
      refine s_icmplt (pc' := 525) (pcT := 541) W at_522 (by decide) rfl rfl (fun hq2 => ?_) (fun hq2 => ?_)
      · have hk2 : k < 3 := by rcases Nat.lt_or_ge k 3 with q | q; exact q; exact absurd hq2 (n_ge (i := k) (n := 3) q (by omega))
        refine s_iconst (pc' := 542) W (1 : Int32) at_541 rfl rfl ?_
        refine s_nreturn W (t := .boolean) rfl (by simp) at_542 hc hl ?_
        intro vm' C'
        exact rfl
      · have hk2 : 3 ≤ k := Nat.le_of_not_lt (fun q => hq2 (n_lt (n := 3) q (by decide)))
        refine s_aload (pc' := 527) W at_525 rfl rfl rfl ?_
        refine s_iload (pc' := 529) W at_527 rfl rfl ?_
        refine s_iconst (pc' := 530) W (2 : Int32) at_529 rfl rfl ?_
        refine s_iadd (pc' := 531) W at_530 rfl ?_
        rw [show ((Int32.ofNat (((5 + sg) + d) + 2)) + (2 : Int32)) = Int32.ofNat ((((5 + sg) + d) + 2) + 2) from n_add ((((5 + sg) + d) + 2)) (2)]
        refine s_virt (pc' := 534) W (C0 := "java/lang/String") (w249 hw) (w250 hw) (w252 hw) (w251 hw) (w25 hw) (w253 hw) (notFace_of_selects (args := a0) (w252 hw)) (by decide) pd35 [(.int (Int32.ofNat ((((5 + sg) + d) + 2) + 2)))] rfl L.1 (c_charatL _ hw W.old CS0 FM L (i := 5 + sg + d + 2 + 2) (by omega)) all0 rfl at_531 0 (le rfl) (Nat.le_trans (bl rfl) hfr) (Nat.le_trans (bl rfl) hlo) (by (try dsimp only) <;> omega) (by (try dsimp only) <;> omega) rfl ?_
        rintro _ T vm _ W C6 ⟨rfl, rfl⟩
        rw [show cs.getD (5 + sg + d + 2 + 2) 0 = c2 from hpr 2 (by omega)]
        refine s_iload (pc' := 536) W at_534 rfl rfl ?_
        refine s_icmpeq (pc' := 539) (pcT := 541) W at_536 (by decide) rfl rfl (fun _ => ?_) (fun hq => absurd (rfl : c2 = c2) hq)
        refine s_iconst (pc' := 542) W (1 : Int32) at_541 rfl rfl ?_
        refine s_nreturn W (t := .boolean) rfl (by simp) at_542 hc hl ?_
        intro vm' C'
        exact rfl
set_option maxRecDepth 65536 in
set_option maxHeartbeats 40000000 in
theorem ef_law (m : MethodId) (x0 : Int64) (x1 : Int32) (x2 : Int32) (x3 : Int32) (x4 : Int32) (x5 : Int32) : entryFrame m #[(.long x0), (.int x1), (.int x2), (.int x3), (.int x4), (.int x5)] maxLocals = mkF m 0 #[.val (.long x0), .second, .val (.int x1), .val (.int x2), .val (.int x3), .val (.int x4), .val (.int x5), .unset, .unset, .unset, .unset, .unset, .unset, .unset, .unset, .unset, .unset, .unset, .unset, .unset, .unset, .unset, .unset, .unset] [] := by first | (simp [entryFrame, mkF, argsToLocals, Value.category, maxLocals]; done) | rfl
set_option maxRecDepth 65536 in
set_option maxHeartbeats 40000000 in
theorem c_law (l : Launch) {Z : State} {a0 : Array Value} (hw : Hw Z a0) {n0 : Nat} {h : Heap} (O : Old Z n0 h) (CS0 : CS Z) (FM : Fmt Z) (DG : Dg Z) (HT : ∀ e : Env, l.admits e → e.platform.stackTraces = true) (TS : ThSt Z) {p0 : Int64} {p1 p2 p3 p4 p5 : Int32} :
    ConK l Z EL1 n0 x code maxLocals ret tables_1 room_1 #[(.long p0), (.int p1), (.int p2), (.int p3), (.int p4), (.int p5)] h [] (fun v vm' h' => v = some (.int 1)) := by
  refine ConK.of pn50 O (el hw) ?_
  intro pg_ e s m below meth cd_ T W hs_ hSf hKn
  rw [ef_law]
  refine s_bipush (pc' := 2) W (19 : Int32) at_0 rfl rfl ?_
  refine s_newarr (pc' := 4) W (aty := .long) 19 "[J" (by decide) (w0 hw) at_2 (by decide) (by decide) (by decide) (by decide) (by decide) rfl ?_
  intro pa T h k_pa g_pa
  intro W K1 C1 M_pa V_pa X_pa
  have V_pa : Arv Z _ pa k_pa .long (19 : Int32) [.long 0, .long 0, .long 0, .long 0, .long 0, .long 0, .long 0, .long 0, .long 0, .long 0, .long 0, .long 0, .long 0, .long 0, .long 0, .long 0, .long 0, .long 0, .long 0] (.long 0) := V_pa
  refine s_dup (pc' := 5) W at_4 rfl rfl ?_
  refine s_iconst (pc' := 6) W (0 : Int32) at_5 rfl rfl ?_
  refine s_lconst (pc' := 7) W (1 : Int64) at_6 rfl rfl ?_
  refine s_lastore (pc' := 8) W 0 V_pa M_pa rfl (by decide) (by decide) (bt rfl) at_7 rfl ?_
  intro T h W K2 C2 Vn2
  replace M_pa := M_pa.mv C2
  replace X_pa := X_pa.keep K2
  have V_pa := Vn2
  clear Vn2
  have V_pa : Arv Z _ pa k_pa .long (19 : Int32) [.long 1, .long 0, .long 0, .long 0, .long 0, .long 0, .long 0, .long 0, .long 0, .long 0, .long 0, .long 0, .long 0, .long 0, .long 0, .long 0, .long 0, .long 0, .long 0] (.long 0) := V_pa
  refine s_dup (pc' := 9) W at_8 rfl rfl ?_
  refine s_iconst (pc' := 10) W (1 : Int32) at_9 rfl rfl ?_
  refine s_ldc2J (pc' := 13) W (w1 hw) at_10 rfl ?_
  refine s_lastore (pc' := 14) W 1 V_pa M_pa rfl (by decide) (by decide) (bt rfl) at_13 rfl ?_
  intro T h W K3 C3 Vn3
  replace M_pa := M_pa.mv C3
  replace X_pa := X_pa.keep K3
  have V_pa := Vn3
  clear Vn3
  have V_pa : Arv Z _ pa k_pa .long (19 : Int32) [.long 1, .long 10, .long 0, .long 0, .long 0, .long 0, .long 0, .long 0, .long 0, .long 0, .long 0, .long 0, .long 0, .long 0, .long 0, .long 0, .long 0, .long 0, .long 0] (.long 0) := V_pa
  refine s_dup (pc' := 15) W at_14 rfl rfl ?_
  refine s_iconst (pc' := 16) W (2 : Int32) at_15 rfl rfl ?_
  refine s_ldc2J (pc' := 19) W (w2 hw) at_16 rfl ?_
  refine s_lastore (pc' := 20) W 2 V_pa M_pa rfl (by decide) (by decide) (bt rfl) at_19 rfl ?_
  intro T h W K4 C4 Vn4
  replace M_pa := M_pa.mv C4
  replace X_pa := X_pa.keep K4
  have V_pa := Vn4
  clear Vn4
  have V_pa : Arv Z _ pa k_pa .long (19 : Int32) [.long 1, .long 10, .long 100, .long 0, .long 0, .long 0, .long 0, .long 0, .long 0, .long 0, .long 0, .long 0, .long 0, .long 0, .long 0, .long 0, .long 0, .long 0, .long 0] (.long 0) := V_pa
  refine s_dup (pc' := 21) W at_20 rfl rfl ?_
  refine s_iconst (pc' := 22) W (3 : Int32) at_21 rfl rfl ?_
  refine s_ldc2J (pc' := 25) W (w3 hw) at_22 rfl ?_
  refine s_lastore (pc' := 26) W 3 V_pa M_pa rfl (by decide) (by decide) (bt rfl) at_25 rfl ?_
  intro T h W K5 C5 Vn5
  replace M_pa := M_pa.mv C5
  replace X_pa := X_pa.keep K5
  have V_pa := Vn5
  clear Vn5
  have V_pa : Arv Z _ pa k_pa .long (19 : Int32) [.long 1, .long 10, .long 100, .long 1000, .long 0, .long 0, .long 0, .long 0, .long 0, .long 0, .long 0, .long 0, .long 0, .long 0, .long 0, .long 0, .long 0, .long 0, .long 0] (.long 0) := V_pa
  refine s_dup (pc' := 27) W at_26 rfl rfl ?_
  refine s_iconst (pc' := 28) W (4 : Int32) at_27 rfl rfl ?_
  refine s_ldc2J (pc' := 31) W (w4 hw) at_28 rfl ?_
  refine s_lastore (pc' := 32) W 4 V_pa M_pa rfl (by decide) (by decide) (bt rfl) at_31 rfl ?_
  intro T h W K6 C6 Vn6
  replace M_pa := M_pa.mv C6
  replace X_pa := X_pa.keep K6
  have V_pa := Vn6
  clear Vn6
  have V_pa : Arv Z _ pa k_pa .long (19 : Int32) [.long 1, .long 10, .long 100, .long 1000, .long 10000, .long 0, .long 0, .long 0, .long 0, .long 0, .long 0, .long 0, .long 0, .long 0, .long 0, .long 0, .long 0, .long 0, .long 0] (.long 0) := V_pa
  refine s_dup (pc' := 33) W at_32 rfl rfl ?_
  refine s_iconst (pc' := 34) W (5 : Int32) at_33 rfl rfl ?_
  refine s_ldc2J (pc' := 37) W (w5 hw) at_34 rfl ?_
  refine s_lastore (pc' := 38) W 5 V_pa M_pa rfl (by decide) (by decide) (bt rfl) at_37 rfl ?_
  intro T h W K7 C7 Vn7
  replace M_pa := M_pa.mv C7
  replace X_pa := X_pa.keep K7
  have V_pa := Vn7
  clear Vn7
  have V_pa : Arv Z _ pa k_pa .long (19 : Int32) [.long 1, .long 10, .long 100, .long 1000, .long 10000, .long 100000, .long 0, .long 0, .long 0, .long 0, .long 0, .long 0, .long 0, .long 0, .long 0, .long 0, .long 0, .long 0, .long 0] (.long 0) := V_pa
  refine s_dup (pc' := 39) W at_38 rfl rfl ?_
  refine s_bipush (pc' := 41) W (6 : Int32) at_39 rfl rfl ?_
  refine s_ldc2J (pc' := 44) W (w6 hw) at_41 rfl ?_
  refine s_lastore (pc' := 45) W 6 V_pa M_pa rfl (by decide) (by decide) (bt rfl) at_44 rfl ?_
  intro T h W K8 C8 Vn8
  replace M_pa := M_pa.mv C8
  replace X_pa := X_pa.keep K8
  have V_pa := Vn8
  clear Vn8
  have V_pa : Arv Z _ pa k_pa .long (19 : Int32) [.long 1, .long 10, .long 100, .long 1000, .long 10000, .long 100000, .long 1000000, .long 0, .long 0, .long 0, .long 0, .long 0, .long 0, .long 0, .long 0, .long 0, .long 0, .long 0, .long 0] (.long 0) := V_pa
  refine s_dup (pc' := 46) W at_45 rfl rfl ?_
  refine s_bipush (pc' := 48) W (7 : Int32) at_46 rfl rfl ?_
  refine s_ldc2J (pc' := 51) W (w7 hw) at_48 rfl ?_
  refine s_lastore (pc' := 52) W 7 V_pa M_pa rfl (by decide) (by decide) (bt rfl) at_51 rfl ?_
  intro T h W K9 C9 Vn9
  replace M_pa := M_pa.mv C9
  replace X_pa := X_pa.keep K9
  have V_pa := Vn9
  clear Vn9
  have V_pa : Arv Z _ pa k_pa .long (19 : Int32) [.long 1, .long 10, .long 100, .long 1000, .long 10000, .long 100000, .long 1000000, .long 10000000, .long 0, .long 0, .long 0, .long 0, .long 0, .long 0, .long 0, .long 0, .long 0, .long 0, .long 0] (.long 0) := V_pa
  refine s_dup (pc' := 53) W at_52 rfl rfl ?_
  refine s_bipush (pc' := 55) W (8 : Int32) at_53 rfl rfl ?_
  refine s_ldc2J (pc' := 58) W (w8 hw) at_55 rfl ?_
  refine s_lastore (pc' := 59) W 8 V_pa M_pa rfl (by decide) (by decide) (bt rfl) at_58 rfl ?_
  intro T h W K10 C10 Vn10
  replace M_pa := M_pa.mv C10
  replace X_pa := X_pa.keep K10
  have V_pa := Vn10
  clear Vn10
  have V_pa : Arv Z _ pa k_pa .long (19 : Int32) [.long 1, .long 10, .long 100, .long 1000, .long 10000, .long 100000, .long 1000000, .long 10000000, .long 100000000, .long 0, .long 0, .long 0, .long 0, .long 0, .long 0, .long 0, .long 0, .long 0, .long 0] (.long 0) := V_pa
  refine s_dup (pc' := 60) W at_59 rfl rfl ?_
  refine s_bipush (pc' := 62) W (9 : Int32) at_60 rfl rfl ?_
  refine s_ldc2J (pc' := 65) W (w9 hw) at_62 rfl ?_
  refine s_lastore (pc' := 66) W 9 V_pa M_pa rfl (by decide) (by decide) (bt rfl) at_65 rfl ?_
  intro T h W K11 C11 Vn11
  replace M_pa := M_pa.mv C11
  replace X_pa := X_pa.keep K11
  have V_pa := Vn11
  clear Vn11
  have V_pa : Arv Z _ pa k_pa .long (19 : Int32) [.long 1, .long 10, .long 100, .long 1000, .long 10000, .long 100000, .long 1000000, .long 10000000, .long 100000000, .long 1000000000, .long 0, .long 0, .long 0, .long 0, .long 0, .long 0, .long 0, .long 0, .long 0] (.long 0) := V_pa
  refine s_dup (pc' := 67) W at_66 rfl rfl ?_
  refine s_bipush (pc' := 69) W (10 : Int32) at_67 rfl rfl ?_
  refine s_ldc2J (pc' := 72) W (w10 hw) at_69 rfl ?_
  refine s_lastore (pc' := 73) W 10 V_pa M_pa rfl (by decide) (by decide) (bt rfl) at_72 rfl ?_
  intro T h W K12 C12 Vn12
  replace M_pa := M_pa.mv C12
  replace X_pa := X_pa.keep K12
  have V_pa := Vn12
  clear Vn12
  have V_pa : Arv Z _ pa k_pa .long (19 : Int32) [.long 1, .long 10, .long 100, .long 1000, .long 10000, .long 100000, .long 1000000, .long 10000000, .long 100000000, .long 1000000000, .long 10000000000, .long 0, .long 0, .long 0, .long 0, .long 0, .long 0, .long 0, .long 0] (.long 0) := V_pa
  refine s_dup (pc' := 74) W at_73 rfl rfl ?_
  refine s_bipush (pc' := 76) W (11 : Int32) at_74 rfl rfl ?_
  refine s_ldc2J (pc' := 79) W (w11 hw) at_76 rfl ?_
  refine s_lastore (pc' := 80) W 11 V_pa M_pa rfl (by decide) (by decide) (bt rfl) at_79 rfl ?_
  intro T h W K13 C13 Vn13
  replace M_pa := M_pa.mv C13
  replace X_pa := X_pa.keep K13
  have V_pa := Vn13
  clear Vn13
  have V_pa : Arv Z _ pa k_pa .long (19 : Int32) [.long 1, .long 10, .long 100, .long 1000, .long 10000, .long 100000, .long 1000000, .long 10000000, .long 100000000, .long 1000000000, .long 10000000000, .long 100000000000, .long 0, .long 0, .long 0, .long 0, .long 0, .long 0, .long 0] (.long 0) := V_pa
  refine s_dup (pc' := 81) W at_80 rfl rfl ?_
  refine s_bipush (pc' := 83) W (12 : Int32) at_81 rfl rfl ?_
  refine s_ldc2J (pc' := 86) W (w12 hw) at_83 rfl ?_
  refine s_lastore (pc' := 87) W 12 V_pa M_pa rfl (by decide) (by decide) (bt rfl) at_86 rfl ?_
  intro T h W K14 C14 Vn14
  replace M_pa := M_pa.mv C14
  replace X_pa := X_pa.keep K14
  have V_pa := Vn14
  clear Vn14
  have V_pa : Arv Z _ pa k_pa .long (19 : Int32) [.long 1, .long 10, .long 100, .long 1000, .long 10000, .long 100000, .long 1000000, .long 10000000, .long 100000000, .long 1000000000, .long 10000000000, .long 100000000000, .long 1000000000000, .long 0, .long 0, .long 0, .long 0, .long 0, .long 0] (.long 0) := V_pa
  refine s_dup (pc' := 88) W at_87 rfl rfl ?_
  refine s_bipush (pc' := 90) W (13 : Int32) at_88 rfl rfl ?_
  refine s_ldc2J (pc' := 93) W (w13 hw) at_90 rfl ?_
  refine s_lastore (pc' := 94) W 13 V_pa M_pa rfl (by decide) (by decide) (bt rfl) at_93 rfl ?_
  intro T h W K15 C15 Vn15
  replace M_pa := M_pa.mv C15
  replace X_pa := X_pa.keep K15
  have V_pa := Vn15
  clear Vn15
  have V_pa : Arv Z _ pa k_pa .long (19 : Int32) [.long 1, .long 10, .long 100, .long 1000, .long 10000, .long 100000, .long 1000000, .long 10000000, .long 100000000, .long 1000000000, .long 10000000000, .long 100000000000, .long 1000000000000, .long 10000000000000, .long 0, .long 0, .long 0, .long 0, .long 0] (.long 0) := V_pa
  refine s_dup (pc' := 95) W at_94 rfl rfl ?_
  refine s_bipush (pc' := 97) W (14 : Int32) at_95 rfl rfl ?_
  refine s_ldc2J (pc' := 100) W (w14 hw) at_97 rfl ?_
  refine s_lastore (pc' := 101) W 14 V_pa M_pa rfl (by decide) (by decide) (bt rfl) at_100 rfl ?_
  intro T h W K16 C16 Vn16
  replace M_pa := M_pa.mv C16
  replace X_pa := X_pa.keep K16
  have V_pa := Vn16
  clear Vn16
  have V_pa : Arv Z _ pa k_pa .long (19 : Int32) [.long 1, .long 10, .long 100, .long 1000, .long 10000, .long 100000, .long 1000000, .long 10000000, .long 100000000, .long 1000000000, .long 10000000000, .long 100000000000, .long 1000000000000, .long 10000000000000, .long 100000000000000, .long 0, .long 0, .long 0, .long 0] (.long 0) := V_pa
  refine s_dup (pc' := 102) W at_101 rfl rfl ?_
  refine s_bipush (pc' := 104) W (15 : Int32) at_102 rfl rfl ?_
  refine s_ldc2J (pc' := 107) W (w15 hw) at_104 rfl ?_
  refine s_lastore (pc' := 108) W 15 V_pa M_pa rfl (by decide) (by decide) (bt rfl) at_107 rfl ?_
  intro T h W K17 C17 Vn17
  replace M_pa := M_pa.mv C17
  replace X_pa := X_pa.keep K17
  have V_pa := Vn17
  clear Vn17
  have V_pa : Arv Z _ pa k_pa .long (19 : Int32) [.long 1, .long 10, .long 100, .long 1000, .long 10000, .long 100000, .long 1000000, .long 10000000, .long 100000000, .long 1000000000, .long 10000000000, .long 100000000000, .long 1000000000000, .long 10000000000000, .long 100000000000000, .long 1000000000000000, .long 0, .long 0, .long 0] (.long 0) := V_pa
  refine s_dup (pc' := 109) W at_108 rfl rfl ?_
  refine s_bipush (pc' := 111) W (16 : Int32) at_109 rfl rfl ?_
  refine s_ldc2J (pc' := 114) W (w16 hw) at_111 rfl ?_
  refine s_lastore (pc' := 115) W 16 V_pa M_pa rfl (by decide) (by decide) (bt rfl) at_114 rfl ?_
  intro T h W K18 C18 Vn18
  replace M_pa := M_pa.mv C18
  replace X_pa := X_pa.keep K18
  have V_pa := Vn18
  clear Vn18
  have V_pa : Arv Z _ pa k_pa .long (19 : Int32) [.long 1, .long 10, .long 100, .long 1000, .long 10000, .long 100000, .long 1000000, .long 10000000, .long 100000000, .long 1000000000, .long 10000000000, .long 100000000000, .long 1000000000000, .long 10000000000000, .long 100000000000000, .long 1000000000000000, .long 10000000000000000, .long 0, .long 0] (.long 0) := V_pa
  refine s_dup (pc' := 116) W at_115 rfl rfl ?_
  refine s_bipush (pc' := 118) W (17 : Int32) at_116 rfl rfl ?_
  refine s_ldc2J (pc' := 121) W (w17 hw) at_118 rfl ?_
  refine s_lastore (pc' := 122) W 17 V_pa M_pa rfl (by decide) (by decide) (bt rfl) at_121 rfl ?_
  intro T h W K19 C19 Vn19
  replace M_pa := M_pa.mv C19
  replace X_pa := X_pa.keep K19
  have V_pa := Vn19
  clear Vn19
  have V_pa : Arv Z _ pa k_pa .long (19 : Int32) [.long 1, .long 10, .long 100, .long 1000, .long 10000, .long 100000, .long 1000000, .long 10000000, .long 100000000, .long 1000000000, .long 10000000000, .long 100000000000, .long 1000000000000, .long 10000000000000, .long 100000000000000, .long 1000000000000000, .long 10000000000000000, .long 100000000000000000, .long 0] (.long 0) := V_pa
  refine s_dup (pc' := 123) W at_122 rfl rfl ?_
  refine s_bipush (pc' := 125) W (18 : Int32) at_123 rfl rfl ?_
  refine s_ldc2J (pc' := 128) W (w18 hw) at_125 rfl ?_
  refine s_lastore (pc' := 129) W 18 V_pa M_pa rfl (by decide) (by decide) (bt rfl) at_128 rfl ?_
  intro T h W K20 C20 Vn20
  replace M_pa := M_pa.mv C20
  replace X_pa := X_pa.keep K20
  have V_pa := Vn20
  clear Vn20
  have V_pa : Arv Z _ pa k_pa .long (19 : Int32) [.long 1, .long 10, .long 100, .long 1000, .long 10000, .long 100000, .long 1000000, .long 10000000, .long 100000000, .long 1000000000, .long 10000000000, .long 100000000000, .long 1000000000000, .long 10000000000000, .long 100000000000000, .long 1000000000000000, .long 10000000000000000, .long 100000000000000000, .long 1000000000000000000] (.long 0) := V_pa
  have V_pa : Arv Z _ pa k_pa .long (19 : Int32) (p10s.map Value.long) (.long 0) := V_pa
  refine s_astore (pc' := 131) W #[.val (.long p0), .second, iv p1, iv p2, iv p3, iv p4, iv p5, rv pa, .unset, .unset, .unset, .unset, .unset, .unset, .unset, .unset, .unset, .unset, .unset, .unset, .unset, .unset, .unset, .unset] at_129 rfl rfl rfl ?_
  refine s_iload (pc' := 133) W at_131 rfl rfl ?_
  refine s_iconst (pc' := 134) W (3 : Int32) at_133 rfl rfl ?_
  refine s_iand (pc' := 135) W at_134 rfl ?_
  obtain ⟨k, hk, ek⟩ := and3 p5
  rw [ek]
  refine s_istore (pc' := 137) W #[.val (.long p0), .second, iv p1, iv p2, iv p3, iv p4, iv p5, rv pa, iv (Int32.ofNat k), .unset, .unset, .unset, .unset, .unset, .unset, .unset, .unset, .unset, .unset, .unset, .unset, .unset, .unset, .unset] at_135 rfl rfl ?_
  refine s_iload_n (pc' := 138) W at_137 rfl rfl ?_
  refine s_sipush (pc' := 141) W (255 : Int32) at_138 rfl rfl ?_
  refine s_iand (pc' := 142) W at_141 rfl ?_
  refine s_i2c (pc' := 143) W at_142 rfl ?_
  have hc0 : L1 ((p2 &&& (255 : Int32)).toUInt32.toUInt16.toUInt32.toInt32) := L1.char _
  generalize (p2 &&& (255 : Int32)).toUInt32.toUInt16.toUInt32.toInt32 = c0 at hc0 ⊢
  refine s_istore (pc' := 145) W #[.val (.long p0), .second, iv p1, iv p2, iv p3, iv p4, iv p5, rv pa, iv (Int32.ofNat k), iv c0, .unset, .unset, .unset, .unset, .unset, .unset, .unset, .unset, .unset, .unset, .unset, .unset, .unset, .unset] at_143 rfl rfl ?_
  refine s_iload (pc' := 147) W at_145 rfl rfl ?_
  refine s_sipush (pc' := 150) W (255 : Int32) at_147 rfl rfl ?_
  refine s_iand (pc' := 151) W at_150 rfl ?_
  refine s_i2c (pc' := 152) W at_151 rfl ?_
  have hc1 : L1 ((p3 &&& (255 : Int32)).toUInt32.toUInt16.toUInt32.toInt32) := L1.char _
  generalize (p3 &&& (255 : Int32)).toUInt32.toUInt16.toUInt32.toInt32 = c1 at hc1 ⊢
  refine s_istore (pc' := 154) W #[.val (.long p0), .second, iv p1, iv p2, iv p3, iv p4, iv p5, rv pa, iv (Int32.ofNat k), iv c0, iv c1, .unset, .unset, .unset, .unset, .unset, .unset, .unset, .unset, .unset, .unset, .unset, .unset, .unset] at_152 rfl rfl ?_
  refine s_iload (pc' := 156) W at_154 rfl rfl ?_
  refine s_sipush (pc' := 159) W (255 : Int32) at_156 rfl rfl ?_
  refine s_iand (pc' := 160) W at_159 rfl ?_
  refine s_i2c (pc' := 161) W at_160 rfl ?_
  have hc2 : L1 ((p4 &&& (255 : Int32)).toUInt32.toUInt16.toUInt32.toInt32) := L1.char _
  generalize (p4 &&& (255 : Int32)).toUInt32.toUInt16.toUInt32.toInt32 = c2 at hc2 ⊢
  refine s_istore (pc' := 163) W #[.val (.long p0), .second, iv p1, iv p2, iv p3, iv p4, iv p5, rv pa, iv (Int32.ofNat k), iv c0, iv c1, iv c2, .unset, .unset, .unset, .unset, .unset, .unset, .unset, .unset, .unset, .unset, .unset, .unset] at_161 rfl rfl ?_
  refine s_iload (pc' := 165) W at_163 rfl rfl ?_
  refine s_iload (pc' := 167) W at_165 rfl rfl ?_
  refine s_iload (pc' := 169) W at_167 rfl rfl ?_
  refine s_iload (pc' := 171) W at_169 rfl rfl ?_
  refine s_static (pc' := 174) W (w19 hw) (w20 hw) (w21 hw) (w22 hw) (by decide) pd36 [(.int (Int32.ofNat k)), (.int c0), (.int c1), (.int c2)] rfl (c_problem l hw W.old CS0 hk hc0 hc1 hc2) all0 rfl at_171 0 (le rfl) (bl rfl) (bl rfl) (by decide) (by decide) rfl ?_
  rintro _ T vm h W C21 ⟨s_, b_s, kb_s, rfl, K21, Ls⟩
  replace V_pa := V_pa.keep K21 nin0
  refine s_astore (pc' := 176) W #[.val (.long p0), .second, iv p1, iv p2, iv p3, iv p4, iv p5, rv pa, iv (Int32.ofNat k), iv c0, iv c1, iv c2, rv s_, .unset, .unset, .unset, .unset, .unset, .unset, .unset, .unset, .unset, .unset, .unset] at_174 rfl rfl rfl ?_
  refine s_lload_n (pc' := 177) W at_176 rfl rfl ?_
  refine s_aload (pc' := 179) W at_177 rfl rfl rfl ?_
  refine s_staticK (pc' := 182) W hKn (w45 hw) (w46 hw) (w47 hw) (w48 hw) (by decide) pd37 [(.long p0), (.ref s_)] rfl (c_atline l hw W.old CS0 DG HT TS Ls (by rw [take3_len hk]; exact hk)) all0 rfl at_179 0 (le rfl) (bl rfl) (bl rfl) (by decide) (by decide) rfl ?_
  rintro _ T vm h W C22 ⟨ex, t, c_, kc, d, rfl, K22, Eex, Fm, L, hd, hd19⟩
  replace V_pa := V_pa.keep K22 nin0
  replace Ls := Ls.keep K22 nin0 nin0
  refine s_astore (pc' := 184) W #[.val (.long p0), .second, iv p1, iv p2, iv p3, iv p4, iv p5, rv pa, iv (Int32.ofNat k), iv c0, iv c1, iv c2, rv s_, rv ex, .unset, .unset, .unset, .unset, .unset, .unset, .unset, .unset, .unset, .unset] at_182 rfl rfl rfl ?_
  refine s_aload (pc' := 186) W at_184 rfl rfl rfl ?_
  refine s_virtUp (pc' := 189) W (C0 := "com/example/nerai/nerai/crawler/MalformedFileException") (owner := "java/lang/Throwable") (w242 hw) (w243 hw) (w244 hw) (w246 hw) (w245 hw) (w203 hw) (w247 hw) (by decide) pd32 [] rfl Eex (c_getmsg l hw W.old Fm) all0 rfl at_186 0 (le rfl) (bl rfl) (bl rfl) (by decide) (by decide) rfl ?_
  rintro _ T vm _ W C23 ⟨rfl, rfl⟩
  refine s_astore (pc' := 191) W #[.val (.long p0), .second, iv p1, iv p2, iv p3, iv p4, iv p5, rv pa, iv (Int32.ofNat k), iv c0, iv c1, iv c2, rv s_, rv ex, rv t, .unset, .unset, .unset, .unset, .unset, .unset, .unset, .unset, .unset] at_189 rfl rfl rfl ?_
  refine s_aload (pc' := 193) W at_191 rfl rfl rfl ?_
  refine s_ifnonnullY (pcT := 198) W at_193 (by decide) rfl ?_
  refine s_lload_n (pc' := 199) W at_198 rfl rfl ?_
  refine s_lconst (pc' := 200) W (0 : Int64) at_199 rfl rfl ?_
  refine s_lcmp (pc' := 201) W at_200 rfl ?_
  obtain ⟨cs, hcs⟩ : ∃ cs, cs = (((([] : List Int32) ++ [(108 : Int32), (105 : Int32), (110 : Int32), (101 : Int32), (32 : Int32)]) ++ ((if p0 < 0 then [45] else [] : List Int32) ++ decs p0.toInt.natAbs d)) ++ [(58 : Int32), (32 : Int32)]) ++ [c0, c1, c2].take k := ⟨_, rfl⟩
  rw [← hcs] at L
  have hb := rng64 p0
  have e0 : (0 : Int64).toInt = 0 := rfl
  refine s_iflge (pc' := 204) (pcT := 208) W at_201 (by decide) rfl rfl (fun hx => ?_) (fun hx => ?_)
  · rw [if_neg hx] at hcs
    have hlen : cs.length = 5 + 0 + d + 2 + k := by rw [hcs]; simp only [List.length_append, List.length_cons, List.length_nil, decs_len, take3_len hk]; omega
    have E0 : cs = (([] : List Int32)) ++ (([(108 : Int32), (105 : Int32), (110 : Int32), (101 : Int32), (32 : Int32)]) ++ ((([] : List Int32) ++ decs p0.toInt.natAbs d) ++ ([(58 : Int32), (32 : Int32)]) ++ ([c0, c1, c2].take k))) := by rw [hcs]; simp only [List.append_assoc, List.nil_append, List.append_nil, List.cons_append]
    have H0 := seg E0 (o := 0) (by simp only [List.length_append, List.length_cons, List.length_nil, decs_len, take3_len hk]; try omega)
    have E1 : cs = (([(108 : Int32), (105 : Int32), (110 : Int32), (101 : Int32), (32 : Int32)])) ++ ((([] : List Int32) ++ decs p0.toInt.natAbs d) ++ (([(58 : Int32), (32 : Int32)]) ++ ([c0, c1, c2].take k))) := by rw [hcs]; simp only [List.append_assoc, List.nil_append, List.append_nil, List.cons_append]
    have H1 := seg E1 (o := 5) (by simp only [List.length_append, List.length_cons, List.length_nil, decs_len, take3_len hk]; try omega)
    have E2 : cs = (([(108 : Int32), (105 : Int32), (110 : Int32), (101 : Int32), (32 : Int32)]) ++ (([] : List Int32) ++ decs p0.toInt.natAbs d)) ++ (([(58 : Int32), (32 : Int32)]) ++ (([c0, c1, c2].take k))) := by rw [hcs]; simp only [List.append_assoc, List.nil_append, List.append_nil, List.cons_append]
    have H2 := seg E2 (o := 5 + (0 + d)) (by simp only [List.length_append, List.length_cons, List.length_nil, decs_len, take3_len hk]; try omega)
    have E3 : cs = (([(108 : Int32), (105 : Int32), (110 : Int32), (101 : Int32), (32 : Int32)]) ++ (([] : List Int32) ++ decs p0.toInt.natAbs d) ++ ([(58 : Int32), (32 : Int32)])) ++ (([c0, c1, c2].take k) ++ (([] : List Int32))) := by rw [hcs]; simp only [List.append_assoc, List.nil_append, List.append_nil, List.cons_append]
    have H3 := seg E3 (o := 5 + (0 + d) + 2) (by simp only [List.length_append, List.length_cons, List.length_nil, decs_len, take3_len hk]; try omega)
    have hN : (-p0).toInt = -(p0.toInt.natAbs : Int) := negJ (by have : ¬ p0.toInt < (0 : Int64).toInt := fun q => hx ((Int64.lt_iff_toInt_lt (x := p0) (y := 0)).mpr q); omega)
    refine s_iconst (pc' := 209) W (0 : Int32) at_208 rfl rfl ?_
    refine s_istore (pc' := 211) W #[.val (.long p0), .second, iv p1, iv p2, iv p3, iv p4, iv p5, rv pa, iv (Int32.ofNat k), iv c0, iv c1, iv c2, rv s_, rv ex, rv t, iv (0 : Int32), .unset, .unset, .unset, .unset, .unset, .unset, .unset, .unset] at_209 rfl rfl ?_
    refine s_aload (pc' := 213) W at_211 rfl rfl rfl ?_
    refine s_virt (pc' := 216) W (C0 := "java/lang/String") (w248 hw) (w81 hw) (w83 hw) (w82 hw) (w25 hw) (w84 hw) (notFace_of_selects (args := a0) (w83 hw)) (by decide) pd15 [] rfl L.1 (c_strlength l hw W.old CS0 L) all0 rfl at_213 0 (le rfl) (bl rfl) (bl rfl) (by decide) (by decide) rfl ?_
    rintro _ T vm _ W C24 ⟨rfl, rfl⟩
    refine s_bipush (pc' := 218) W (7 : Int32) at_216 rfl rfl ?_
    refine s_isub (pc' := 219) W at_218 rfl ?_
    refine s_iload (pc' := 221) W at_219 rfl rfl ?_
    refine s_isub (pc' := 222) W at_221 rfl ?_
    refine s_iload (pc' := 224) W at_222 rfl rfl ?_
    refine s_isub (pc' := 225) W at_224 rfl ?_
    rw [show ((((Int32.ofNat cs.length) - (7 : Int32)) - (0 : Int32)) - (Int32.ofNat k)) = Int32.ofNat d from by rw [hlen, show (7 : Int32) = Int32.ofNat 7 from rfl, show (0 : Int32) = Int32.ofNat 0 from rfl, n_sub (by omega), n_sub (by omega), n_sub (by omega)]; congr 1; omega]
    have hd1 := hd.1
    refine s_istore (pc' := 227) W #[.val (.long p0), .second, iv p1, iv p2, iv p3, iv p4, iv p5, rv pa, iv (Int32.ofNat k), iv c0, iv c1, iv c2, rv s_, rv ex, rv t, iv (0 : Int32), iv (Int32.ofNat d), .unset, .unset, .unset, .unset, .unset, .unset, .unset] at_225 rfl rfl ?_
    refine s_iload (pc' := 229) W at_227 rfl rfl ?_
    refine s_iconst (pc' := 230) W (1 : Int32) at_229 rfl rfl ?_
    refine s_icmplt (pc' := 233) (pcT := 240) W at_230 (by decide) rfl rfl (fun hq => absurd hq (n_ge (i := d) (n := 1) hd1 (by omega))) (fun _ => ?_)
    refine s_iload (pc' := 235) W at_233 rfl rfl ?_
    refine s_bipush (pc' := 237) W (19 : Int32) at_235 rfl rfl ?_
    refine s_icmple (pc' := 240) (pcT := 242) W at_237 (by decide) rfl rfl (fun _ => ?_) (fun hq => absurd hq (n_ge (i := 19) (n := d) hd19 (by decide)))
    refine s_aload (pc' := 244) W at_242 rfl rfl rfl ?_
    refine s_iconst (pc' := 245) W (0 : Int32) at_244 rfl rfl ?_
    have hch : cs.getD 0 0 = (108 : Int32) := by have := H0 0 (by simp); first | exact this | (rw [show (0 : Nat) = 5 + 0 by omega]; exact this)
    refine s_virt (pc' := 248) W (C0 := "java/lang/String") (w249 hw) (w250 hw) (w252 hw) (w251 hw) (w25 hw) (w253 hw) (notFace_of_selects (args := a0) (w252 hw)) (by decide) pd35 [(.int (0 : Int32))] rfl L.1 (c_charatL l hw W.old CS0 FM L (i := 0) (by omega)) all0 rfl at_245 0 (le rfl) (bl rfl) (bl rfl) (by decide) (by decide) rfl ?_
    rintro _ T vm _ W C25 ⟨rfl, rfl⟩
    rw [hch]
    clear hch
    refine s_bipush (pc' := 250) W (108 : Int32) at_248 rfl rfl ?_
    refine s_icmpne (pc' := 253) (pcT := 297) W at_250 (by decide) rfl rfl (fun hq => absurd (by decide) hq) (fun _ => ?_)
    refine s_aload (pc' := 255) W at_253 rfl rfl rfl ?_
    refine s_iconst (pc' := 256) W (1 : Int32) at_255 rfl rfl ?_
    have hch : cs.getD 1 0 = (105 : Int32) := by have := H0 1 (by simp); first | exact this | (rw [show (1 : Nat) = 5 + 0 by omega]; exact this)
    refine s_virt (pc' := 259) W (C0 := "java/lang/String") (w249 hw) (w250 hw) (w252 hw) (w251 hw) (w25 hw) (w253 hw) (notFace_of_selects (args := a0) (w252 hw)) (by decide) pd35 [(.int (1 : Int32))] rfl L.1 (c_charatL l hw W.old CS0 FM L (i := 1) (by omega)) all0 rfl at_256 0 (le rfl) (bl rfl) (bl rfl) (by decide) (by decide) rfl ?_
    rintro _ T vm _ W C26 ⟨rfl, rfl⟩
    rw [hch]
    clear hch
    refine s_bipush (pc' := 261) W (105 : Int32) at_259 rfl rfl ?_
    refine s_icmpne (pc' := 264) (pcT := 297) W at_261 (by decide) rfl rfl (fun hq => absurd (by decide) hq) (fun _ => ?_)
    refine s_aload (pc' := 266) W at_264 rfl rfl rfl ?_
    refine s_iconst (pc' := 267) W (2 : Int32) at_266 rfl rfl ?_
    have hch : cs.getD 2 0 = (110 : Int32) := by have := H0 2 (by simp); first | exact this | (rw [show (2 : Nat) = 5 + 0 by omega]; exact this)
    refine s_virt (pc' := 270) W (C0 := "java/lang/String") (w249 hw) (w250 hw) (w252 hw) (w251 hw) (w25 hw) (w253 hw) (notFace_of_selects (args := a0) (w252 hw)) (by decide) pd35 [(.int (2 : Int32))] rfl L.1 (c_charatL l hw W.old CS0 FM L (i := 2) (by omega)) all0 rfl at_267 0 (le rfl) (bl rfl) (bl rfl) (by decide) (by decide) rfl ?_
    rintro _ T vm _ W C27 ⟨rfl, rfl⟩
    rw [hch]
    clear hch
    refine s_bipush (pc' := 272) W (110 : Int32) at_270 rfl rfl ?_
    refine s_icmpne (pc' := 275) (pcT := 297) W at_272 (by decide) rfl rfl (fun hq => absurd (by decide) hq) (fun _ => ?_)
    refine s_aload (pc' := 277) W at_275 rfl rfl rfl ?_
    refine s_iconst (pc' := 278) W (3 : Int32) at_277 rfl rfl ?_
    have hch : cs.getD 3 0 = (101 : Int32) := by have := H0 3 (by simp); first | exact this | (rw [show (3 : Nat) = 5 + 0 by omega]; exact this)
    refine s_virt (pc' := 281) W (C0 := "java/lang/String") (w249 hw) (w250 hw) (w252 hw) (w251 hw) (w25 hw) (w253 hw) (notFace_of_selects (args := a0) (w252 hw)) (by decide) pd35 [(.int (3 : Int32))] rfl L.1 (c_charatL l hw W.old CS0 FM L (i := 3) (by omega)) all0 rfl at_278 0 (le rfl) (bl rfl) (bl rfl) (by decide) (by decide) rfl ?_
    rintro _ T vm _ W C28 ⟨rfl, rfl⟩
    rw [hch]
    clear hch
    refine s_bipush (pc' := 283) W (101 : Int32) at_281 rfl rfl ?_
    refine s_icmpne (pc' := 286) (pcT := 297) W at_283 (by decide) rfl rfl (fun hq => absurd (by decide) hq) (fun _ => ?_)
    refine s_aload (pc' := 288) W at_286 rfl rfl rfl ?_
    refine s_iconst (pc' := 289) W (4 : Int32) at_288 rfl rfl ?_
    have hch : cs.getD 4 0 = (32 : Int32) := by have := H0 4 (by simp); first | exact this | (rw [show (4 : Nat) = 5 + 0 by omega]; exact this)
    refine s_virt (pc' := 292) W (C0 := "java/lang/String") (w249 hw) (w250 hw) (w252 hw) (w251 hw) (w25 hw) (w253 hw) (notFace_of_selects (args := a0) (w252 hw)) (by decide) pd35 [(.int (4 : Int32))] rfl L.1 (c_charatL l hw W.old CS0 FM L (i := 4) (by omega)) all0 rfl at_289 0 (le rfl) (bl rfl) (bl rfl) (by decide) (by decide) rfl ?_
    rintro _ T vm _ W C29 ⟨rfl, rfl⟩
    rw [hch]
    clear hch
    refine s_bipush (pc' := 294) W (32 : Int32) at_292 rfl rfl ?_
    refine s_icmpeq (pc' := 297) (pcT := 299) W at_294 (by decide) rfl rfl (fun _ => ?_) (fun hq => absurd (by decide) hq)
    refine s_iload (pc' := 301) W at_299 rfl rfl ?_
    refine s_iconst (pc' := 302) W (1 : Int32) at_301 rfl rfl ?_
    refine s_icmpne (pc' := 305) (pcT := 318) W at_302 (by decide) rfl rfl (fun _ => ?_) (fun hq => absurd hq (by decide))
    refine s_lload_n (pc' := 319) W at_318 rfl rfl ?_
    refine s_lconst (pc' := 320) W (0 : Int64) at_319 rfl rfl ?_
    refine s_lcmp (pc' := 321) W at_320 rfl ?_
    refine s_iflge (pc' := 324) (pcT := 328) W at_321 (by decide) rfl rfl (fun _ => ?_) (fun hq => absurd hq hx)
    refine s_lload_n (pc' := 329) W at_328 rfl rfl ?_
    refine s_lneg (pc' := 330) W at_329 rfl ?_
    refine s_lstore (pc' := 332) W #[.val (.long p0), .second, iv p1, iv p2, iv p3, iv p4, iv p5, rv pa, iv (Int32.ofNat k), iv c0, iv c1, iv c2, rv s_, rv ex, rv t, iv (0 : Int32), iv (Int32.ofNat d), .val (.long (-p0)), .second, .unset, .unset, .unset, .unset, .unset] at_330 rfl rfl ?_
    refine s_iload (pc' := 334) W at_332 rfl rfl ?_
    refine s_iconst (pc' := 335) W (1 : Int32) at_334 rfl rfl ?_
    refine s_icmple (pc' := 338) (pcT := 355) W at_335 (by decide) rfl rfl (fun hg => ?_) (fun hg => ?_)
    · refine s_iload (pc' := 357) W at_355 rfl rfl ?_
      refine s_bipush (pc' := 359) W (19 : Int32) at_357 rfl rfl ?_
      refine s_icmpge (pc' := 362) (pcT := 377) W at_359 (by decide) rfl rfl (fun h19 => ?_) (fun h19 => ?_)
      · exact lp_tail hw (by decide) (by decide) (by decide) (by decide) CS0 FM (sg := 0) (d := d) (k := k) (N := p0.toInt.natAbs) (cs := cs) hk hd1 hd19 (by decide) hN V_pa L hlen (fun i hi => by have q := H1 (0 + i) (by simp only [List.length_append, List.length_cons, List.length_nil, decs_len]; omega); rw [show 5 + 0 + i = 5 + (0 + i) by omega, q, ← decs_getD hi]; rw [Nat.zero_add]; rfl) (by have q := H2 0 (by decide); rw [show 5 + 0 + d = 5 + (0 + d) + 0 by omega, q]; rfl) (by have q := H2 1 (by decide); rw [show 5 + 0 + d + 1 = 5 + (0 + d) + 1 by omega, q]; rfl) (fun i hi => by have q := H3 i (by rw [take3_len hk]; exact hi); rw [show 5 + 0 + d + 2 + i = 5 + (0 + d) + 2 + i by omega, q, take3_getD hi]) W
      · have hg2 : d < 19 := by rcases Nat.lt_or_ge d 19 with q | q; exact q; exact absurd h19 (n_ge (i := d) (n := 19) q (by omega))
        refine s_lload (pc' := 364) W at_362 rfl rfl ?_
        refine s_aload (pc' := 366) W at_364 rfl rfl rfl ?_
        refine s_iload (pc' := 368) W at_366 rfl rfl ?_
        refine s_laload (pc' := 369) W (.long (p10 (d))) V_pa (n_nn (by omega)) (n_lt (n := 19) (by omega) (by decide)) (by rw [n_clamp (by omega)]; exact lv_getD p10s (d)) at_368 rfl ?_
        have hP := p10_toInt (j := d) (by omega)
        have hPn := p10_ne (j := d) (by omega)
        have hqn := qneg hN hP hPn.2
        refine s_ldiv (pc' := 370) W at_369 hPn.1 rfl ?_
        refine s_lconst (pc' := 371) W (0 : Int64) at_370 rfl rfl ?_
        refine s_lcmp (pc' := 372) W at_371 rfl ?_
        refine s_ifleq (pc' := 375) (pcT := 377) W at_372 (by decide) rfl rfl (fun _ => ?_) (fun hq => absurd (Int64.toInt_inj.mp (by rw [hqn, Nat.div_eq_of_lt hd.2.1]; rfl)) hq)
        clear hP hPn hqn
        exact lp_tail hw (by decide) (by decide) (by decide) (by decide) CS0 FM (sg := 0) (d := d) (k := k) (N := p0.toInt.natAbs) (cs := cs) hk hd1 hd19 (by decide) hN V_pa L hlen (fun i hi => by have q := H1 (0 + i) (by simp only [List.length_append, List.length_cons, List.length_nil, decs_len]; omega); rw [show 5 + 0 + i = 5 + (0 + i) by omega, q, ← decs_getD hi]; rw [Nat.zero_add]; rfl) (by have q := H2 0 (by decide); rw [show 5 + 0 + d = 5 + (0 + d) + 0 by omega, q]; rfl) (by have q := H2 1 (by decide); rw [show 5 + 0 + d + 1 = 5 + (0 + d) + 1 by omega, q]; rfl) (fun i hi => by have q := H3 i (by rw [take3_len hk]; exact hi); rw [show 5 + 0 + d + 2 + i = 5 + (0 + d) + 2 + i by omega, q, take3_getD hi]) W
    · have hg1 : 1 < d := by rcases Nat.lt_or_ge 1 d with q | q; exact q; exact absurd hg (n_ge (i := 1) (n := d) q (by decide))
      refine s_lload (pc' := 340) W at_338 rfl rfl ?_
      refine s_aload (pc' := 342) W at_340 rfl rfl rfl ?_
      refine s_iload (pc' := 344) W at_342 rfl rfl ?_
      refine s_iconst (pc' := 345) W (1 : Int32) at_344 rfl rfl ?_
      refine s_isub (pc' := 346) W at_345 rfl ?_
      rw [show Int32.ofNat d - (1 : Int32) = Int32.ofNat (d - 1) from n_sub (j := 1) (by omega)]
      have hge : 10 ^ (d - 1) ≤ p0.toInt.natAbs := hd.2.2.resolve_left (by omega)
      have hpp : 0 < 10 ^ (d - 1) := Nat.pow_pos (by decide)
      refine s_laload (pc' := 347) W (.long (p10 (d - 1))) V_pa (n_nn (by omega)) (n_lt (n := 19) (by omega) (by decide)) (by rw [n_clamp (by omega)]; exact lv_getD p10s (d - 1)) at_346 rfl ?_
      have hP := p10_toInt (j := d - 1) (by omega)
      have hPn := p10_ne (j := d - 1) (by omega)
      have hqn := qneg hN hP hPn.2
      refine s_ldiv (pc' := 348) W at_347 hPn.1 rfl ?_
      refine s_lconst (pc' := 349) W (0 : Int64) at_348 rfl rfl ?_
      refine s_lcmp (pc' := 350) W at_349 rfl ?_
      refine s_iflne (pc' := 353) (pcT := 355) W at_350 (by decide) rfl rfl (fun _ => ?_) (fun hq => absurd hq (fun q => by rw [q] at hqn; have := Nat.div_pos hge hpp; omega))
      clear hP hPn hqn
      refine s_iload (pc' := 357) W at_355 rfl rfl ?_
      refine s_bipush (pc' := 359) W (19 : Int32) at_357 rfl rfl ?_
      refine s_icmpge (pc' := 362) (pcT := 377) W at_359 (by decide) rfl rfl (fun h19 => ?_) (fun h19 => ?_)
      · exact lp_tail hw (by decide) (by decide) (by decide) (by decide) CS0 FM (sg := 0) (d := d) (k := k) (N := p0.toInt.natAbs) (cs := cs) hk hd1 hd19 (by decide) hN V_pa L hlen (fun i hi => by have q := H1 (0 + i) (by simp only [List.length_append, List.length_cons, List.length_nil, decs_len]; omega); rw [show 5 + 0 + i = 5 + (0 + i) by omega, q, ← decs_getD hi]; rw [Nat.zero_add]; rfl) (by have q := H2 0 (by decide); rw [show 5 + 0 + d = 5 + (0 + d) + 0 by omega, q]; rfl) (by have q := H2 1 (by decide); rw [show 5 + 0 + d + 1 = 5 + (0 + d) + 1 by omega, q]; rfl) (fun i hi => by have q := H3 i (by rw [take3_len hk]; exact hi); rw [show 5 + 0 + d + 2 + i = 5 + (0 + d) + 2 + i by omega, q, take3_getD hi]) W
      · have hg2 : d < 19 := by rcases Nat.lt_or_ge d 19 with q | q; exact q; exact absurd h19 (n_ge (i := d) (n := 19) q (by omega))
        refine s_lload (pc' := 364) W at_362 rfl rfl ?_
        refine s_aload (pc' := 366) W at_364 rfl rfl rfl ?_
        refine s_iload (pc' := 368) W at_366 rfl rfl ?_
        refine s_laload (pc' := 369) W (.long (p10 (d))) V_pa (n_nn (by omega)) (n_lt (n := 19) (by omega) (by decide)) (by rw [n_clamp (by omega)]; exact lv_getD p10s (d)) at_368 rfl ?_
        have hP := p10_toInt (j := d) (by omega)
        have hPn := p10_ne (j := d) (by omega)
        have hqn := qneg hN hP hPn.2
        refine s_ldiv (pc' := 370) W at_369 hPn.1 rfl ?_
        refine s_lconst (pc' := 371) W (0 : Int64) at_370 rfl rfl ?_
        refine s_lcmp (pc' := 372) W at_371 rfl ?_
        refine s_ifleq (pc' := 375) (pcT := 377) W at_372 (by decide) rfl rfl (fun _ => ?_) (fun hq => absurd (Int64.toInt_inj.mp (by rw [hqn, Nat.div_eq_of_lt hd.2.1]; rfl)) hq)
        clear hP hPn hqn
        exact lp_tail hw (by decide) (by decide) (by decide) (by decide) CS0 FM (sg := 0) (d := d) (k := k) (N := p0.toInt.natAbs) (cs := cs) hk hd1 hd19 (by decide) hN V_pa L hlen (fun i hi => by have q := H1 (0 + i) (by simp only [List.length_append, List.length_cons, List.length_nil, decs_len]; omega); rw [show 5 + 0 + i = 5 + (0 + i) by omega, q, ← decs_getD hi]; rw [Nat.zero_add]; rfl) (by have q := H2 0 (by decide); rw [show 5 + 0 + d = 5 + (0 + d) + 0 by omega, q]; rfl) (by have q := H2 1 (by decide); rw [show 5 + 0 + d + 1 = 5 + (0 + d) + 1 by omega, q]; rfl) (fun i hi => by have q := H3 i (by rw [take3_len hk]; exact hi); rw [show 5 + 0 + d + 2 + i = 5 + (0 + d) + 2 + i by omega, q, take3_getD hi]) W
  · rw [if_pos hx] at hcs
    have hlen : cs.length = 5 + 1 + d + 2 + k := by rw [hcs]; simp only [List.length_append, List.length_cons, List.length_nil, decs_len, take3_len hk]; omega
    have E0 : cs = (([] : List Int32)) ++ (([(108 : Int32), (105 : Int32), (110 : Int32), (101 : Int32), (32 : Int32)]) ++ (([45] ++ decs p0.toInt.natAbs d) ++ ([(58 : Int32), (32 : Int32)]) ++ ([c0, c1, c2].take k))) := by rw [hcs]; simp only [List.append_assoc, List.nil_append, List.append_nil, List.cons_append]
    have H0 := seg E0 (o := 0) (by simp only [List.length_append, List.length_cons, List.length_nil, decs_len, take3_len hk]; try omega)
    have E1 : cs = (([(108 : Int32), (105 : Int32), (110 : Int32), (101 : Int32), (32 : Int32)])) ++ (([45] ++ decs p0.toInt.natAbs d) ++ (([(58 : Int32), (32 : Int32)]) ++ ([c0, c1, c2].take k))) := by rw [hcs]; simp only [List.append_assoc, List.nil_append, List.append_nil, List.cons_append]
    have H1 := seg E1 (o := 5) (by simp only [List.length_append, List.length_cons, List.length_nil, decs_len, take3_len hk]; try omega)
    have E2 : cs = (([(108 : Int32), (105 : Int32), (110 : Int32), (101 : Int32), (32 : Int32)]) ++ ([45] ++ decs p0.toInt.natAbs d)) ++ (([(58 : Int32), (32 : Int32)]) ++ (([c0, c1, c2].take k))) := by rw [hcs]; simp only [List.append_assoc, List.nil_append, List.append_nil, List.cons_append]
    have H2 := seg E2 (o := 5 + (1 + d)) (by simp only [List.length_append, List.length_cons, List.length_nil, decs_len, take3_len hk]; try omega)
    have E3 : cs = (([(108 : Int32), (105 : Int32), (110 : Int32), (101 : Int32), (32 : Int32)]) ++ ([45] ++ decs p0.toInt.natAbs d) ++ ([(58 : Int32), (32 : Int32)])) ++ (([c0, c1, c2].take k) ++ (([] : List Int32))) := by rw [hcs]; simp only [List.append_assoc, List.nil_append, List.append_nil, List.cons_append]
    have H3 := seg E3 (o := 5 + (1 + d) + 2) (by simp only [List.length_append, List.length_cons, List.length_nil, decs_len, take3_len hk]; try omega)
    have hN : p0.toInt = -(p0.toInt.natAbs : Int) := by have := (Int64.lt_iff_toInt_lt (x := p0) (y := 0)).mp hx; omega
    refine s_iconst (pc' := 205) W (1 : Int32) at_204 rfl rfl ?_
    refine s_goto (pc' := 209) W at_205 (by decide) rfl ?_
    refine s_istore (pc' := 211) W #[.val (.long p0), .second, iv p1, iv p2, iv p3, iv p4, iv p5, rv pa, iv (Int32.ofNat k), iv c0, iv c1, iv c2, rv s_, rv ex, rv t, iv (1 : Int32), .unset, .unset, .unset, .unset, .unset, .unset, .unset, .unset] at_209 rfl rfl ?_
    refine s_aload (pc' := 213) W at_211 rfl rfl rfl ?_
    refine s_virt (pc' := 216) W (C0 := "java/lang/String") (w248 hw) (w81 hw) (w83 hw) (w82 hw) (w25 hw) (w84 hw) (notFace_of_selects (args := a0) (w83 hw)) (by decide) pd15 [] rfl L.1 (c_strlength l hw W.old CS0 L) all0 rfl at_213 0 (le rfl) (bl rfl) (bl rfl) (by decide) (by decide) rfl ?_
    rintro _ T vm _ W C30 ⟨rfl, rfl⟩
    refine s_bipush (pc' := 218) W (7 : Int32) at_216 rfl rfl ?_
    refine s_isub (pc' := 219) W at_218 rfl ?_
    refine s_iload (pc' := 221) W at_219 rfl rfl ?_
    refine s_isub (pc' := 222) W at_221 rfl ?_
    refine s_iload (pc' := 224) W at_222 rfl rfl ?_
    refine s_isub (pc' := 225) W at_224 rfl ?_
    rw [show ((((Int32.ofNat cs.length) - (7 : Int32)) - (1 : Int32)) - (Int32.ofNat k)) = Int32.ofNat d from by rw [hlen, show (7 : Int32) = Int32.ofNat 7 from rfl, show (1 : Int32) = Int32.ofNat 1 from rfl, n_sub (by omega), n_sub (by omega), n_sub (by omega)]; congr 1; omega]
    have hd1 := hd.1
    refine s_istore (pc' := 227) W #[.val (.long p0), .second, iv p1, iv p2, iv p3, iv p4, iv p5, rv pa, iv (Int32.ofNat k), iv c0, iv c1, iv c2, rv s_, rv ex, rv t, iv (1 : Int32), iv (Int32.ofNat d), .unset, .unset, .unset, .unset, .unset, .unset, .unset] at_225 rfl rfl ?_
    refine s_iload (pc' := 229) W at_227 rfl rfl ?_
    refine s_iconst (pc' := 230) W (1 : Int32) at_229 rfl rfl ?_
    refine s_icmplt (pc' := 233) (pcT := 240) W at_230 (by decide) rfl rfl (fun hq => absurd hq (n_ge (i := d) (n := 1) hd1 (by omega))) (fun _ => ?_)
    refine s_iload (pc' := 235) W at_233 rfl rfl ?_
    refine s_bipush (pc' := 237) W (19 : Int32) at_235 rfl rfl ?_
    refine s_icmple (pc' := 240) (pcT := 242) W at_237 (by decide) rfl rfl (fun _ => ?_) (fun hq => absurd hq (n_ge (i := 19) (n := d) hd19 (by decide)))
    refine s_aload (pc' := 244) W at_242 rfl rfl rfl ?_
    refine s_iconst (pc' := 245) W (0 : Int32) at_244 rfl rfl ?_
    have hch : cs.getD 0 0 = (108 : Int32) := by have := H0 0 (by simp); first | exact this | (rw [show (0 : Nat) = 5 + 0 by omega]; exact this)
    refine s_virt (pc' := 248) W (C0 := "java/lang/String") (w249 hw) (w250 hw) (w252 hw) (w251 hw) (w25 hw) (w253 hw) (notFace_of_selects (args := a0) (w252 hw)) (by decide) pd35 [(.int (0 : Int32))] rfl L.1 (c_charatL l hw W.old CS0 FM L (i := 0) (by omega)) all0 rfl at_245 0 (le rfl) (bl rfl) (bl rfl) (by decide) (by decide) rfl ?_
    rintro _ T vm _ W C31 ⟨rfl, rfl⟩
    rw [hch]
    clear hch
    refine s_bipush (pc' := 250) W (108 : Int32) at_248 rfl rfl ?_
    refine s_icmpne (pc' := 253) (pcT := 297) W at_250 (by decide) rfl rfl (fun hq => absurd (by decide) hq) (fun _ => ?_)
    refine s_aload (pc' := 255) W at_253 rfl rfl rfl ?_
    refine s_iconst (pc' := 256) W (1 : Int32) at_255 rfl rfl ?_
    have hch : cs.getD 1 0 = (105 : Int32) := by have := H0 1 (by simp); first | exact this | (rw [show (1 : Nat) = 5 + 0 by omega]; exact this)
    refine s_virt (pc' := 259) W (C0 := "java/lang/String") (w249 hw) (w250 hw) (w252 hw) (w251 hw) (w25 hw) (w253 hw) (notFace_of_selects (args := a0) (w252 hw)) (by decide) pd35 [(.int (1 : Int32))] rfl L.1 (c_charatL l hw W.old CS0 FM L (i := 1) (by omega)) all0 rfl at_256 0 (le rfl) (bl rfl) (bl rfl) (by decide) (by decide) rfl ?_
    rintro _ T vm _ W C32 ⟨rfl, rfl⟩
    rw [hch]
    clear hch
    refine s_bipush (pc' := 261) W (105 : Int32) at_259 rfl rfl ?_
    refine s_icmpne (pc' := 264) (pcT := 297) W at_261 (by decide) rfl rfl (fun hq => absurd (by decide) hq) (fun _ => ?_)
    refine s_aload (pc' := 266) W at_264 rfl rfl rfl ?_
    refine s_iconst (pc' := 267) W (2 : Int32) at_266 rfl rfl ?_
    have hch : cs.getD 2 0 = (110 : Int32) := by have := H0 2 (by simp); first | exact this | (rw [show (2 : Nat) = 5 + 0 by omega]; exact this)
    refine s_virt (pc' := 270) W (C0 := "java/lang/String") (w249 hw) (w250 hw) (w252 hw) (w251 hw) (w25 hw) (w253 hw) (notFace_of_selects (args := a0) (w252 hw)) (by decide) pd35 [(.int (2 : Int32))] rfl L.1 (c_charatL l hw W.old CS0 FM L (i := 2) (by omega)) all0 rfl at_267 0 (le rfl) (bl rfl) (bl rfl) (by decide) (by decide) rfl ?_
    rintro _ T vm _ W C33 ⟨rfl, rfl⟩
    rw [hch]
    clear hch
    refine s_bipush (pc' := 272) W (110 : Int32) at_270 rfl rfl ?_
    refine s_icmpne (pc' := 275) (pcT := 297) W at_272 (by decide) rfl rfl (fun hq => absurd (by decide) hq) (fun _ => ?_)
    refine s_aload (pc' := 277) W at_275 rfl rfl rfl ?_
    refine s_iconst (pc' := 278) W (3 : Int32) at_277 rfl rfl ?_
    have hch : cs.getD 3 0 = (101 : Int32) := by have := H0 3 (by simp); first | exact this | (rw [show (3 : Nat) = 5 + 0 by omega]; exact this)
    refine s_virt (pc' := 281) W (C0 := "java/lang/String") (w249 hw) (w250 hw) (w252 hw) (w251 hw) (w25 hw) (w253 hw) (notFace_of_selects (args := a0) (w252 hw)) (by decide) pd35 [(.int (3 : Int32))] rfl L.1 (c_charatL l hw W.old CS0 FM L (i := 3) (by omega)) all0 rfl at_278 0 (le rfl) (bl rfl) (bl rfl) (by decide) (by decide) rfl ?_
    rintro _ T vm _ W C34 ⟨rfl, rfl⟩
    rw [hch]
    clear hch
    refine s_bipush (pc' := 283) W (101 : Int32) at_281 rfl rfl ?_
    refine s_icmpne (pc' := 286) (pcT := 297) W at_283 (by decide) rfl rfl (fun hq => absurd (by decide) hq) (fun _ => ?_)
    refine s_aload (pc' := 288) W at_286 rfl rfl rfl ?_
    refine s_iconst (pc' := 289) W (4 : Int32) at_288 rfl rfl ?_
    have hch : cs.getD 4 0 = (32 : Int32) := by have := H0 4 (by simp); first | exact this | (rw [show (4 : Nat) = 5 + 0 by omega]; exact this)
    refine s_virt (pc' := 292) W (C0 := "java/lang/String") (w249 hw) (w250 hw) (w252 hw) (w251 hw) (w25 hw) (w253 hw) (notFace_of_selects (args := a0) (w252 hw)) (by decide) pd35 [(.int (4 : Int32))] rfl L.1 (c_charatL l hw W.old CS0 FM L (i := 4) (by omega)) all0 rfl at_289 0 (le rfl) (bl rfl) (bl rfl) (by decide) (by decide) rfl ?_
    rintro _ T vm _ W C35 ⟨rfl, rfl⟩
    rw [hch]
    clear hch
    refine s_bipush (pc' := 294) W (32 : Int32) at_292 rfl rfl ?_
    refine s_icmpeq (pc' := 297) (pcT := 299) W at_294 (by decide) rfl rfl (fun _ => ?_) (fun hq => absurd (by decide) hq)
    refine s_iload (pc' := 301) W at_299 rfl rfl ?_
    refine s_iconst (pc' := 302) W (1 : Int32) at_301 rfl rfl ?_
    refine s_icmpne (pc' := 305) (pcT := 318) W at_302 (by decide) rfl rfl (fun hq => absurd (by decide) hq) (fun _ => ?_)
    refine s_aload (pc' := 307) W at_305 rfl rfl rfl ?_
    refine s_iconst (pc' := 308) W (5 : Int32) at_307 rfl rfl ?_
    have hch : cs.getD 5 0 = (45 : Int32) := by have := H1 0 (by simp); first | exact this | (rw [show (5 : Nat) = 5 + 0 by omega]; exact this)
    refine s_virt (pc' := 311) W (C0 := "java/lang/String") (w249 hw) (w250 hw) (w252 hw) (w251 hw) (w25 hw) (w253 hw) (notFace_of_selects (args := a0) (w252 hw)) (by decide) pd35 [(.int (5 : Int32))] rfl L.1 (c_charatL l hw W.old CS0 FM L (i := 5) (by omega)) all0 rfl at_308 0 (le rfl) (bl rfl) (bl rfl) (by decide) (by decide) rfl ?_
    rintro _ T vm _ W C36 ⟨rfl, rfl⟩
    rw [hch]
    clear hch
    refine s_bipush (pc' := 313) W (45 : Int32) at_311 rfl rfl ?_
    refine s_icmpeq (pc' := 316) (pcT := 318) W at_313 (by decide) rfl rfl (fun _ => ?_) (fun hq => absurd (by decide) hq)
    refine s_lload_n (pc' := 319) W at_318 rfl rfl ?_
    refine s_lconst (pc' := 320) W (0 : Int64) at_319 rfl rfl ?_
    refine s_lcmp (pc' := 321) W at_320 rfl ?_
    refine s_iflge (pc' := 324) (pcT := 328) W at_321 (by decide) rfl rfl (fun hq => absurd hx hq) (fun _ => ?_)
    refine s_lload_n (pc' := 325) W at_324 rfl rfl ?_
    refine s_goto (pc' := 330) W at_325 (by decide) rfl ?_
    refine s_lstore (pc' := 332) W #[.val (.long p0), .second, iv p1, iv p2, iv p3, iv p4, iv p5, rv pa, iv (Int32.ofNat k), iv c0, iv c1, iv c2, rv s_, rv ex, rv t, iv (1 : Int32), iv (Int32.ofNat d), .val (.long p0), .second, .unset, .unset, .unset, .unset, .unset] at_330 rfl rfl ?_
    refine s_iload (pc' := 334) W at_332 rfl rfl ?_
    refine s_iconst (pc' := 335) W (1 : Int32) at_334 rfl rfl ?_
    refine s_icmple (pc' := 338) (pcT := 355) W at_335 (by decide) rfl rfl (fun hg => ?_) (fun hg => ?_)
    · refine s_iload (pc' := 357) W at_355 rfl rfl ?_
      refine s_bipush (pc' := 359) W (19 : Int32) at_357 rfl rfl ?_
      refine s_icmpge (pc' := 362) (pcT := 377) W at_359 (by decide) rfl rfl (fun h19 => ?_) (fun h19 => ?_)
      · exact lp_tail hw (by decide) (by decide) (by decide) (by decide) CS0 FM (sg := 1) (d := d) (k := k) (N := p0.toInt.natAbs) (cs := cs) hk hd1 hd19 (by decide) hN V_pa L hlen (fun i hi => by have q := H1 (1 + i) (by simp only [List.length_append, List.length_cons, List.length_nil, decs_len]; omega); rw [show 5 + 1 + i = 5 + (1 + i) by omega, q, ← decs_getD hi]; rw [Nat.add_comm]; rfl) (by have q := H2 0 (by decide); rw [show 5 + 1 + d = 5 + (1 + d) + 0 by omega, q]; rfl) (by have q := H2 1 (by decide); rw [show 5 + 1 + d + 1 = 5 + (1 + d) + 1 by omega, q]; rfl) (fun i hi => by have q := H3 i (by rw [take3_len hk]; exact hi); rw [show 5 + 1 + d + 2 + i = 5 + (1 + d) + 2 + i by omega, q, take3_getD hi]) W
      · have hg2 : d < 19 := by rcases Nat.lt_or_ge d 19 with q | q; exact q; exact absurd h19 (n_ge (i := d) (n := 19) q (by omega))
        refine s_lload (pc' := 364) W at_362 rfl rfl ?_
        refine s_aload (pc' := 366) W at_364 rfl rfl rfl ?_
        refine s_iload (pc' := 368) W at_366 rfl rfl ?_
        refine s_laload (pc' := 369) W (.long (p10 (d))) V_pa (n_nn (by omega)) (n_lt (n := 19) (by omega) (by decide)) (by rw [n_clamp (by omega)]; exact lv_getD p10s (d)) at_368 rfl ?_
        have hP := p10_toInt (j := d) (by omega)
        have hPn := p10_ne (j := d) (by omega)
        have hqn := qneg hN hP hPn.2
        refine s_ldiv (pc' := 370) W at_369 hPn.1 rfl ?_
        refine s_lconst (pc' := 371) W (0 : Int64) at_370 rfl rfl ?_
        refine s_lcmp (pc' := 372) W at_371 rfl ?_
        refine s_ifleq (pc' := 375) (pcT := 377) W at_372 (by decide) rfl rfl (fun _ => ?_) (fun hq => absurd (Int64.toInt_inj.mp (by rw [hqn, Nat.div_eq_of_lt hd.2.1]; rfl)) hq)
        clear hP hPn hqn
        exact lp_tail hw (by decide) (by decide) (by decide) (by decide) CS0 FM (sg := 1) (d := d) (k := k) (N := p0.toInt.natAbs) (cs := cs) hk hd1 hd19 (by decide) hN V_pa L hlen (fun i hi => by have q := H1 (1 + i) (by simp only [List.length_append, List.length_cons, List.length_nil, decs_len]; omega); rw [show 5 + 1 + i = 5 + (1 + i) by omega, q, ← decs_getD hi]; rw [Nat.add_comm]; rfl) (by have q := H2 0 (by decide); rw [show 5 + 1 + d = 5 + (1 + d) + 0 by omega, q]; rfl) (by have q := H2 1 (by decide); rw [show 5 + 1 + d + 1 = 5 + (1 + d) + 1 by omega, q]; rfl) (fun i hi => by have q := H3 i (by rw [take3_len hk]; exact hi); rw [show 5 + 1 + d + 2 + i = 5 + (1 + d) + 2 + i by omega, q, take3_getD hi]) W
    · have hg1 : 1 < d := by rcases Nat.lt_or_ge 1 d with q | q; exact q; exact absurd hg (n_ge (i := 1) (n := d) q (by decide))
      refine s_lload (pc' := 340) W at_338 rfl rfl ?_
      refine s_aload (pc' := 342) W at_340 rfl rfl rfl ?_
      refine s_iload (pc' := 344) W at_342 rfl rfl ?_
      refine s_iconst (pc' := 345) W (1 : Int32) at_344 rfl rfl ?_
      refine s_isub (pc' := 346) W at_345 rfl ?_
      rw [show Int32.ofNat d - (1 : Int32) = Int32.ofNat (d - 1) from n_sub (j := 1) (by omega)]
      have hge : 10 ^ (d - 1) ≤ p0.toInt.natAbs := hd.2.2.resolve_left (by omega)
      have hpp : 0 < 10 ^ (d - 1) := Nat.pow_pos (by decide)
      refine s_laload (pc' := 347) W (.long (p10 (d - 1))) V_pa (n_nn (by omega)) (n_lt (n := 19) (by omega) (by decide)) (by rw [n_clamp (by omega)]; exact lv_getD p10s (d - 1)) at_346 rfl ?_
      have hP := p10_toInt (j := d - 1) (by omega)
      have hPn := p10_ne (j := d - 1) (by omega)
      have hqn := qneg hN hP hPn.2
      refine s_ldiv (pc' := 348) W at_347 hPn.1 rfl ?_
      refine s_lconst (pc' := 349) W (0 : Int64) at_348 rfl rfl ?_
      refine s_lcmp (pc' := 350) W at_349 rfl ?_
      refine s_iflne (pc' := 353) (pcT := 355) W at_350 (by decide) rfl rfl (fun _ => ?_) (fun hq => absurd hq (fun q => by rw [q] at hqn; have := Nat.div_pos hge hpp; omega))
      clear hP hPn hqn
      refine s_iload (pc' := 357) W at_355 rfl rfl ?_
      refine s_bipush (pc' := 359) W (19 : Int32) at_357 rfl rfl ?_
      refine s_icmpge (pc' := 362) (pcT := 377) W at_359 (by decide) rfl rfl (fun h19 => ?_) (fun h19 => ?_)
      · exact lp_tail hw (by decide) (by decide) (by decide) (by decide) CS0 FM (sg := 1) (d := d) (k := k) (N := p0.toInt.natAbs) (cs := cs) hk hd1 hd19 (by decide) hN V_pa L hlen (fun i hi => by have q := H1 (1 + i) (by simp only [List.length_append, List.length_cons, List.length_nil, decs_len]; omega); rw [show 5 + 1 + i = 5 + (1 + i) by omega, q, ← decs_getD hi]; rw [Nat.add_comm]; rfl) (by have q := H2 0 (by decide); rw [show 5 + 1 + d = 5 + (1 + d) + 0 by omega, q]; rfl) (by have q := H2 1 (by decide); rw [show 5 + 1 + d + 1 = 5 + (1 + d) + 1 by omega, q]; rfl) (fun i hi => by have q := H3 i (by rw [take3_len hk]; exact hi); rw [show 5 + 1 + d + 2 + i = 5 + (1 + d) + 2 + i by omega, q, take3_getD hi]) W
      · have hg2 : d < 19 := by rcases Nat.lt_or_ge d 19 with q | q; exact q; exact absurd h19 (n_ge (i := d) (n := 19) q (by omega))
        refine s_lload (pc' := 364) W at_362 rfl rfl ?_
        refine s_aload (pc' := 366) W at_364 rfl rfl rfl ?_
        refine s_iload (pc' := 368) W at_366 rfl rfl ?_
        refine s_laload (pc' := 369) W (.long (p10 (d))) V_pa (n_nn (by omega)) (n_lt (n := 19) (by omega) (by decide)) (by rw [n_clamp (by omega)]; exact lv_getD p10s (d)) at_368 rfl ?_
        have hP := p10_toInt (j := d) (by omega)
        have hPn := p10_ne (j := d) (by omega)
        have hqn := qneg hN hP hPn.2
        refine s_ldiv (pc' := 370) W at_369 hPn.1 rfl ?_
        refine s_lconst (pc' := 371) W (0 : Int64) at_370 rfl rfl ?_
        refine s_lcmp (pc' := 372) W at_371 rfl ?_
        refine s_ifleq (pc' := 375) (pcT := 377) W at_372 (by decide) rfl rfl (fun _ => ?_) (fun hq => absurd (Int64.toInt_inj.mp (by rw [hqn, Nat.div_eq_of_lt hd.2.1]; rfl)) hq)
        clear hP hPn hqn
        exact lp_tail hw (by decide) (by decide) (by decide) (by decide) CS0 FM (sg := 1) (d := d) (k := k) (N := p0.toInt.natAbs) (cs := cs) hk hd1 hd19 (by decide) hN V_pa L hlen (fun i hi => by have q := H1 (1 + i) (by simp only [List.length_append, List.length_cons, List.length_nil, decs_len]; omega); rw [show 5 + 1 + i = 5 + (1 + i) by omega, q, ← decs_getD hi]; rw [Nat.add_comm]; rfl) (by have q := H2 0 (by decide); rw [show 5 + 1 + d = 5 + (1 + d) + 0 by omega, q]; rfl) (by have q := H2 1 (by decide); rw [show 5 + 1 + d + 1 = 5 + (1 + d) + 1 by omega, q]; rfl) (fun i hi => by have q := H3 i (by rw [take3_len hk]; exact hi); rw [show 5 + 1 + d + 2 + i = 5 + (1 + d) + 2 + i by omega, q, take3_getD hi]) W
set_option maxHeartbeats 40000000 in
theorem dg_DigitOnes {Z : State} {args : Array Value} : ∀ j, j < 100 → (Jvm.Term.add (Jvm.Term.int (48 : Int32)) (Jvm.Term.rem (Jvm.Term.index (0 : Nat)) (Jvm.Term.int (10 : Int32)))).eval args Z none [j] Z = some (.int ((fun i => Int32.ofNat (48 + i % 10)) j)) := fun j hj => by
  have e1 : (Int32.ofNat j).toInt = j := n_toInt (by omega)
  have key : (48 : Int32) + Int32.ofNat j % 10 = Int32.ofNat (48 + j % 10) := by
    apply Int32.toInt_inj.mp
    have q := (c_irem (Int32.ofNat j) 10 10 rfl).1 (by omega)
    have a := c_iadd (48 : Int32) (Int32.ofNat j % 10)
    have e48 : (48 : Int32).toInt = 48 := rfl
    have r := rng32 ((48 : Int32) + Int32.ofNat j % 10)
    rw [n_toInt (by omega)]
    omega
  have key2 : Int32.ofNat j % 10 = Int32.ofNat (j % 10) := by
    apply Int32.toInt_inj.mp
    have q := (c_irem (Int32.ofNat j) 10 10 rfl).1 (by omega)
    rw [n_toInt (by omega)]
    omega
  simp [Term.eval] <;> first | exact key | exact key2 | (rw [← key]; rfl)
set_option maxHeartbeats 40000000 in
theorem dg_DigitTens {Z : State} {args : Array Value} : ∀ j, j < 100 → (Jvm.Term.add (Jvm.Term.int (48 : Int32)) (Jvm.Term.div (Jvm.Term.index (0 : Nat)) (Jvm.Term.int (10 : Int32)))).eval args Z none [j] Z = some (.int ((fun i => Int32.ofNat (48 + i / 10)) j)) := fun j hj => by
  have e1 : (Int32.ofNat j).toInt = j := n_toInt (by omega)
  have key : (48 : Int32) + Int32.ofNat j / 10 = Int32.ofNat (48 + j / 10) := by
    apply Int32.toInt_inj.mp
    have q := (c_idiv (Int32.ofNat j) 10 10 rfl (by decide)).1 (by omega)
    have a := c_iadd (48 : Int32) (Int32.ofNat j / 10)
    have e48 : (48 : Int32).toInt = 48 := rfl
    have r := rng32 ((48 : Int32) + Int32.ofNat j / 10)
    rw [n_toInt (by omega)]
    omega
  have key2 : Int32.ofNat j / 10 = Int32.ofNat (j / 10) := by
    apply Int32.toInt_inj.mp
    have q := (c_idiv (Int32.ofNat j) 10 10 rfl (by decide)).1 (by omega)
    rw [n_toInt (by omega)]
    omega
  simp [Term.eval] <;> first | exact key | exact key2 | (rw [← key]; rfl)
set_option maxRecDepth 65536 in
set_option maxHeartbeats 40000000 in
theorem comes_1 {Post : Tables → Env → Array Value → State → Outcome → State → Prop} (hpost : ∀ tb e args s v u, (limb_1_1.after args s (.returned v) u = true ∧ limb_1_2.after args s (.returned v) u = true ∧ True) → Jvm.D.FramedW s (.returned v) u (Jvm.fieldLocs frame_1_writes args s ++ Jvm.arrayLocs frame_1_arrays args s ++ Jvm.staticLocs frame_1_statics s) 40 8960 → Post tb e args s (.returned v) u) :
    ArmFor flags0 classFile x code maxLocals ret World_1 tables_1 room_1 Calls_1 rest_1 Pre_1 Post := by
  intro l hfl _ _ p e ha hc hk s m args below hf hA hF happ hP
  obtain ⟨hcalls, hrest, hpre⟩ := hP
  obtain ⟨-, -, -, hnamed, -, -, -, hat⟩ := (Spec.applies_iff hf).mp happ
  obtain ⟨hg, hn⟩ := and_e (Cond.before_iff.mp (show (Jvm.Cond.and given_1 narrow_1).before args s = true from hpre))
  obtain ⟨h1, h2⟩ := and_e hg
  obtain ⟨hi0, h3⟩ := and_e h2
  obtain ⟨hi1, h4⟩ := and_e h3
  obtain ⟨hi2, h5⟩ := and_e h4
  obtain ⟨hi3, h6⟩ := and_e h5
  obtain ⟨hi4, h7⟩ := and_e h6
  have hi5 := h7
  obtain ⟨v0, v1, v2, v3, v4, v5, rfl⟩ : ∃ v0 v1 v2 v3 v4 v5 : Value, args = #[v0, v1, v2, v3, v4, v5] := by
    have hs : args.size = 6 := by simpa [Cond.value, given_1] using h1
    obtain ⟨L⟩ := args
    match L, hs with
    | [v0, v1, v2, v3, v4, v5], _ => exact ⟨v0, v1, v2, v3, v4, v5, rfl⟩
  have hw : Hw s #[v0, v1, v2, v3, v4, v5] := fun d (hd : d ∈ tables_1) => atoms_spec (ws := Jvm.Cond.code x code maxLocals ret :: tables_1) hat d (List.mem_cons_of_mem _ hd)
  obtain ⟨hsets, hown0⟩ := atoms_of _ (rest_1_c_eq ▸ (show rest_1_c.before _ s = true from hrest))
  obtain ⟨i0, e0⟩ := isL_v hi0
  obtain rfl : v0 = (.long i0) := Option.some.inj e0
  obtain ⟨i1, e1⟩ := is_v hi1
  obtain rfl : v1 = (.int i1) := Option.some.inj e1
  obtain ⟨i2, e2⟩ := is_v hi2
  obtain rfl : v2 = (.int i2) := Option.some.inj e2
  obtain ⟨i3, e3⟩ := is_v hi3
  obtain rfl : v3 = (.int i3) := Option.some.inj e3
  obtain ⟨i4, e4⟩ := is_v hi4
  obtain rfl : v4 = (.int i4) := Option.some.inj e4
  obtain ⟨i5, e5⟩ := is_v hi5
  obtain rfl : v5 = (.int i5) := Option.some.inj e5
  have n5 := not_v (Cond.before_iff.mp (hsets _ (List.mem_of_getElem? (i := 2) rfl)))
  obtain ⟨ic, ec⟩ := is_v (Cond.before_iff.mp (hsets _ (List.mem_of_getElem? (i := 1) rfl)))
  have S12 : Sta s s.heap "java/lang/String" "COMPACT_STRINGS" "Z" (.int ic) := Sta.start ec (Or.inl (hsets _ (List.mem_of_getElem? (i := 0) rfl)))
  have CS0 : CS s := ⟨ic, S12, gotF (Cond.eq_ints ec (Term.int_eval (0))) n5⟩
  have hcw : Jvm.Lit.compactW.before _ s = true := hsets _ (List.mem_of_getElem? (i := 2) rfl)
  have hchv : CHv s EL1 s.vm s.heap := CHv.start (el hw) (fun q hq => hcalls.2.2.1 q hq) hcw (w38 hw) (w24 hw)
  obtain ⟨vf, ef, rf⟩ := isR_v (Cond.before_iff.mp (hsets _ (List.mem_of_getElem? (i := 8) rfl)))
  have FM : Fmt s := ⟨vf, Sta.start ef (Or.inl (hsets _ (List.mem_of_getElem? (i := 7) rfl))), rf⟩
  obtain ⟨d_DigitOnes, k_DigitOnes, ev_DigitOnes, A_DigitOnes⟩ := tab_of (Z := s) (f := fun i => Int32.ofNat (48 + i % 10)) (w38 hw) (fun _ => rfl) (Cond.before_iff.mp (hsets _ (List.mem_of_getElem? (i := 12) rfl))) (Cond.before_iff.mp (hsets _ (List.mem_of_getElem? (i := 13) rfl))) (Cond.before_iff.mp (hsets _ (List.mem_of_getElem? (i := 14) rfl))) dg_DigitOnes (fun j hj => fits_b (n := 48 + j % 10) (by omega))
  have S_DigitOnes : Sta s s.heap "java/lang/Integer" "DigitOnes" "[B" (.ref d_DigitOnes) := Sta.start ev_DigitOnes (Or.inl (hsets _ (List.mem_of_getElem? (i := 11) rfl)))
  obtain ⟨d_DigitTens, k_DigitTens, ev_DigitTens, A_DigitTens⟩ := tab_of (Z := s) (f := fun i => Int32.ofNat (48 + i / 10)) (w38 hw) (fun _ => rfl) (Cond.before_iff.mp (hsets _ (List.mem_of_getElem? (i := 17) rfl))) (Cond.before_iff.mp (hsets _ (List.mem_of_getElem? (i := 18) rfl))) (Cond.before_iff.mp (hsets _ (List.mem_of_getElem? (i := 19) rfl))) dg_DigitTens (fun j hj => fits_b (n := 48 + j / 10) (by omega))
  have S_DigitTens : Sta s s.heap "java/lang/Integer" "DigitTens" "[B" (.ref d_DigitTens) := Sta.start ev_DigitTens (Or.inl (hsets _ (List.mem_of_getElem? (i := 16) rfl)))
  have DG : Dg s := ⟨d_DigitOnes, d_DigitTens, k_DigitOnes, k_DigitTens, S_DigitOnes, S_DigitTens, A_DigitOnes, A_DigitTens⟩
  obtain ⟨us, e_us, r_us⟩ := isR_v (Cond.before_iff.mp (hsets _ (List.mem_of_getElem? (i := 27) rfl)))
  have S_us : Sta s s.heap "java/lang/Throwable" "UNASSIGNED_STACK" "[Ljava/lang/StackTraceElement;" us := Sta.start e_us (Or.inl (hsets _ (List.mem_of_getElem? (i := 26) rfl)))
  obtain ⟨sv, e_sv, r_sv⟩ := isR_v (Cond.before_iff.mp (hsets _ (List.mem_of_getElem? (i := 32) rfl)))
  have S_sv : Sta s s.heap "java/lang/Throwable" "SUPPRESSED_SENTINEL" "Ljava/util/List;" sv := Sta.start e_sv (Or.inl (hsets _ (List.mem_of_getElem? (i := 31) rfl)))
  have n_us : us ≠ .null := by
    obtain ⟨sd, SA, hev, -⟩ := Term.length_spec (eqv_i (Term.int_eval 0) (Cond.before_iff.mp (hsets _ (List.mem_of_getElem? (i := 29) rfl))))
    obtain rfl : us = .ref sd := Option.some.inj (e_us.symm.trans hev)
    exact fun q => nomatch q
  have TS : ThSt s := ⟨us, sv, S_us, r_us, n_us, S_sv, r_sv⟩
  obtain ⟨n, o, h1, h2, h3, v, L, rfl, hq, N, -, hr⟩ := c_law l hw (Old.start s) CS0 FM DG (fun e ha => Jvm.D.Launch.traces_on hfl ha) TS p e ha hc hk s m _ below hf ((Spec.applies_iff_loose hf).mp happ).1 ⟨rfl, State.Warmed39.refl s, rfl, hchv, all0⟩ ⟨MethodsKnown_of_tablesKnown hcalls.2.1, FramesKnown_of_framesKnown hcalls.1 hf⟩
  subst hq
  refine ⟨n, _, h1, h2, h3, hpost _ _ _ _ _ _ ⟨Cond.after_iff.mpr rfl, Cond.after_iff.mpr (eq_i res_at (Term.int_eval (1)) rfl), trivial⟩ ⟨hr.1.1, hr.1.2.1, hr.1.2.2.1, (hr.1.2.2.2.sift fun y hy => Or.inr (N y hy)).mono (by decide) (by decide)⟩⟩
theorem main_1_1 : Claimed_1_1 := comes_1 fun _ _ _ _ _ _ h hF => ⟨h.1, hF⟩
theorem main_1_2 : Claimed_1_2 := comes_1 fun _ _ _ _ _ _ h hF => ⟨h.2.1, hF⟩
end Jvm.Pilot.@@N@@
namespace Jvm.Pilot.@@N@@
open Jvm Jvm.ClassFile Sem Op Lib Jvm.Free Jvm.Stand Jvm.Pilot.@@N@@.Jvm.D
/-! MADE BY PROGRAM (witnessworld.py) out of the Statement's table words and the real class files: 47 classes; the members and pool entries that the words name. The judged class is class 1, her method 2. -/
namespace start1
open Jvm.ClassFile
def u (s : String) : CpInfo := .utf8 (stringToUtf16 s)
/-- a pool by its gaps: so many unusable entries, then the entry; so many at the end -/
def gap : Nat → List CpInfo → List CpInfo
  | 0, r => r
  | n + 1, r => .unusable :: gap n r
def poolList (es : List (Nat × CpInfo)) (last : Nat) : List CpInfo := es.foldr (fun e r => gap e.1 (e.2 :: r)) (gap last [])
def pool (es : List (Nat × CpInfo)) (last : Nat) : Array CpInfo := ⟨poolList es last⟩
def fileOf (pool : Array CpInfo) (this : Nat) (attrs : Array Attribute := #[]) (ms : Array MethodInfo := #[]) (fl : Nat := 33) (sup : Nat := 0) (ifs : Array Nat := #[]) (fds : Array FieldInfo := #[]) : ClassFile where
  minorVersion := 0
  majorVersion := 65
  constantPool := pool
  accessFlags := fl
  thisClass := this
  superClass := sup
  interfaces := ifs
  fields := fds
  methods := ms
  attributes := attrs
def plain (name : String) (sup : Option ClassId) : Class where
  name := name
  kind := .ordinary
  loader := none
  accessFlags := 33
  super := sup
  interfaces := #[]
  cf := none
  fields := #[]
  methods := #[]
  instanceTypes := #[]
  staticTypes := #[]
  resolved := #[]
  callSites := []
  init := .initialized
  statics := none
  mirror := none

def pool0 : Array CpInfo := pool [(5, u "<init>"), (0, u "()V"), (1, .class_ 10), (1, u "java/lang/Object"), (85, u "clone"), (0, u "()Ljava/lang/Object;")] 26

def k0c0 : Code := { maxStack := 0, maxLocals := 1, code := object_method_1_code, exceptionTable := #[], attributes := #[] }
def k0m0 : Method := { name := "<init>", desc := "()V", sig := { parameters := [], returnType := none }, accessFlags := 1, code := some k0c0 }
def k0m1 : Method := { name := "clone", desc := "()Ljava/lang/Object;", sig := { parameters := [], returnType := some (.object "java/lang/Object") }, accessFlags := 260, code := none }
/-- java/lang/Object -/
def k0 : Class := { plain "java/lang/Object" none with
  accessFlags := 33
  interfaces := #[]
  cf := some (fileOf pool0 8 #[] #[{ accessFlags := 1, nameIndex := 5, descriptorIndex := 6, attributes := #[] }, { accessFlags := 260, nameIndex := 96, descriptorIndex := 97, attributes := #[] }] 33 0 #[] #[])
  fields := #[]
  methods := #[k0m0, k0m1]
  instanceTypes := #[]
  staticTypes := #[]
  resolved := Array.replicate 124 none
  statics := none }

def pool1 : Array CpInfo := pool [(2, .class_ 4), (1, u "java/lang/Object"), (0, u "<init>"), (0, u "()V"), (0, .class_ 8), (0, u "java/lang/String"), (0, .methodref 7 10), (0, .nameAndType 5 11), (0, u "([C)V"), (0, .methodref 7 13), (0, .nameAndType 14 15), (0, u "valueOf"), (0, u "(C)Ljava/lang/String;"), (0, .long 10), (1, .long 100), (1, .long 1000), (1, .long 10000), (1, .long 100000), (1, .long 1000000), (1, .long 10000000), (1, .long 100000000), (1, .long 1000000000), (1, .long 10000000000), (1, .long 100000000000), (1, .long 1000000000000), (1, .long 10000000000000), (1, .long 100000000000000), (1, .long 1000000000000000), (1, .long 10000000000000000), (1, .long 100000000000000000), (1, .long 1000000000000000000), (1, .methodref 53 54), (0, .class_ 55), (0, .nameAndType 56 57), (0, u "com/example/nerai/nerai/crawler/MalformedFileExceptionAtLinePinLaw"), (0, u "problemOf"), (0, u "(ICCC)Ljava/lang/String;"), (0, .methodref 59 60), (0, .class_ 61), (0, .nameAndType 62 63), (0, u "com/example/nerai/nerai/crawler/MalformedFileException"), (0, u "atLine"), (0, u "(JLjava/lang/String;)Lcom/example/nerai/nerai/crawler/MalformedFileException;"), (0, .methodref 59 65), (0, .nameAndType 66 67), (0, u "getMessage"), (0, u "()Ljava/lang/String;"), (0, .methodref 7 69), (0, .nameAndType 70 71), (0, u "length"), (0, u "()I"), (0, .methodref 7 73), (0, .nameAndType 74 75), (0, u "charAt"), (0, u "(I)C"), (0, .integer 2147483647), (3, u "law"), (0, u "(JIIIII)Z")] 4

def k1m0 : Method := { name := "<init>", desc := "()V", sig := { parameters := [], returnType := none }, accessFlags := 1, code := none }
def k1c1 : Code := { maxStack := 6, maxLocals := 4, code := method_2_code, exceptionTable := #[], attributes := #[] }
def k1m1 : Method := { name := "problemOf", desc := "(ICCC)Ljava/lang/String;", sig := { parameters := [.int, .char, .char, .char], returnType := some (.object "java/lang/String") }, accessFlags := 10, code := some k1c1 }
def k1c2 : Code := { maxStack := 5, maxLocals := 24, code := code, exceptionTable := #[], attributes := #[] }
def k1m2 : Method := { name := "law", desc := "(JIIIII)Z", sig := { parameters := [.long, .int, .int, .int, .int, .int], returnType := some .boolean }, accessFlags := 9, code := some k1c2 }
/-- com/example/nerai/nerai/crawler/MalformedFileExceptionAtLinePinLaw -/
def k1 : Class := { plain "com/example/nerai/nerai/crawler/MalformedFileExceptionAtLinePinLaw" (some 0) with
  accessFlags := 49
  interfaces := #[]
  cf := some (fileOf pool1 53 #[] #[{ accessFlags := 1, nameIndex := 5, descriptorIndex := 6, attributes := #[] }, { accessFlags := 10, nameIndex := 56, descriptorIndex := 57, attributes := #[] }, { accessFlags := 9, nameIndex := 80, descriptorIndex := 81, attributes := #[] }] 49 2 #[] #[])
  fields := #[]
  methods := #[k1m0, k1m1, k1m2]
  instanceTypes := #[]
  staticTypes := #[]
  resolved := Array.replicate 86 none
  statics := none }

def pool2 : Array CpInfo := pool [(1, .class_ 2), (0, u "java/io/Serializable"), (0, .class_ 4), (0, u "java/lang/Object")] 2

/-- java/io/Serializable -/
def k2 : Class := { plain "java/io/Serializable" (some 0) with
  accessFlags := 1537
  interfaces := #[]
  cf := some (fileOf pool2 1 #[] #[] 1537 3 #[] #[])
  fields := #[]
  methods := #[]
  instanceTypes := #[]
  staticTypes := #[]
  resolved := Array.replicate 7 none
  statics := none }

def pool3 : Array CpInfo := pool [(1, .class_ 2), (0, u "java/lang/Comparable"), (0, .class_ 4), (0, u "java/lang/Object")] 7

/-- java/lang/Comparable -/
def k3 : Class := { plain "java/lang/Comparable" (some 0) with
  accessFlags := 1537
  interfaces := #[]
  cf := some (fileOf pool3 1 #[] #[] 1537 3 #[] #[])
  fields := #[]
  methods := #[]
  instanceTypes := #[]
  staticTypes := #[]
  resolved := Array.replicate 12 none
  statics := none }

def pool4 : Array CpInfo := pool [(2, .class_ 4), (1, u "java/lang/CharSequence"), (42, .class_ 48), (0, u "java/lang/CharSequence$1CodePointIterator"), (10, .class_ 60), (0, u "java/lang/CharSequence$1CharIterator"), (5, .class_ 67), (0, u "java/lang/Object")] 63

/-- java/lang/CharSequence -/
def k4 : Class := { plain "java/lang/CharSequence" (some 0) with
  accessFlags := 1537
  interfaces := #[]
  cf := some (fileOf pool4 2 #[.nestMembers #[47, 59]] #[] 1537 66 #[] #[])
  fields := #[]
  methods := #[]
  instanceTypes := #[]
  staticTypes := #[]
  resolved := Array.replicate 131 none
  statics := none }

def pool5 : Array CpInfo := pool [(1, .class_ 2), (0, u "java/lang/constant/Constable"), (0, .class_ 4), (0, u "java/lang/Object")] 6

/-- java/lang/constant/Constable -/
def k5 : Class := { plain "java/lang/constant/Constable" (some 0) with
  accessFlags := 1537
  interfaces := #[]
  cf := some (fileOf pool5 1 #[] #[] 1537 3 #[] #[])
  fields := #[]
  methods := #[]
  instanceTypes := #[]
  staticTypes := #[]
  resolved := Array.replicate 11 none
  statics := none }

def pool6 : Array CpInfo := pool [(1, .class_ 2), (0, u "java/lang/constant/ConstantDesc"), (0, .class_ 4), (0, u "java/lang/Object")] 32

/-- java/lang/constant/ConstantDesc -/
def k6 : Class := { plain "java/lang/constant/ConstantDesc" (some 0) with
  accessFlags := 1537
  interfaces := #[]
  cf := some (fileOf pool6 1 #[] #[] 1537 3 #[] #[])
  fields := #[]
  methods := #[]
  instanceTypes := #[]
  staticTypes := #[]
  resolved := Array.replicate 37 none
  statics := none }

def pool7 : Array CpInfo := pool [(1, .methodref 2 3), (0, .class_ 4), (0, .nameAndType 5 6), (0, u "java/lang/Object"), (0, u "<init>"), (0, u "()V"), (0, .string 8), (0, u ""), (0, .fieldref 10 11), (0, .class_ 12), (0, .nameAndType 13 14), (0, u "java/lang/String"), (0, u "value"), (0, u "[B"), (0, .fieldref 10 16), (0, .nameAndType 17 18), (0, u "coder"), (0, u "B"), (2, u "hash"), (0, u "I"), (2, u "hashIsZero"), (0, u "Z"), (0, .methodref 10 28), (0, .nameAndType 5 29), (0, u "([CIILjava/lang/Void;)V"), (8, .fieldref 10 39), (0, .nameAndType 40 26), (0, u "COMPACT_STRINGS"), (1, .class_ 44), (1, u "java/lang/StringUTF16"), (0, u "compress"), (1, .methodref 42 48), (0, .nameAndType 49 50), (0, u "coderFromArrayLen"), (0, u "([BI)B"), (2, u "toBytes"), (0, .methodref 55 56), (0, .class_ 57), (0, .nameAndType 58 59), (0, u "java/util/Arrays"), (0, u "copyOfRange"), (0, u "([BII)[B"), (47, .class_ 109), (1, u "java/lang/StringLatin1"), (32, u "()Z"), (34, .methodref 42 178), (0, .nameAndType 45 179), (0, u "([CII)[B"), (13, .class_ 195), (1, u "java/lang/System"), (13, .methodref 10 210), (0, .nameAndType 5 211), (0, u "([BB)V"), (0, .methodref 193 213), (0, .nameAndType 214 215), (0, u "arraycopy"), (0, u "(Ljava/lang/Object;ILjava/lang/Object;II)V"), (118, u "()I"), (0, .methodref 10 336), (0, .nameAndType 17 337), (0, u "()B"), (2, u "()[B"), (22, u "([BI)C"), (5, u "(C)Z"), (21, u "(II)V"), (35, u "(I)C"), (61, .methodref 10 490), (0, .nameAndType 5 491), (0, u "(Ljava/lang/AbstractStringBuilder;Ljava/lang/Void;)V"), (0, .methodref 10 493), (0, .nameAndType 494 142), (0, u "isLatin1"), (0, .methodref 107 496), (0, .nameAndType 497 363), (0, u "charAt"), (3, u "checkIndex"), (4, .nameAndType 507 334), (0, u "length"), (24, u "getBytes"), (16, .methodref 550 506), (0, .class_ 551), (0, u "java/lang/AbstractStringBuilder"), (0, .methodref 550 553), (0, .nameAndType 554 340), (0, u "getValue"), (20, .class_ 576), (0, u "java/lang/CharSequence"), (22, u "CASE_INSENSITIVE_ORDER"), (0, u "Ljava/util/Comparator;"), (181, u "valueOf"), (0, u "(C)Ljava/lang/String;"), (37, u "([BIB)V"), (188, u "([C)V"), (4, .methodref 107 1016), (0, .nameAndType 1017 369), (0, u "canEncode"), (0, .methodref 107 1019), (0, .nameAndType 53 1020), (0, u "(C)[B"), (26, .methodref 550 493), (5, .fieldref 1054 1055), (0, .class_ 1056), (0, .nameAndType 1057 1058), (0, u "jdk/internal/util/Preconditions"), (0, u "SIOOBE_FORMATTER"), (0, u "Ljava/util/function/BiFunction;"), (0, .methodref 1054 1060), (0, .nameAndType 501 1061), (0, u "(IILjava/util/function/BiFunction;)I"), (39, u "serialPersistentFields"), (0, u "[Ljava/io/ObjectStreamField;"), (0, .class_ 1104), (0, u "java/lang/String$CaseInsensitiveComparator"), (1, .class_ 1107), (0, u "java/io/Serializable"), (0, .class_ 1109), (0, u "java/lang/Comparable"), (0, .class_ 1111), (0, u "java/lang/constant/Constable"), (0, .class_ 1113), (0, u "java/lang/constant/ConstantDesc"), (2, u "serialVersionUID"), (0, u "J"), (3, u "REPL"), (0, u "C"), (2, u "LATIN1"), (1, u "UTF16"), (105, u "(Ljava/lang/StringBuilder;)V")] 217

def k7m0 : Method := { name := "<init>", desc := "()V", sig := { parameters := [], returnType := none }, accessFlags := 1, code := none }
def k7c1 : Code := { maxStack := 5, maxLocals := 2, code := jdk_42_method_3_code, exceptionTable := #[], attributes := #[] }
def k7m1 : Method := { name := "<init>", desc := "([C)V", sig := { parameters := [(.array .char)], returnType := none }, accessFlags := 1, code := some k7c1 }
def k7c2 : Code := { maxStack := 3, maxLocals := 2, code := jdk_42_method_53_code, exceptionTable := #[], attributes := #[] }
def k7m2 : Method := { name := "<init>", desc := "(Ljava/lang/StringBuilder;)V", sig := { parameters := [(.object "java/lang/StringBuilder")], returnType := none }, accessFlags := 1, code := some k7c2 }
def k7c3 : Code := { maxStack := 2, maxLocals := 1, code := jdk_42_method_54_code, exceptionTable := #[], attributes := #[] }
def k7m3 : Method := { name := "length", desc := "()I", sig := { parameters := [], returnType := some .int }, accessFlags := 1, code := some k7c3 }
def k7c4 : Code := { maxStack := 2, maxLocals := 2, code := jdk_42_method_56_code, exceptionTable := #[], attributes := #[] }
def k7m4 : Method := { name := "charAt", desc := "(I)C", sig := { parameters := [.int], returnType := some .char }, accessFlags := 1, code := some k7c4 }
def k7c5 : Code := { maxStack := 4, maxLocals := 1, code := jdk_42_method_139_code, exceptionTable := #[], attributes := #[] }
def k7m5 : Method := { name := "valueOf", desc := "(C)Ljava/lang/String;", sig := { parameters := [.char], returnType := some (.object "java/lang/String") }, accessFlags := 9, code := some k7c5 }
def k7c6 : Code := { maxStack := 5, maxLocals := 4, code := jdk_42_method_147_code, exceptionTable := #[], attributes := #[] }
def k7m6 : Method := { name := "getBytes", desc := "([BIB)V", sig := { parameters := [(.array .byte), .int, .byte], returnType := none }, accessFlags := 0, code := some k7c6 }
def k7c7 : Code := { maxStack := 4, maxLocals := 6, code := jdk_42_method_149_code, exceptionTable := #[], attributes := #[] }
def k7m7 : Method := { name := "<init>", desc := "([CIILjava/lang/Void;)V", sig := { parameters := [(.array .char), .int, .int, (.object "java/lang/Void")], returnType := none }, accessFlags := 2, code := some k7c7 }
def k7c8 : Code := { maxStack := 5, maxLocals := 5, code := jdk_42_method_150_code, exceptionTable := #[], attributes := #[] }
def k7m8 : Method := { name := "<init>", desc := "(Ljava/lang/AbstractStringBuilder;Ljava/lang/Void;)V", sig := { parameters := [(.object "java/lang/AbstractStringBuilder"), (.object "java/lang/Void")], returnType := none }, accessFlags := 0, code := some k7c8 }
def k7c9 : Code := { maxStack := 2, maxLocals := 3, code := jdk_42_method_151_code, exceptionTable := #[], attributes := #[] }
def k7m9 : Method := { name := "<init>", desc := "([BB)V", sig := { parameters := [(.array .byte), .byte], returnType := none }, accessFlags := 0, code := some k7c9 }
def k7c10 : Code := { maxStack := 1, maxLocals := 1, code := jdk_42_method_152_code, exceptionTable := #[], attributes := #[] }
def k7m10 : Method := { name := "coder", desc := "()B", sig := { parameters := [], returnType := some .byte }, accessFlags := 0, code := some k7c10 }
def k7c11 : Code := { maxStack := 1, maxLocals := 1, code := jdk_42_method_154_code, exceptionTable := #[], attributes := #[] }
def k7m11 : Method := { name := "isLatin1", desc := "()Z", sig := { parameters := [], returnType := some .boolean }, accessFlags := 0, code := some k7c11 }
def k7c12 : Code := { maxStack := 3, maxLocals := 2, code := jdk_42_method_155_code, exceptionTable := #[], attributes := #[] }
def k7m12 : Method := { name := "checkIndex", desc := "(II)V", sig := { parameters := [.int, .int], returnType := none }, accessFlags := 8, code := some k7c12 }
/-- java/lang/String -/
def k7 : Class := { plain "java/lang/String" (some 0) with
  accessFlags := 49
  interfaces := #[2, 3, 4, 5, 6]
  cf := some (fileOf pool7 10 #[.nestMembers #[1103]] #[{ accessFlags := 1, nameIndex := 5, descriptorIndex := 6, attributes := #[] }, { accessFlags := 1, nameIndex := 5, descriptorIndex := 1010, attributes := #[] }, { accessFlags := 1, nameIndex := 5, descriptorIndex := 1233, attributes := #[] }, { accessFlags := 1, nameIndex := 507, descriptorIndex := 334, attributes := #[] }, { accessFlags := 1, nameIndex := 497, descriptorIndex := 427, attributes := #[] }, { accessFlags := 9, nameIndex := 782, descriptorIndex := 783, attributes := #[] }, { accessFlags := 0, nameIndex := 532, descriptorIndex := 821, attributes := #[] }, { accessFlags := 2, nameIndex := 5, descriptorIndex := 29, attributes := #[] }, { accessFlags := 0, nameIndex := 5, descriptorIndex := 491, attributes := #[] }, { accessFlags := 0, nameIndex := 5, descriptorIndex := 211, attributes := #[] }, { accessFlags := 0, nameIndex := 17, descriptorIndex := 337, attributes := #[] }, { accessFlags := 0, nameIndex := 494, descriptorIndex := 142, attributes := #[] }, { accessFlags := 8, nameIndex := 501, descriptorIndex := 391, attributes := #[] }] 49 2 #[1106, 1108, 575, 1110, 1112] #[{ accessFlags := 18, nameIndex := 13, descriptorIndex := 14, attributes := #[] }, { accessFlags := 18, nameIndex := 17, descriptorIndex := 18, attributes := #[] }, { accessFlags := 2, nameIndex := 21, descriptorIndex := 22, attributes := #[] }, { accessFlags := 2, nameIndex := 25, descriptorIndex := 26, attributes := #[] }, { accessFlags := 26, nameIndex := 1116, descriptorIndex := 1117, attributes := #[] }, { accessFlags := 24, nameIndex := 40, descriptorIndex := 26, attributes := #[] }, { accessFlags := 26, nameIndex := 1101, descriptorIndex := 1102, attributes := #[] }, { accessFlags := 26, nameIndex := 1121, descriptorIndex := 1122, attributes := #[] }, { accessFlags := 25, nameIndex := 599, descriptorIndex := 600, attributes := #[] }, { accessFlags := 24, nameIndex := 1125, descriptorIndex := 18, attributes := #[] }, { accessFlags := 24, nameIndex := 1127, descriptorIndex := 18, attributes := #[] }])
  fields := #[{ name := "value", type := (.array .byte), accessFlags := 18, slot := 0, constantValue := 0 }, { name := "coder", type := .byte, accessFlags := 18, slot := 1, constantValue := 0 }, { name := "hash", type := .int, accessFlags := 2, slot := 2, constantValue := 0 }, { name := "hashIsZero", type := .boolean, accessFlags := 2, slot := 3, constantValue := 0 }, { name := "serialVersionUID", type := .long, accessFlags := 26, slot := 0, constantValue := 0 }, { name := "COMPACT_STRINGS", type := .boolean, accessFlags := 24, slot := 1, constantValue := 0 }, { name := "serialPersistentFields", type := (.array (.object "java/io/ObjectStreamField")), accessFlags := 26, slot := 2, constantValue := 0 }, { name := "REPL", type := .char, accessFlags := 26, slot := 3, constantValue := 0 }, { name := "CASE_INSENSITIVE_ORDER", type := (.object "java/util/Comparator"), accessFlags := 25, slot := 4, constantValue := 0 }, { name := "LATIN1", type := .byte, accessFlags := 24, slot := 5, constantValue := 0 }, { name := "UTF16", type := .byte, accessFlags := 24, slot := 6, constantValue := 0 }]
  methods := #[k7m0, k7m1, k7m2, k7m3, k7m4, k7m5, k7m6, k7m7, k7m8, k7m9, k7m10, k7m11, k7m12]
  instanceTypes := #[(.array .byte), .byte, .int, .boolean]
  staticTypes := #[.long, .boolean, (.array (.object "java/io/ObjectStreamField")), .char, (.object "java/util/Comparator"), .byte, .byte]
  resolved := Array.replicate 1451 none
  statics := some 0 }

def pool8 : Array CpInfo := pool [(1, .methodref 2 3), (0, .class_ 4), (0, .nameAndType 5 6), (0, u "java/lang/Object"), (0, u "<init>"), (0, u "()V"), (0, .fieldref 8 9), (0, .class_ 10), (0, .nameAndType 11 12), (0, u "java/lang/Throwable"), (0, u "cause"), (0, u "Ljava/lang/Throwable;"), (0, .fieldref 8 14), (0, .nameAndType 15 16), (0, u "UNASSIGNED_STACK"), (0, u "[Ljava/lang/StackTraceElement;"), (0, .fieldref 8 18), (0, .nameAndType 19 16), (0, u "stackTrace"), (0, .fieldref 8 21), (0, .nameAndType 22 23), (0, u "SUPPRESSED_SENTINEL"), (0, u "Ljava/util/List;"), (0, .fieldref 8 25), (0, .nameAndType 26 23), (0, u "suppressedExceptions"), (0, .methodref 8 28), (0, .nameAndType 29 30), (0, u "fillInStackTrace"), (0, u "()Ljava/lang/Throwable;"), (0, .fieldref 8 32), (0, .nameAndType 33 34), (0, u "detailMessage"), (0, u "Ljava/lang/String;"), (3, u "()Ljava/lang/String;"), (2, u "getMessage"), (51, .class_ 94), (0, u "java/lang/Throwable$WrappedPrintStream"), (6, .class_ 103), (1, u "java/lang/Throwable$PrintStreamOrWriter"), (61, u "$assertionsDisabled"), (0, u "Z"), (26, .class_ 194), (0, u "java/lang/Throwable$WrappedPrintWriter"), (3, .fieldref 8 199), (0, .nameAndType 200 201), (0, u "backtrace"), (0, u "Ljava/lang/Object;"), (0, .methodref 8 203), (0, .nameAndType 29 204), (0, u "(I)Ljava/lang/Throwable;"), (6, u "depth"), (0, u "I"), (10, u "(Ljava/lang/String;)V"), (45, .class_ 271), (1, u "java/lang/Throwable$SentinelHolder"), (32, u "EMPTY_THROWABLE_ARRAY"), (0, u "[Ljava/lang/Throwable;"), (12, .class_ 319), (0, u "java/io/Serializable"), (0, u "serialVersionUID"), (0, u "J"), (5, u "NULL_CAUSE_MESSAGE"), (0, u "SELF_SUPPRESSION_MESSAGE"), (0, u "CAUSE_CAPTION"), (0, u "SUPPRESSED_CAPTION")] 73

def k8c0 : Code := { maxStack := 2, maxLocals := 1, code := jdk_78_method_1_code, exceptionTable := #[], attributes := #[] }
def k8m0 : Method := { name := "<init>", desc := "()V", sig := { parameters := [], returnType := none }, accessFlags := 1, code := some k8c0 }
def k8c1 : Code := { maxStack := 2, maxLocals := 2, code := jdk_78_method_2_code, exceptionTable := #[], attributes := #[] }
def k8m1 : Method := { name := "<init>", desc := "(Ljava/lang/String;)V", sig := { parameters := [(.object "java/lang/String")], returnType := none }, accessFlags := 1, code := some k8c1 }
def k8c2 : Code := { maxStack := 1, maxLocals := 1, code := jdk_78_method_6_code, exceptionTable := #[], attributes := #[] }
def k8m2 : Method := { name := "getMessage", desc := "()Ljava/lang/String;", sig := { parameters := [], returnType := some (.object "java/lang/String") }, accessFlags := 1, code := some k8c2 }
def k8c3 : Code := { maxStack := 2, maxLocals := 1, code := jdk_78_method_18_code, exceptionTable := #[], attributes := #[] }
def k8m3 : Method := { name := "fillInStackTrace", desc := "()Ljava/lang/Throwable;", sig := { parameters := [], returnType := some (.object "java/lang/Throwable") }, accessFlags := 33, code := some k8c3 }
def k8m4 : Method := { name := "fillInStackTrace", desc := "(I)Ljava/lang/Throwable;", sig := { parameters := [.int], returnType := some (.object "java/lang/Throwable") }, accessFlags := 258, code := none }
/-- java/lang/Throwable -/
def k8 : Class := { plain "java/lang/Throwable" (some 0) with
  accessFlags := 33
  interfaces := #[2]
  cf := some (fileOf pool8 8 #[.nestMembers #[193, 93, 101, 269]] #[{ accessFlags := 1, nameIndex := 5, descriptorIndex := 6, attributes := #[] }, { accessFlags := 1, nameIndex := 5, descriptorIndex := 223, attributes := #[] }, { accessFlags := 1, nameIndex := 41, descriptorIndex := 38, attributes := #[] }, { accessFlags := 33, nameIndex := 29, descriptorIndex := 30, attributes := #[] }, { accessFlags := 258, nameIndex := 29, descriptorIndex := 204, attributes := #[] }] 33 2 #[318] #[{ accessFlags := 26, nameIndex := 320, descriptorIndex := 321, attributes := #[] }, { accessFlags := 130, nameIndex := 200, descriptorIndex := 201, attributes := #[] }, { accessFlags := 2, nameIndex := 33, descriptorIndex := 34, attributes := #[] }, { accessFlags := 26, nameIndex := 15, descriptorIndex := 16, attributes := #[] }, { accessFlags := 2, nameIndex := 11, descriptorIndex := 12, attributes := #[] }, { accessFlags := 2, nameIndex := 19, descriptorIndex := 16, attributes := #[] }, { accessFlags := 130, nameIndex := 211, descriptorIndex := 212, attributes := #[] }, { accessFlags := 26, nameIndex := 22, descriptorIndex := 23, attributes := #[] }, { accessFlags := 2, nameIndex := 26, descriptorIndex := 23, attributes := #[] }, { accessFlags := 26, nameIndex := 327, descriptorIndex := 34, attributes := #[] }, { accessFlags := 26, nameIndex := 328, descriptorIndex := 34, attributes := #[] }, { accessFlags := 26, nameIndex := 329, descriptorIndex := 34, attributes := #[] }, { accessFlags := 26, nameIndex := 330, descriptorIndex := 34, attributes := #[] }, { accessFlags := 26, nameIndex := 304, descriptorIndex := 305, attributes := #[] }, { accessFlags := 4120, nameIndex := 165, descriptorIndex := 166, attributes := #[] }])
  fields := #[{ name := "serialVersionUID", type := .long, accessFlags := 26, slot := 0, constantValue := 0 }, { name := "backtrace", type := (.object "java/lang/Object"), accessFlags := 130, slot := 0, constantValue := 0 }, { name := "detailMessage", type := (.object "java/lang/String"), accessFlags := 2, slot := 1, constantValue := 0 }, { name := "UNASSIGNED_STACK", type := (.array (.object "java/lang/StackTraceElement")), accessFlags := 26, slot := 1, constantValue := 0 }, { name := "cause", type := (.object "java/lang/Throwable"), accessFlags := 2, slot := 2, constantValue := 0 }, { name := "stackTrace", type := (.array (.object "java/lang/StackTraceElement")), accessFlags := 2, slot := 3, constantValue := 0 }, { name := "depth", type := .int, accessFlags := 130, slot := 4, constantValue := 0 }, { name := "SUPPRESSED_SENTINEL", type := (.object "java/util/List"), accessFlags := 26, slot := 2, constantValue := 0 }, { name := "suppressedExceptions", type := (.object "java/util/List"), accessFlags := 2, slot := 5, constantValue := 0 }, { name := "NULL_CAUSE_MESSAGE", type := (.object "java/lang/String"), accessFlags := 26, slot := 3, constantValue := 0 }, { name := "SELF_SUPPRESSION_MESSAGE", type := (.object "java/lang/String"), accessFlags := 26, slot := 4, constantValue := 0 }, { name := "CAUSE_CAPTION", type := (.object "java/lang/String"), accessFlags := 26, slot := 5, constantValue := 0 }, { name := "SUPPRESSED_CAPTION", type := (.object "java/lang/String"), accessFlags := 26, slot := 6, constantValue := 0 }, { name := "EMPTY_THROWABLE_ARRAY", type := (.array (.object "java/lang/Throwable")), accessFlags := 26, slot := 7, constantValue := 0 }, { name := "$assertionsDisabled", type := .boolean, accessFlags := 4120, slot := 8, constantValue := 0 }]
  methods := #[k8m0, k8m1, k8m2, k8m3, k8m4]
  instanceTypes := #[(.object "java/lang/Object"), (.object "java/lang/String"), (.object "java/lang/Throwable"), (.array (.object "java/lang/StackTraceElement")), .int, (.object "java/util/List")]
  staticTypes := #[.long, (.array (.object "java/lang/StackTraceElement")), (.object "java/util/List"), (.object "java/lang/String"), (.object "java/lang/String"), (.object "java/lang/String"), (.object "java/lang/String"), (.array (.object "java/lang/Throwable")), .boolean]
  resolved := Array.replicate 404 none
  statics := some 1 }

def pool9 : Array CpInfo := pool [(2, .class_ 4), (1, u "java/lang/Throwable"), (0, u "<init>"), (0, u "()V"), (0, .methodref 2 8), (0, .nameAndType 5 9), (0, u "(Ljava/lang/String;)V"), (9, .class_ 20), (0, u "java/lang/Exception"), (0, u "serialVersionUID"), (0, u "J")] 17

def k9m0 : Method := { name := "<init>", desc := "()V", sig := { parameters := [], returnType := none }, accessFlags := 1, code := none }
def k9c1 : Code := { maxStack := 2, maxLocals := 2, code := jdk_59_method_2_code, exceptionTable := #[], attributes := #[] }
def k9m1 : Method := { name := "<init>", desc := "(Ljava/lang/String;)V", sig := { parameters := [(.object "java/lang/String")], returnType := none }, accessFlags := 1, code := some k9c1 }
/-- java/lang/Exception -/
def k9 : Class := { plain "java/lang/Exception" (some 8) with
  accessFlags := 33
  interfaces := #[]
  cf := some (fileOf pool9 19 #[] #[{ accessFlags := 1, nameIndex := 5, descriptorIndex := 6, attributes := #[] }, { accessFlags := 1, nameIndex := 5, descriptorIndex := 9, attributes := #[] }] 33 2 #[] #[{ accessFlags := 24, nameIndex := 21, descriptorIndex := 22, attributes := #[] }])
  fields := #[{ name := "serialVersionUID", type := .long, accessFlags := 24, slot := 0, constantValue := 0 }]
  methods := #[k9m0, k9m1]
  instanceTypes := #[(.object "java/lang/Object"), (.object "java/lang/String"), (.object "java/lang/Throwable"), (.array (.object "java/lang/StackTraceElement")), .int, (.object "java/util/List")]
  staticTypes := #[.long]
  resolved := Array.replicate 40 none
  statics := none }

def pool10 : Array CpInfo := pool [(2, .class_ 4), (1, u "java/lang/Exception"), (0, u "<init>"), (0, u "()V"), (0, .methodref 2 8), (0, .nameAndType 5 9), (0, u "(Ljava/lang/String;)V"), (6, .class_ 17), (0, u "java/io/IOException"), (0, u "serialVersionUID"), (0, u "J")] 14

def k10m0 : Method := { name := "<init>", desc := "()V", sig := { parameters := [], returnType := none }, accessFlags := 1, code := none }
def k10c1 : Code := { maxStack := 2, maxLocals := 2, code := jdk_131_method_2_code, exceptionTable := #[], attributes := #[] }
def k10m1 : Method := { name := "<init>", desc := "(Ljava/lang/String;)V", sig := { parameters := [(.object "java/lang/String")], returnType := none }, accessFlags := 1, code := some k10c1 }
/-- java/io/IOException -/
def k10 : Class := { plain "java/io/IOException" (some 9) with
  accessFlags := 33
  interfaces := #[]
  cf := some (fileOf pool10 16 #[] #[{ accessFlags := 1, nameIndex := 5, descriptorIndex := 6, attributes := #[] }, { accessFlags := 1, nameIndex := 5, descriptorIndex := 9, attributes := #[] }] 33 2 #[] #[{ accessFlags := 24, nameIndex := 18, descriptorIndex := 19, attributes := #[] }])
  fields := #[{ name := "serialVersionUID", type := .long, accessFlags := 24, slot := 0, constantValue := 0 }]
  methods := #[k10m0, k10m1]
  instanceTypes := #[(.object "java/lang/Object"), (.object "java/lang/String"), (.object "java/lang/Throwable"), (.array (.object "java/lang/StackTraceElement")), .int, (.object "java/util/List")]
  staticTypes := #[.long]
  resolved := Array.replicate 34 none
  statics := none }

def pool11 : Array CpInfo := pool [(1, .methodref 2 3), (0, .class_ 4), (0, .nameAndType 5 6), (0, u "java/io/IOException"), (0, u "<init>"), (0, u "(Ljava/lang/String;)V"), (0, .class_ 8), (0, u "com/example/nerai/nerai/crawler/MalformedFileException"), (0, .class_ 10), (0, u "java/lang/StringBuilder"), (0, .methodref 9 12), (0, .nameAndType 5 13), (0, u "()V"), (0, .string 15), (0, u "line "), (0, .methodref 9 17), (0, .nameAndType 18 19), (0, u "append"), (0, u "(Ljava/lang/String;)Ljava/lang/StringBuilder;"), (0, .methodref 9 21), (0, .nameAndType 18 22), (0, u "(J)Ljava/lang/StringBuilder;"), (0, .string 24), (0, u ": "), (0, .methodref 9 26), (0, .nameAndType 27 28), (0, u "toString"), (0, u "()Ljava/lang/String;"), (0, .methodref 7 3), (0, u "serialVersionUID"), (0, u "J"), (5, u "atLine"), (0, u "(JLjava/lang/String;)Lcom/example/nerai/nerai/crawler/MalformedFileException;")] 2

def k11c0 : Code := { maxStack := 2, maxLocals := 2, code := prog_11_method_1_code, exceptionTable := #[], attributes := #[] }
def k11m0 : Method := { name := "<init>", desc := "(Ljava/lang/String;)V", sig := { parameters := [(.object "java/lang/String")], returnType := none }, accessFlags := 1, code := some k11c0 }
def k11c1 : Code := { maxStack := 5, maxLocals := 3, code := prog_11_method_2_code, exceptionTable := #[], attributes := #[] }
def k11m1 : Method := { name := "atLine", desc := "(JLjava/lang/String;)Lcom/example/nerai/nerai/crawler/MalformedFileException;", sig := { parameters := [.long, (.object "java/lang/String")], returnType := some (.object "com/example/nerai/nerai/crawler/MalformedFileException") }, accessFlags := 9, code := some k11c1 }
/-- com/example/nerai/nerai/crawler/MalformedFileException -/
def k11 : Class := { plain "com/example/nerai/nerai/crawler/MalformedFileException" (some 10) with
  accessFlags := 49
  interfaces := #[]
  cf := some (fileOf pool11 7 #[] #[{ accessFlags := 1, nameIndex := 5, descriptorIndex := 6, attributes := #[] }, { accessFlags := 9, nameIndex := 37, descriptorIndex := 38, attributes := #[] }] 49 2 #[] #[{ accessFlags := 26, nameIndex := 30, descriptorIndex := 31, attributes := #[] }])
  fields := #[{ name := "serialVersionUID", type := .long, accessFlags := 26, slot := 0, constantValue := 0 }]
  methods := #[k11m0, k11m1]
  instanceTypes := #[(.object "java/lang/Object"), (.object "java/lang/String"), (.object "java/lang/Throwable"), (.array (.object "java/lang/StackTraceElement")), .int, (.object "java/util/List")]
  staticTypes := #[.long]
  resolved := Array.replicate 41 none
  statics := none }

def pool12 : Array CpInfo := pool [(1, .class_ 2), (0, u "java/lang/Appendable"), (0, .class_ 4), (0, u "java/lang/Object")] 9

/-- java/lang/Appendable -/
def k12 : Class := { plain "java/lang/Appendable" (some 0) with
  accessFlags := 1537
  interfaces := #[]
  cf := some (fileOf pool12 1 #[] #[] 1537 3 #[] #[])
  fields := #[]
  methods := #[]
  instanceTypes := #[]
  staticTypes := #[]
  resolved := Array.replicate 14 none
  statics := none }

def pool13 : Array CpInfo := pool [(1, .class_ 2), (0, u "java/lang/String"), (0, .methodref 4 5), (0, .class_ 6), (0, .nameAndType 7 8), (0, u "java/lang/Object"), (0, u "<init>"), (0, u "()V"), (1, .class_ 12), (1, u "java/lang/AbstractStringBuilder"), (0, u "EMPTYVALUE"), (0, u "[B"), (0, .fieldref 10 16), (0, .nameAndType 17 14), (0, u "value"), (0, .fieldref 1 19), (0, .nameAndType 20 21), (0, u "COMPACT_STRINGS"), (0, u "Z"), (0, .fieldref 10 23), (0, .nameAndType 24 25), (0, u "coder"), (0, u "B"), (6, .methodref 1 33), (0, .nameAndType 34 35), (0, u "length"), (0, u "()I"), (3, .integer 2147483647), (0, .methodref 1 41), (0, .nameAndType 24 42), (0, u "()B"), (2, u "append"), (0, u "(Ljava/lang/String;)Ljava/lang/AbstractStringBuilder;"), (1, .class_ 49), (0, u "java/lang/CharSequence"), (19, u "(Ljava/lang/String;)V"), (5, u "maybeLatin1"), (3, .fieldref 10 80), (0, .nameAndType 81 82), (0, u "count"), (0, u "I"), (0, .methodref 10 84), (0, .nameAndType 85 86), (0, u "isLatin1"), (0, u "()Z"), (13, .methodref 10 101), (0, .nameAndType 102 103), (0, u "ensureCapacityInternal"), (0, u "(I)V"), (0, .methodref 10 105), (0, .nameAndType 106 107), (0, u "newCapacity"), (0, u "(I)I"), (0, .methodref 109 110), (0, .class_ 111), (0, .nameAndType 112 113), (0, u "java/util/Arrays"), (0, u "copyOf"), (0, u "([BI)[B"), (0, .methodref 115 116), (0, .class_ 117), (0, .nameAndType 118 119), (0, u "jdk/internal/util/ArraysSupport"), (0, u "newLength"), (0, u "(III)I"), (68, u "getChars"), (19, .methodref 10 209), (0, .nameAndType 210 211), (0, u "putStringAt"), (0, u "(ILjava/lang/String;)V"), (5, u "inflateIfNeededFor"), (2, .nameAndType 221 222), (0, u "getBytes"), (0, u "([BIB)V"), (24, u "stringSize"), (6, .methodref 255 256), (0, .class_ 257), (0, .nameAndType 247 258), (0, u "java/lang/Long"), (0, u "(J)I"), (0, .methodref 255 260), (0, .nameAndType 188 261), (0, u "(JI[B)I"), (135, .methodref 10 398), (0, .nameAndType 217 69), (0, .methodref 1 220), (3, u "()[B"), (40, .class_ 445), (0, u "java/lang/Appendable"), (67, u "(J)Ljava/lang/AbstractStringBuilder;"), (38, u "getValue")] 56

def k13m0 : Method := { name := "<init>", desc := "()V", sig := { parameters := [], returnType := none }, accessFlags := 0, code := none }
def k13c1 : Code := { maxStack := 2, maxLocals := 2, code := jdk_68_method_2_code, exceptionTable := #[], attributes := #[] }
def k13m1 : Method := { name := "<init>", desc := "(I)V", sig := { parameters := [.int], returnType := none }, accessFlags := 0, code := some k13c1 }
def k13c2 : Code := { maxStack := 1, maxLocals := 1, code := jdk_68_method_6_code, exceptionTable := #[], attributes := #[] }
def k13m2 : Method := { name := "length", desc := "()I", sig := { parameters := [], returnType := some .int }, accessFlags := 1, code := some k13c2 }
def k13c3 : Code := { maxStack := 4, maxLocals := 3, code := jdk_68_method_9_code, exceptionTable := #[], attributes := #[] }
def k13m3 : Method := { name := "ensureCapacityInternal", desc := "(I)V", sig := { parameters := [.int], returnType := none }, accessFlags := 2, code := some k13c3 }
def k13c4 : Code := { maxStack := 5, maxLocals := 6, code := jdk_68_method_10_code, exceptionTable := #[], attributes := #[] }
def k13m4 : Method := { name := "newCapacity", desc := "(I)I", sig := { parameters := [.int], returnType := some .int }, accessFlags := 2, code := some k13c4 }
def k13c5 : Code := { maxStack := 3, maxLocals := 3, code := jdk_68_method_22_code, exceptionTable := #[], attributes := #[] }
def k13m5 : Method := { name := "append", desc := "(Ljava/lang/String;)Ljava/lang/AbstractStringBuilder;", sig := { parameters := [(.object "java/lang/String")], returnType := some (.object "java/lang/AbstractStringBuilder") }, accessFlags := 1, code := some k13c5 }
def k13c6 : Code := { maxStack := 5, maxLocals := 5, code := jdk_68_method_33_code, exceptionTable := #[], attributes := #[] }
def k13m6 : Method := { name := "append", desc := "(J)Ljava/lang/AbstractStringBuilder;", sig := { parameters := [.long], returnType := some (.object "java/lang/AbstractStringBuilder") }, accessFlags := 1, code := some k13c6 }
def k13c7 : Code := { maxStack := 1, maxLocals := 1, code := jdk_68_method_64_code, exceptionTable := #[], attributes := #[] }
def k13m7 : Method := { name := "getValue", desc := "()[B", sig := { parameters := [], returnType := some (.array .byte) }, accessFlags := 16, code := some k13c7 }
def k13c8 : Code := { maxStack := 1, maxLocals := 1, code := jdk_68_method_68_code, exceptionTable := #[], attributes := #[] }
def k13m8 : Method := { name := "isLatin1", desc := "()Z", sig := { parameters := [], returnType := some .boolean }, accessFlags := 16, code := some k13c8 }
def k13c9 : Code := { maxStack := 2, maxLocals := 2, code := jdk_68_method_71_code, exceptionTable := #[], attributes := #[] }
def k13m9 : Method := { name := "inflateIfNeededFor", desc := "(Ljava/lang/String;)V", sig := { parameters := [(.object "java/lang/String")], returnType := none }, accessFlags := 2, code := some k13c9 }
def k13c10 : Code := { maxStack := 4, maxLocals := 3, code := jdk_68_method_73_code, exceptionTable := #[], attributes := #[] }
def k13m10 : Method := { name := "putStringAt", desc := "(ILjava/lang/String;)V", sig := { parameters := [.int, (.object "java/lang/String")], returnType := none }, accessFlags := 2, code := some k13c10 }
/-- java/lang/AbstractStringBuilder -/
def k13 : Class := { plain "java/lang/AbstractStringBuilder" (some 0) with
  accessFlags := 1056
  interfaces := #[12, 4]
  cf := some (fileOf pool13 10 #[] #[{ accessFlags := 0, nameIndex := 7, descriptorIndex := 8, attributes := #[] }, { accessFlags := 0, nameIndex := 7, descriptorIndex := 103, attributes := #[] }, { accessFlags := 1, nameIndex := 34, descriptorIndex := 35, attributes := #[] }, { accessFlags := 2, nameIndex := 102, descriptorIndex := 103, attributes := #[] }, { accessFlags := 2, nameIndex := 106, descriptorIndex := 107, attributes := #[] }, { accessFlags := 1, nameIndex := 45, descriptorIndex := 46, attributes := #[] }, { accessFlags := 1, nameIndex := 45, descriptorIndex := 513, attributes := #[] }, { accessFlags := 16, nameIndex := 552, descriptorIndex := 403, attributes := #[] }, { accessFlags := 16, nameIndex := 85, descriptorIndex := 86, attributes := #[] }, { accessFlags := 2, nameIndex := 217, descriptorIndex := 69, attributes := #[] }, { accessFlags := 2, nameIndex := 210, descriptorIndex := 211, attributes := #[] }] 1056 4 #[444, 48] #[{ accessFlags := 0, nameIndex := 17, descriptorIndex := 14, attributes := #[] }, { accessFlags := 0, nameIndex := 24, descriptorIndex := 25, attributes := #[] }, { accessFlags := 0, nameIndex := 75, descriptorIndex := 21, attributes := #[] }, { accessFlags := 0, nameIndex := 81, descriptorIndex := 82, attributes := #[] }, { accessFlags := 26, nameIndex := 13, descriptorIndex := 14, attributes := #[] }])
  fields := #[{ name := "value", type := (.array .byte), accessFlags := 0, slot := 0, constantValue := 0 }, { name := "coder", type := .byte, accessFlags := 0, slot := 1, constantValue := 0 }, { name := "maybeLatin1", type := .boolean, accessFlags := 0, slot := 2, constantValue := 0 }, { name := "count", type := .int, accessFlags := 0, slot := 3, constantValue := 0 }, { name := "EMPTYVALUE", type := (.array .byte), accessFlags := 26, slot := 0, constantValue := 0 }]
  methods := #[k13m0, k13m1, k13m2, k13m3, k13m4, k13m5, k13m6, k13m7, k13m8, k13m9, k13m10]
  instanceTypes := #[(.array .byte), .byte, .boolean, .int]
  staticTypes := #[(.array .byte)]
  resolved := Array.replicate 609 none
  statics := none }

def pool14 : Array CpInfo := pool [(1, .methodref 2 3), (0, .class_ 4), (0, .nameAndType 5 6), (0, u "java/lang/AbstractStringBuilder"), (0, u "<init>"), (0, u "(I)V"), (11, .class_ 20), (1, u "java/lang/String"), (3, .class_ 26), (1, u "java/lang/StringBuilder"), (0, u "append"), (0, u "(Ljava/lang/String;)Ljava/lang/StringBuilder;"), (0, .methodref 2 30), (0, .nameAndType 27 31), (0, u "(Ljava/lang/String;)Ljava/lang/AbstractStringBuilder;"), (24, .methodref 2 57), (0, .nameAndType 27 58), (0, u "(J)Ljava/lang/AbstractStringBuilder;"), (78, .methodref 18 138), (0, .nameAndType 5 139), (0, u "(Ljava/lang/StringBuilder;)V"), (5, u "()V"), (10, u "()I"), (124, u "(J)Ljava/lang/StringBuilder;"), (61, .methodref 2 344), (0, .nameAndType 345 156), (0, u "length"), (3, .class_ 350), (0, u "java/lang/Appendable"), (0, .class_ 352), (0, u "java/io/Serializable"), (0, .class_ 354), (0, u "java/lang/Comparable"), (0, .class_ 356), (0, u "java/lang/CharSequence"), (0, u "serialVersionUID"), (0, u "J"), (40, u "toString"), (0, u "()Ljava/lang/String;")] 21

def k14c0 : Code := { maxStack := 2, maxLocals := 1, code := jdk_67_method_1_code, exceptionTable := #[], attributes := #[] }
def k14m0 : Method := { name := "<init>", desc := "()V", sig := { parameters := [], returnType := none }, accessFlags := 1, code := some k14c0 }
def k14c1 : Code := { maxStack := 2, maxLocals := 2, code := jdk_67_method_7_code, exceptionTable := #[], attributes := #[] }
def k14m1 : Method := { name := "append", desc := "(Ljava/lang/String;)Ljava/lang/StringBuilder;", sig := { parameters := [(.object "java/lang/String")], returnType := some (.object "java/lang/StringBuilder") }, accessFlags := 1, code := some k14c1 }
def k14c2 : Code := { maxStack := 3, maxLocals := 3, code := jdk_67_method_16_code, exceptionTable := #[], attributes := #[] }
def k14m2 : Method := { name := "append", desc := "(J)Ljava/lang/StringBuilder;", sig := { parameters := [.long], returnType := some (.object "java/lang/StringBuilder") }, accessFlags := 1, code := some k14c2 }
def k14c3 : Code := { maxStack := 3, maxLocals := 1, code := jdk_67_method_42_code, exceptionTable := #[], attributes := #[] }
def k14m3 : Method := { name := "toString", desc := "()Ljava/lang/String;", sig := { parameters := [], returnType := some (.object "java/lang/String") }, accessFlags := 1, code := some k14c3 }
def k14c4 : Code := { maxStack := 1, maxLocals := 1, code := jdk_67_method_93_code, exceptionTable := #[], attributes := #[] }
def k14m4 : Method := { name := "length", desc := "()I", sig := { parameters := [], returnType := some .int }, accessFlags := 4161, code := some k14c4 }
/-- java/lang/StringBuilder -/
def k14 : Class := { plain "java/lang/StringBuilder" (some 13) with
  accessFlags := 49
  interfaces := #[12, 2, 3, 4]
  cf := some (fileOf pool14 24 #[] #[{ accessFlags := 1, nameIndex := 5, descriptorIndex := 145, attributes := #[] }, { accessFlags := 1, nameIndex := 27, descriptorIndex := 28, attributes := #[] }, { accessFlags := 1, nameIndex := 27, descriptorIndex := 281, attributes := #[] }, { accessFlags := 1, nameIndex := 399, descriptorIndex := 400, attributes := #[] }, { accessFlags := 4161, nameIndex := 345, descriptorIndex := 156, attributes := #[] }] 49 2 #[349, 351, 353, 355] #[{ accessFlags := 24, nameIndex := 357, descriptorIndex := 358, attributes := #[] }])
  fields := #[{ name := "serialVersionUID", type := .long, accessFlags := 24, slot := 0, constantValue := 0 }]
  methods := #[k14m0, k14m1, k14m2, k14m3, k14m4]
  instanceTypes := #[(.array .byte), .byte, .boolean, .int]
  staticTypes := #[.long]
  resolved := Array.replicate 422 none
  statics := none }

def pool15 : Array CpInfo := pool [(2, .class_ 4), (1, u "java/lang/Object"), (0, u "<init>"), (0, u "()V"), (1, .class_ 10), (1, u "java/lang/System"), (0, u "allowSecurityManager"), (0, u "I"), (16, u "cons"), (0, u "Ljava/io/Console;"), (77, .class_ 110), (1, u "java/lang/System$CallersHolder"), (43, u "initialErrStream"), (0, u "Ljava/io/PrintStream;"), (19, u "security"), (0, u "Ljava/lang/SecurityManager;"), (31, .class_ 209), (0, u "java/lang/System$1"), (7, u "props"), (0, u "Ljava/util/Properties;"), (2, u "lineSeparator"), (0, u "Ljava/lang/String;"), (96, .class_ 321), (1, u "java/lang/System$LoggerFinder"), (5, .class_ 328), (0, u "java/lang/System$Logger"), (67, u "err"), (2, u "out"), (91, u "notSupportedJnuEncoding"), (15, u "in"), (17, u "initialIn"), (0, u "Ljava/io/InputStream;"), (35, u "bootLayer"), (0, u "Ljava/lang/ModuleLayer;"), (99, .class_ 664), (0, u "java/lang/System$2"), (9, u "NEVER"), (2, u "MAYBE"), (49, u "arraycopy"), (0, u "(Ljava/lang/Object;ILjava/lang/Object;II)V"), (72, .class_ 802), (0, u "java/lang/System$Logger$Level")] 31

def k15m0 : Method := { name := "<init>", desc := "()V", sig := { parameters := [], returnType := none }, accessFlags := 2, code := none }
def k15m1 : Method := { name := "arraycopy", desc := "(Ljava/lang/Object;ILjava/lang/Object;II)V", sig := { parameters := [(.object "java/lang/Object"), .int, (.object "java/lang/Object"), .int, .int], returnType := none }, accessFlags := 265, code := none }
/-- java/lang/System -/
def k15 : Class := { plain "java/lang/System" (some 0) with
  accessFlags := 49
  interfaces := #[]
  cf := some (fileOf pool15 8 #[.nestMembers #[319, 327, 801, 108, 663, 208]] #[{ accessFlags := 2, nameIndex := 5, descriptorIndex := 6, attributes := #[] }, { accessFlags := 265, nameIndex := 727, descriptorIndex := 728, attributes := #[] }] 49 2 #[] #[{ accessFlags := 25, nameIndex := 507, descriptorIndex := 526, attributes := #[] }, { accessFlags := 25, nameIndex := 399, descriptorIndex := 155, attributes := #[] }, { accessFlags := 25, nameIndex := 396, descriptorIndex := 155, attributes := #[] }, { accessFlags := 10, nameIndex := 525, descriptorIndex := 526, attributes := #[] }, { accessFlags := 26, nameIndex := 674, descriptorIndex := 12, attributes := #[] }, { accessFlags := 26, nameIndex := 677, descriptorIndex := 12, attributes := #[] }, { accessFlags := 10, nameIndex := 11, descriptorIndex := 12, attributes := #[] }, { accessFlags := 74, nameIndex := 175, descriptorIndex := 176, attributes := #[] }, { accessFlags := 10, nameIndex := 491, descriptorIndex := 222, attributes := #[] }, { accessFlags := 74, nameIndex := 29, descriptorIndex := 30, attributes := #[] }, { accessFlags := 74, nameIndex := 154, descriptorIndex := 155, attributes := #[] }, { accessFlags := 10, nameIndex := 217, descriptorIndex := 218, attributes := #[] }, { accessFlags := 10, nameIndex := 221, descriptorIndex := 222, attributes := #[] }, { accessFlags := 8, nameIndex := 562, descriptorIndex := 563, attributes := #[] }])
  fields := #[{ name := "in", type := (.object "java/io/InputStream"), accessFlags := 25, slot := 0, constantValue := 0 }, { name := "out", type := (.object "java/io/PrintStream"), accessFlags := 25, slot := 1, constantValue := 0 }, { name := "err", type := (.object "java/io/PrintStream"), accessFlags := 25, slot := 2, constantValue := 0 }, { name := "initialIn", type := (.object "java/io/InputStream"), accessFlags := 10, slot := 3, constantValue := 0 }, { name := "NEVER", type := .int, accessFlags := 26, slot := 4, constantValue := 0 }, { name := "MAYBE", type := .int, accessFlags := 26, slot := 5, constantValue := 0 }, { name := "allowSecurityManager", type := .int, accessFlags := 10, slot := 6, constantValue := 0 }, { name := "security", type := (.object "java/lang/SecurityManager"), accessFlags := 74, slot := 7, constantValue := 0 }, { name := "notSupportedJnuEncoding", type := (.object "java/lang/String"), accessFlags := 10, slot := 8, constantValue := 0 }, { name := "cons", type := (.object "java/io/Console"), accessFlags := 74, slot := 9, constantValue := 0 }, { name := "initialErrStream", type := (.object "java/io/PrintStream"), accessFlags := 74, slot := 10, constantValue := 0 }, { name := "props", type := (.object "java/util/Properties"), accessFlags := 10, slot := 11, constantValue := 0 }, { name := "lineSeparator", type := (.object "java/lang/String"), accessFlags := 10, slot := 12, constantValue := 0 }, { name := "bootLayer", type := (.object "java/lang/ModuleLayer"), accessFlags := 8, slot := 13, constantValue := 0 }]
  methods := #[k15m0, k15m1]
  instanceTypes := #[]
  staticTypes := #[(.object "java/io/InputStream"), (.object "java/io/PrintStream"), (.object "java/io/PrintStream"), (.object "java/io/InputStream"), .int, .int, .int, (.object "java/lang/SecurityManager"), (.object "java/lang/String"), (.object "java/io/Console"), (.object "java/io/PrintStream"), (.object "java/util/Properties"), (.object "java/lang/String"), (.object "java/lang/ModuleLayer")]
  resolved := Array.replicate 834 none
  statics := none }

def pool16 : Array CpInfo := pool [(2, .class_ 4), (1, u "java/lang/Object"), (0, u "<init>"), (0, u "()V"), (1, .class_ 10), (1, u "java/lang/Number"), (2, .class_ 14), (0, u "java/io/Serializable"), (0, u "serialVersionUID"), (0, u "J")] 20

def k16m0 : Method := { name := "<init>", desc := "()V", sig := { parameters := [], returnType := none }, accessFlags := 1, code := none }
/-- java/lang/Number -/
def k16 : Class := { plain "java/lang/Number" (some 0) with
  accessFlags := 1057
  interfaces := #[2]
  cf := some (fileOf pool16 8 #[] #[{ accessFlags := 1, nameIndex := 5, descriptorIndex := 6, attributes := #[] }] 1057 2 #[13] #[{ accessFlags := 26, nameIndex := 15, descriptorIndex := 16, attributes := #[] }])
  fields := #[{ name := "serialVersionUID", type := .long, accessFlags := 26, slot := 0, constantValue := 0 }]
  methods := #[k16m0]
  instanceTypes := #[]
  staticTypes := #[.long]
  resolved := Array.replicate 37 none
  statics := none }

def pool17 : Array CpInfo := pool [(1, .class_ 2), (0, u "java/lang/Long"), (15, .class_ 20), (1, u "java/lang/Integer"), (32, .long 10), (47, u "(J)I"), (18, u "stringSize"), (2, u "getChars"), (0, u "(JI[B)I"), (4, .long 18446744071562067968), (1, .long 100), (1, .fieldref 18 134), (0, .nameAndType 135 136), (0, u "DigitOnes"), (0, u "[B"), (0, .fieldref 18 138), (0, .nameAndType 139 136), (0, u "DigitTens"), (0, .long 18446744073709551606), (94, .class_ 237), (1, u "java/lang/Long$LongCache"), (33, .class_ 272), (0, u "java/lang/Number"), (2, u "value"), (0, u "J"), (84, u "TYPE"), (0, u "Ljava/lang/Class;"), (0, .class_ 364), (0, u "java/lang/Comparable"), (0, .class_ 366), (0, u "java/lang/constant/Constable"), (0, .class_ 368), (0, u "java/lang/constant/ConstantDesc"), (0, u "MIN_VALUE"), (1, u "MAX_VALUE"), (4, u "SIZE"), (0, u "I"), (1, u "BYTES"), (1, u "serialVersionUID")] 142

def k17c0 : Code := { maxStack := 4, maxLocals := 11, code := jdk_35_method_14_code, exceptionTable := #[], attributes := #[] }
def k17m0 : Method := { name := "getChars", desc := "(JI[B)I", sig := { parameters := [.long, .int, (.array .byte)], returnType := some .int }, accessFlags := 8, code := some k17c0 }
def k17c1 : Code := { maxStack := 4, maxLocals := 6, code := jdk_35_method_15_code, exceptionTable := #[], attributes := #[] }
def k17m1 : Method := { name := "stringSize", desc := "(J)I", sig := { parameters := [.long], returnType := some .int }, accessFlags := 8, code := some k17c1 }
/-- java/lang/Long -/
def k17 : Class := { plain "java/lang/Long" (some 16) with
  accessFlags := 49
  interfaces := #[3, 5, 6]
  cf := some (fileOf pool17 1 #[.nestMembers #[235]] #[{ accessFlags := 8, nameIndex := 123, descriptorIndex := 124, attributes := #[] }, { accessFlags := 8, nameIndex := 120, descriptorIndex := 101, attributes := #[] }] 49 271 #[363, 365, 367] #[{ accessFlags := 25, nameIndex := 369, descriptorIndex := 276, attributes := #[] }, { accessFlags := 25, nameIndex := 371, descriptorIndex := 276, attributes := #[] }, { accessFlags := 25, nameIndex := 361, descriptorIndex := 362, attributes := #[] }, { accessFlags := 18, nameIndex := 275, descriptorIndex := 276, attributes := #[] }, { accessFlags := 25, nameIndex := 376, descriptorIndex := 377, attributes := #[] }, { accessFlags := 25, nameIndex := 379, descriptorIndex := 377, attributes := #[] }, { accessFlags := 26, nameIndex := 381, descriptorIndex := 276, attributes := #[] }])
  fields := #[{ name := "MIN_VALUE", type := .long, accessFlags := 25, slot := 0, constantValue := 0 }, { name := "MAX_VALUE", type := .long, accessFlags := 25, slot := 1, constantValue := 0 }, { name := "TYPE", type := (.object "java/lang/Class"), accessFlags := 25, slot := 2, constantValue := 0 }, { name := "value", type := .long, accessFlags := 18, slot := 0, constantValue := 0 }, { name := "SIZE", type := .int, accessFlags := 25, slot := 3, constantValue := 0 }, { name := "BYTES", type := .int, accessFlags := 25, slot := 4, constantValue := 0 }, { name := "serialVersionUID", type := .long, accessFlags := 26, slot := 5, constantValue := 0 }]
  methods := #[k17m0, k17m1]
  instanceTypes := #[.long]
  staticTypes := #[.long, .long, (.object "java/lang/Class"), .int, .int, .long]
  resolved := Array.replicate 524 none
  statics := none }

def pool18 : Array CpInfo := pool [(1, .class_ 2), (0, u "java/lang/Integer"), (16, u "digits"), (0, u "[C"), (64, u "DigitOnes"), (0, u "[B"), (2, u "DigitTens"), (99, .class_ 190), (0, u "java/lang/Integer$IntegerCache"), (3, u "I"), (8, .class_ 204), (0, u "java/lang/Number"), (2, u "value"), (94, u "TYPE"), (0, u "Ljava/lang/Class;"), (0, .class_ 305), (0, u "java/lang/Comparable"), (0, .class_ 307), (0, u "java/lang/constant/Constable"), (0, .class_ 309), (0, u "java/lang/constant/ConstantDesc"), (0, u "MIN_VALUE"), (1, u "MAX_VALUE"), (3, u "SIZE"), (1, u "BYTES"), (1, u "serialVersionUID"), (0, u "J")] 131

/-- java/lang/Integer -/
def k18 : Class := { plain "java/lang/Integer" (some 16) with
  accessFlags := 49
  interfaces := #[3, 5, 6]
  cf := some (fileOf pool18 1 #[.nestMembers #[189]] #[] 49 203 #[304, 306, 308] #[{ accessFlags := 25, nameIndex := 310, descriptorIndex := 194, attributes := #[] }, { accessFlags := 25, nameIndex := 312, descriptorIndex := 194, attributes := #[] }, { accessFlags := 25, nameIndex := 302, descriptorIndex := 303, attributes := #[] }, { accessFlags := 24, nameIndex := 19, descriptorIndex := 20, attributes := #[] }, { accessFlags := 24, nameIndex := 89, descriptorIndex := 86, attributes := #[] }, { accessFlags := 24, nameIndex := 85, descriptorIndex := 86, attributes := #[] }, { accessFlags := 18, nameIndex := 207, descriptorIndex := 194, attributes := #[] }, { accessFlags := 25, nameIndex := 316, descriptorIndex := 194, attributes := #[] }, { accessFlags := 25, nameIndex := 318, descriptorIndex := 194, attributes := #[] }, { accessFlags := 26, nameIndex := 320, descriptorIndex := 321, attributes := #[] }])
  fields := #[{ name := "MIN_VALUE", type := .int, accessFlags := 25, slot := 0, constantValue := 0 }, { name := "MAX_VALUE", type := .int, accessFlags := 25, slot := 1, constantValue := 0 }, { name := "TYPE", type := (.object "java/lang/Class"), accessFlags := 25, slot := 2, constantValue := 0 }, { name := "digits", type := (.array .char), accessFlags := 24, slot := 3, constantValue := 0 }, { name := "DigitTens", type := (.array .byte), accessFlags := 24, slot := 4, constantValue := 0 }, { name := "DigitOnes", type := (.array .byte), accessFlags := 24, slot := 5, constantValue := 0 }, { name := "value", type := .int, accessFlags := 18, slot := 0, constantValue := 0 }, { name := "SIZE", type := .int, accessFlags := 25, slot := 6, constantValue := 0 }, { name := "BYTES", type := .int, accessFlags := 25, slot := 7, constantValue := 0 }, { name := "serialVersionUID", type := .long, accessFlags := 26, slot := 8, constantValue := 0 }]
  methods := #[]
  instanceTypes := #[.int]
  staticTypes := #[.int, .int, (.object "java/lang/Class"), (.array .char), (.array .byte), (.array .byte), .int, .int, .long]
  resolved := Array.replicate 453 none
  statics := some 2 }

def pool19 : Array CpInfo := pool [(2, .class_ 4), (1, u "java/lang/Object"), (0, u "<init>"), (0, u "()V"), (7, .class_ 16), (1, u "java/util/Arrays"), (57, .class_ 76), (1, u "java/util/Arrays$NaturalOrder"), (32, u "()Ljava/lang/Object;"), (3, .class_ 115), (1, u "java/util/Arrays$LegacyMergeSort"), (1, u "Z"), (10, .nameAndType 129 109), (0, u "clone"), (9, u "copyOfRange"), (10, .methodref 151 152), (0, .class_ 153), (0, .nameAndType 154 155), (0, u "java/lang/System"), (0, u "arraycopy"), (0, u "(Ljava/lang/Object;ILjava/lang/Object;II)V"), (146, u "copyOf"), (1, .methodref 305 306), (0, .class_ 307), (0, .nameAndType 308 309), (0, u "java/lang/Math"), (0, u "min"), (0, u "(II)I"), (0, .methodref 311 128), (0, .class_ 312), (0, u "[B"), (26, .methodref 14 340), (0, .nameAndType 341 342), (0, u "copyOfRangeByte"), (0, u "([BII)[B"), (0, .methodref 14 344), (0, .nameAndType 345 346), (0, u "checkLength"), (0, u "(II)V"), (28, .class_ 376), (0, u "java/util/Arrays$ArrayList"), (68, u "$assertionsDisabled"), (269, u "MIN_ARRAY_SORT_GRAN"), (0, u "I"), (2, u "INSERTIONSORT_THRESHOLD"), (149, u "([BI)[B"), (105, .class_ 976), (0, u "java/util/Arrays$ArrayItr")] 52

def k19m0 : Method := { name := "<init>", desc := "()V", sig := { parameters := [], returnType := none }, accessFlags := 2, code := none }
def k19c1 : Code := { maxStack := 6, maxLocals := 3, code := jdk_65_method_121_code, exceptionTable := #[], attributes := #[] }
def k19m1 : Method := { name := "copyOf", desc := "([BI)[B", sig := { parameters := [(.array .byte), .int], returnType := some (.array .byte) }, accessFlags := 9, code := some k19c1 }
def k19c2 : Code := { maxStack := 4, maxLocals := 2, code := jdk_65_method_131_code, exceptionTable := #[], attributes := #[] }
def k19m2 : Method := { name := "checkLength", desc := "(II)V", sig := { parameters := [.int, .int], returnType := none }, accessFlags := 10, code := some k19c2 }
def k19c3 : Code := { maxStack := 3, maxLocals := 3, code := jdk_65_method_132_code, exceptionTable := #[], attributes := #[] }
def k19m3 : Method := { name := "copyOfRange", desc := "([BII)[B", sig := { parameters := [(.array .byte), .int, .int], returnType := some (.array .byte) }, accessFlags := 9, code := some k19c3 }
def k19c4 : Code := { maxStack := 6, maxLocals := 5, code := jdk_65_method_133_code, exceptionTable := #[], attributes := #[] }
def k19m4 : Method := { name := "copyOfRangeByte", desc := "([BII)[B", sig := { parameters := [(.array .byte), .int, .int], returnType := some (.array .byte) }, accessFlags := 10, code := some k19c4 }
/-- java/util/Arrays -/
def k19 : Class := { plain "java/util/Arrays" (some 0) with
  accessFlags := 49
  interfaces := #[]
  cf := some (fileOf pool19 14 #[.nestMembers #[975, 375, 113, 74]] #[{ accessFlags := 2, nameIndex := 5, descriptorIndex := 6, attributes := #[] }, { accessFlags := 9, nameIndex := 302, descriptorIndex := 869, attributes := #[] }, { accessFlags := 10, nameIndex := 345, descriptorIndex := 346, attributes := #[] }, { accessFlags := 9, nameIndex := 139, descriptorIndex := 342, attributes := #[] }, { accessFlags := 10, nameIndex := 341, descriptorIndex := 342, attributes := #[] }] 49 2 #[] #[{ accessFlags := 26, nameIndex := 715, descriptorIndex := 716, attributes := #[] }, { accessFlags := 26, nameIndex := 719, descriptorIndex := 716, attributes := #[] }, { accessFlags := 4120, nameIndex := 445, descriptorIndex := 117, attributes := #[] }])
  fields := #[{ name := "MIN_ARRAY_SORT_GRAN", type := .int, accessFlags := 26, slot := 0, constantValue := 0 }, { name := "INSERTIONSORT_THRESHOLD", type := .int, accessFlags := 26, slot := 1, constantValue := 0 }, { name := "$assertionsDisabled", type := .boolean, accessFlags := 4120, slot := 2, constantValue := 0 }]
  methods := #[k19m0, k19m1, k19m2, k19m3, k19m4]
  instanceTypes := #[]
  staticTypes := #[.int, .int, .boolean]
  resolved := Array.replicate 1029 none
  statics := none }

def pool20 : Array CpInfo := pool [(1, .class_ 2), (0, u "java/lang/Math"), (1, .class_ 6), (1, u "java/lang/Object"), (0, u "<init>"), (0, u "()V"), (89, .class_ 100), (1, u "java/lang/Math$RandomNumberGeneratorHolder"), (71, u "negativeZeroFloatBits"), (0, u "J"), (2, u "negativeZeroDoubleBits"), (21, u "max"), (2, u "min"), (43, u "$assertionsDisabled"), (0, u "Z"), (88, u "(II)I"), (2, u "twoToTheDoubleScaleDown"), (0, u "D"), (4, u "twoToTheDoubleScaleUp"), (9, u "E"), (3, u "PI"), (2, u "TAU"), (2, u "DEGREES_TO_RADIANS"), (0, u "RADIANS_TO_DEGREES")] 94

def k20m0 : Method := { name := "<init>", desc := "()V", sig := { parameters := [], returnType := none }, accessFlags := 2, code := none }
def k20c1 : Code := { maxStack := 2, maxLocals := 2, code := jdk_29_method_65_code, exceptionTable := #[], attributes := #[] }
def k20m1 : Method := { name := "max", desc := "(II)I", sig := { parameters := [.int, .int], returnType := some .int }, accessFlags := 9, code := some k20c1 }
def k20c2 : Code := { maxStack := 2, maxLocals := 2, code := jdk_29_method_69_code, exceptionTable := #[], attributes := #[] }
def k20m2 : Method := { name := "min", desc := "(II)I", sig := { parameters := [.int, .int], returnType := some .int }, accessFlags := 9, code := some k20c2 }
/-- java/lang/Math -/
def k20 : Class := { plain "java/lang/Math" (some 0) with
  accessFlags := 49
  interfaces := #[]
  cf := some (fileOf pool20 1 #[.nestMembers #[98]] #[{ accessFlags := 2, nameIndex := 7, descriptorIndex := 8, attributes := #[] }, { accessFlags := 9, nameIndex := 198, descriptorIndex := 335, attributes := #[] }, { accessFlags := 9, nameIndex := 201, descriptorIndex := 335, attributes := #[] }] 49 4 #[] #[{ accessFlags := 25, nameIndex := 354, descriptorIndex := 339, attributes := #[] }, { accessFlags := 25, nameIndex := 358, descriptorIndex := 339, attributes := #[] }, { accessFlags := 25, nameIndex := 361, descriptorIndex := 339, attributes := #[] }, { accessFlags := 26, nameIndex := 364, descriptorIndex := 339, attributes := #[] }, { accessFlags := 26, nameIndex := 365, descriptorIndex := 339, attributes := #[] }, { accessFlags := 26, nameIndex := 172, descriptorIndex := 173, attributes := #[] }, { accessFlags := 26, nameIndex := 176, descriptorIndex := 173, attributes := #[] }, { accessFlags := 8, nameIndex := 344, descriptorIndex := 339, attributes := #[] }, { accessFlags := 8, nameIndex := 338, descriptorIndex := 339, attributes := #[] }, { accessFlags := 4120, nameIndex := 245, descriptorIndex := 246, attributes := #[] }])
  fields := #[{ name := "E", type := .double, accessFlags := 25, slot := 0, constantValue := 0 }, { name := "PI", type := .double, accessFlags := 25, slot := 1, constantValue := 0 }, { name := "TAU", type := .double, accessFlags := 25, slot := 2, constantValue := 0 }, { name := "DEGREES_TO_RADIANS", type := .double, accessFlags := 26, slot := 3, constantValue := 0 }, { name := "RADIANS_TO_DEGREES", type := .double, accessFlags := 26, slot := 4, constantValue := 0 }, { name := "negativeZeroFloatBits", type := .long, accessFlags := 26, slot := 5, constantValue := 0 }, { name := "negativeZeroDoubleBits", type := .long, accessFlags := 26, slot := 6, constantValue := 0 }, { name := "twoToTheDoubleScaleUp", type := .double, accessFlags := 8, slot := 7, constantValue := 0 }, { name := "twoToTheDoubleScaleDown", type := .double, accessFlags := 8, slot := 8, constantValue := 0 }, { name := "$assertionsDisabled", type := .boolean, accessFlags := 4120, slot := 9, constantValue := 0 }]
  methods := #[k20m0, k20m1, k20m2]
  instanceTypes := #[]
  staticTypes := #[.double, .double, .double, .double, .double, .long, .long, .double, .double, .boolean]
  resolved := Array.replicate 460 none
  statics := none }

def pool21 : Array CpInfo := pool [(1, .class_ 2), (0, u "java/lang/String"), (1, .class_ 6), (1, u "java/lang/Object"), (0, u "<init>"), (0, u "()V"), (0, .methodref 1 10), (0, .nameAndType 11 12), (0, u "checkIndex"), (0, u "(II)V"), (1, .class_ 16), (1, u "java/lang/StringLatin1"), (36, u "([BI)C"), (36, u "canEncode"), (14, u "(C)Z"), (15, u "$assertionsDisabled"), (0, u "Z"), (98, .class_ 223), (1, u "java/lang/StringLatin1$LinesSpliterator"), (28, u "charAt"), (127, u "toBytes"), (1, u "(C)[B"), (7, .class_ 391), (0, u "java/lang/StringLatin1$CharsSpliterator")] 3

def k21m0 : Method := { name := "<init>", desc := "()V", sig := { parameters := [], returnType := none }, accessFlags := 0, code := none }
def k21c1 : Code := { maxStack := 2, maxLocals := 2, code := jdk_43_method_2_code, exceptionTable := #[], attributes := #[] }
def k21m1 : Method := { name := "charAt", desc := "([BI)C", sig := { parameters := [(.array .byte), .int], returnType := some .char }, accessFlags := 9, code := some k21c1 }
def k21c2 : Code := { maxStack := 2, maxLocals := 1, code := jdk_43_method_3_code, exceptionTable := #[], attributes := #[] }
def k21m2 : Method := { name := "canEncode", desc := "(C)Z", sig := { parameters := [.char], returnType := some .boolean }, accessFlags := 9, code := some k21c2 }
def k21c3 : Code := { maxStack := 4, maxLocals := 1, code := jdk_43_method_46_code, exceptionTable := #[], attributes := #[] }
def k21m3 : Method := { name := "toBytes", desc := "(C)[B", sig := { parameters := [.char], returnType := some (.array .byte) }, accessFlags := 9, code := some k21c3 }
/-- java/lang/StringLatin1 -/
def k21 : Class := { plain "java/lang/StringLatin1" (some 0) with
  accessFlags := 48
  interfaces := #[]
  cf := some (fileOf pool21 14 #[.nestMembers #[390, 221]] #[{ accessFlags := 0, nameIndex := 7, descriptorIndex := 8, attributes := #[] }, { accessFlags := 9, nameIndex := 252, descriptorIndex := 53, attributes := #[] }, { accessFlags := 9, nameIndex := 90, descriptorIndex := 105, attributes := #[] }, { accessFlags := 9, nameIndex := 380, descriptorIndex := 382, attributes := #[] }] 48 4 #[] #[{ accessFlags := 4120, nameIndex := 121, descriptorIndex := 122, attributes := #[] }])
  fields := #[{ name := "$assertionsDisabled", type := .boolean, accessFlags := 4120, slot := 0, constantValue := 0 }]
  methods := #[k21m0, k21m1, k21m2, k21m3]
  instanceTypes := #[]
  staticTypes := #[.boolean]
  resolved := Array.replicate 395 none
  statics := none }

def pool22 : Array CpInfo := pool [(2, .class_ 4), (1, u "java/lang/Object"), (0, u "<init>"), (0, u "()V"), (17, .class_ 26), (1, u "jdk/internal/util/Preconditions"), (6, u "checkIndex"), (21, .class_ 56), (0, u "jdk/internal/util/Preconditions$4"), (57, .class_ 115), (0, u "jdk/internal/util/Preconditions$1"), (7, u "SIOOBE_FORMATTER"), (0, u "Ljava/util/function/BiFunction;"), (0, .class_ 126), (0, u "jdk/internal/util/Preconditions$2"), (3, u "AIOOBE_FORMATTER"), (0, .class_ 132), (0, u "jdk/internal/util/Preconditions$3"), (3, u "IOOBE_FORMATTER"), (41, u "(IILjava/util/function/BiFunction;)I")] 15

def k22m0 : Method := { name := "<init>", desc := "()V", sig := { parameters := [], returnType := none }, accessFlags := 1, code := none }
def k22c1 : Code := { maxStack := 3, maxLocals := 3, code := jdk_41_method_11_code, exceptionTable := #[], attributes := #[] }
def k22m1 : Method := { name := "checkIndex", desc := "(IILjava/util/function/BiFunction;)I", sig := { parameters := [.int, .int, (.object "java/util/function/BiFunction")], returnType := some .int }, accessFlags := 9, code := some k22c1 }
/-- jdk/internal/util/Preconditions -/
def k22 : Class := { plain "jdk/internal/util/Preconditions" (some 0) with
  accessFlags := 33
  interfaces := #[]
  cf := some (fileOf pool22 24 #[.nestMembers #[55, 131, 125, 114]] #[{ accessFlags := 1, nameIndex := 5, descriptorIndex := 6, attributes := #[] }, { accessFlags := 9, nameIndex := 33, descriptorIndex := 178, attributes := #[] }] 33 2 #[] #[{ accessFlags := 25, nameIndex := 123, descriptorIndex := 124, attributes := #[] }, { accessFlags := 25, nameIndex := 130, descriptorIndex := 124, attributes := #[] }, { accessFlags := 25, nameIndex := 136, descriptorIndex := 124, attributes := #[] }])
  fields := #[{ name := "SIOOBE_FORMATTER", type := (.object "java/util/function/BiFunction"), accessFlags := 25, slot := 0, constantValue := 0 }, { name := "AIOOBE_FORMATTER", type := (.object "java/util/function/BiFunction"), accessFlags := 25, slot := 1, constantValue := 0 }, { name := "IOOBE_FORMATTER", type := (.object "java/util/function/BiFunction"), accessFlags := 25, slot := 2, constantValue := 0 }]
  methods := #[k22m0, k22m1]
  instanceTypes := #[]
  staticTypes := #[(.object "java/util/function/BiFunction"), (.object "java/util/function/BiFunction"), (.object "java/util/function/BiFunction")]
  resolved := Array.replicate 194 none
  statics := some 3 }

def pool23 : Array CpInfo := pool [(6, .class_ 8), (1, u "java/lang/Object"), (0, u "<init>"), (0, u "()V"), (1, .class_ 14), (1, u "java/lang/StringUTF16"), (31, u "$assertionsDisabled"), (0, u "Z"), (13, u "HI_BYTE_SHIFT"), (0, u "I"), (2, u "LO_BYTE_SHIFT"), (49, .methodref 12 116), (0, .nameAndType 117 118), (0, u "compress"), (0, u "([CI[BII)I"), (3, u "([CII)[B"), (138, u "coderFromArrayLen"), (0, u "([BI)B"), (106, .class_ 371), (1, u "java/lang/StringUTF16$LinesSpliterator"), (58, u "MAX_LENGTH"), (196, .class_ 628), (0, u "java/lang/StringUTF16$CodePointsSpliterator"), (0, .class_ 630), (0, u "java/lang/StringUTF16$CharsSpliterator")] 4

def k23m0 : Method := { name := "<init>", desc := "()V", sig := { parameters := [], returnType := none }, accessFlags := 0, code := none }
def k23c1 : Code := { maxStack := 2, maxLocals := 2, code := jdk_52_method_15_code, exceptionTable := #[], attributes := #[] }
def k23m1 : Method := { name := "coderFromArrayLen", desc := "([BI)B", sig := { parameters := [(.array .byte), .int], returnType := some .byte }, accessFlags := 8, code := some k23c1 }
def k23c2 : Code := { maxStack := 5, maxLocals := 6, code := jdk_52_method_16_code, exceptionTable := #[], attributes := #[] }
def k23m2 : Method := { name := "compress", desc := "([CII)[B", sig := { parameters := [(.array .char), .int, .int], returnType := some (.array .byte) }, accessFlags := 9, code := some k23c2 }
def k23c3 : Code := { maxStack := 3, maxLocals := 7, code := jdk_52_method_21_code, exceptionTable := #[], attributes := #[] }
def k23m3 : Method := { name := "compress", desc := "([CI[BII)I", sig := { parameters := [(.array .char), .int, (.array .byte), .int, .int], returnType := some .int }, accessFlags := 9, code := some k23c3 }
/-- java/lang/StringUTF16 -/
def k23 : Class := { plain "java/lang/StringUTF16" (some 0) with
  accessFlags := 48
  interfaces := #[]
  cf := some (fileOf pool23 12 #[.nestMembers #[627, 629, 369]] #[{ accessFlags := 0, nameIndex := 9, descriptorIndex := 10, attributes := #[] }, { accessFlags := 8, nameIndex := 261, descriptorIndex := 262, attributes := #[] }, { accessFlags := 9, nameIndex := 117, descriptorIndex := 122, attributes := #[] }, { accessFlags := 9, nameIndex := 117, descriptorIndex := 118, attributes := #[] }] 48 6 #[] #[{ accessFlags := 26, nameIndex := 61, descriptorIndex := 62, attributes := #[] }, { accessFlags := 26, nameIndex := 65, descriptorIndex := 62, attributes := #[] }, { accessFlags := 24, nameIndex := 430, descriptorIndex := 62, attributes := #[] }, { accessFlags := 4120, nameIndex := 46, descriptorIndex := 47, attributes := #[] }])
  fields := #[{ name := "HI_BYTE_SHIFT", type := .int, accessFlags := 26, slot := 0, constantValue := 0 }, { name := "LO_BYTE_SHIFT", type := .int, accessFlags := 26, slot := 1, constantValue := 0 }, { name := "MAX_LENGTH", type := .int, accessFlags := 24, slot := 2, constantValue := 0 }, { name := "$assertionsDisabled", type := .boolean, accessFlags := 4120, slot := 3, constantValue := 0 }]
  methods := #[k23m0, k23m1, k23m2, k23m3]
  instanceTypes := #[]
  staticTypes := #[.int, .int, .int, .boolean]
  resolved := Array.replicate 635 none
  statics := none }

def pool24 : Array CpInfo := pool [(9, u "<init>"), (6, .class_ 18), (1, u "java/lang/Object"), (0, u "()V"), (1, .class_ 23), (1, u "jdk/internal/util/ArraysSupport"), (0, u "LOG2_ARRAY_LONG_INDEX_SCALE"), (0, u "I"), (2, u "U"), (0, u "Ljdk/internal/misc/Unsafe;"), (8, u "BIG_ENDIAN"), (0, u "Z"), (8, u "LOG2_BYTE_BIT_SIZE"), (4, u "LOG2_ARRAY_INT_INDEX_SCALE"), (54, u "JLA"), (0, u "Ljdk/internal/access/JavaLangAccess;"), (11, u "LOG2_ARRAY_BOOLEAN_INDEX_SCALE"), (9, u "LOG2_ARRAY_BYTE_INDEX_SCALE"), (5, u "LOG2_ARRAY_CHAR_INDEX_SCALE"), (5, u "LOG2_ARRAY_SHORT_INDEX_SCALE"), (18, u "LOG2_ARRAY_FLOAT_INDEX_SCALE"), (24, u "LOG2_ARRAY_DOUBLE_INDEX_SCALE"), (6, .methodref 195 196), (0, .class_ 197), (0, .nameAndType 198 199), (0, u "java/lang/Math"), (0, u "max"), (0, u "(II)I"), (0, .integer 2147483639), (76, u "T_BOOLEAN"), (2, u "T_CHAR"), (1, u "T_FLOAT"), (1, u "T_DOUBLE"), (1, u "T_BYTE"), (1, u "T_SHORT"), (1, u "T_INT"), (1, u "T_LONG"), (1, u "SOFT_MAX_ARRAY_LENGTH"), (56, u "newLength"), (0, u "(III)I")] 25

def k24m0 : Method := { name := "<init>", desc := "()V", sig := { parameters := [], returnType := none }, accessFlags := 2, code := none }
def k24c1 : Code := { maxStack := 3, maxLocals := 4, code := jdk_48_method_27_code, exceptionTable := #[], attributes := #[] }
def k24m1 : Method := { name := "newLength", desc := "(III)I", sig := { parameters := [.int, .int, .int], returnType := some .int }, accessFlags := 9, code := some k24c1 }
/-- jdk/internal/util/ArraysSupport -/
def k24 : Class := { plain "jdk/internal/util/ArraysSupport" (some 0) with
  accessFlags := 33
  interfaces := #[]
  cf := some (fileOf pool24 21 #[] #[{ accessFlags := 2, nameIndex := 9, descriptorIndex := 19, attributes := #[] }, { accessFlags := 9, nameIndex := 351, descriptorIndex := 352, attributes := #[] }] 33 16 #[] #[{ accessFlags := 24, nameIndex := 28, descriptorIndex := 29, attributes := #[] }, { accessFlags := 26, nameIndex := 38, descriptorIndex := 39, attributes := #[] }, { accessFlags := 25, nameIndex := 121, descriptorIndex := 25, attributes := #[] }, { accessFlags := 25, nameIndex := 131, descriptorIndex := 25, attributes := #[] }, { accessFlags := 25, nameIndex := 137, descriptorIndex := 25, attributes := #[] }, { accessFlags := 25, nameIndex := 143, descriptorIndex := 25, attributes := #[] }, { accessFlags := 25, nameIndex := 53, descriptorIndex := 25, attributes := #[] }, { accessFlags := 25, nameIndex := 24, descriptorIndex := 25, attributes := #[] }, { accessFlags := 25, nameIndex := 162, descriptorIndex := 25, attributes := #[] }, { accessFlags := 25, nameIndex := 187, descriptorIndex := 25, attributes := #[] }, { accessFlags := 26, nameIndex := 48, descriptorIndex := 25, attributes := #[] }, { accessFlags := 25, nameIndex := 277, descriptorIndex := 25, attributes := #[] }, { accessFlags := 25, nameIndex := 280, descriptorIndex := 25, attributes := #[] }, { accessFlags := 25, nameIndex := 282, descriptorIndex := 25, attributes := #[] }, { accessFlags := 25, nameIndex := 284, descriptorIndex := 25, attributes := #[] }, { accessFlags := 25, nameIndex := 286, descriptorIndex := 25, attributes := #[] }, { accessFlags := 25, nameIndex := 288, descriptorIndex := 25, attributes := #[] }, { accessFlags := 25, nameIndex := 290, descriptorIndex := 25, attributes := #[] }, { accessFlags := 25, nameIndex := 292, descriptorIndex := 25, attributes := #[] }, { accessFlags := 26, nameIndex := 108, descriptorIndex := 109, attributes := #[] }, { accessFlags := 25, nameIndex := 294, descriptorIndex := 25, attributes := #[] }])
  fields := #[{ name := "U", type := (.object "jdk/internal/misc/Unsafe"), accessFlags := 24, slot := 0, constantValue := 0 }, { name := "BIG_ENDIAN", type := .boolean, accessFlags := 26, slot := 1, constantValue := 0 }, { name := "LOG2_ARRAY_BOOLEAN_INDEX_SCALE", type := .int, accessFlags := 25, slot := 2, constantValue := 0 }, { name := "LOG2_ARRAY_BYTE_INDEX_SCALE", type := .int, accessFlags := 25, slot := 3, constantValue := 0 }, { name := "LOG2_ARRAY_CHAR_INDEX_SCALE", type := .int, accessFlags := 25, slot := 4, constantValue := 0 }, { name := "LOG2_ARRAY_SHORT_INDEX_SCALE", type := .int, accessFlags := 25, slot := 5, constantValue := 0 }, { name := "LOG2_ARRAY_INT_INDEX_SCALE", type := .int, accessFlags := 25, slot := 6, constantValue := 0 }, { name := "LOG2_ARRAY_LONG_INDEX_SCALE", type := .int, accessFlags := 25, slot := 7, constantValue := 0 }, { name := "LOG2_ARRAY_FLOAT_INDEX_SCALE", type := .int, accessFlags := 25, slot := 8, constantValue := 0 }, { name := "LOG2_ARRAY_DOUBLE_INDEX_SCALE", type := .int, accessFlags := 25, slot := 9, constantValue := 0 }, { name := "LOG2_BYTE_BIT_SIZE", type := .int, accessFlags := 26, slot := 10, constantValue := 0 }, { name := "T_BOOLEAN", type := .int, accessFlags := 25, slot := 11, constantValue := 0 }, { name := "T_CHAR", type := .int, accessFlags := 25, slot := 12, constantValue := 0 }, { name := "T_FLOAT", type := .int, accessFlags := 25, slot := 13, constantValue := 0 }, { name := "T_DOUBLE", type := .int, accessFlags := 25, slot := 14, constantValue := 0 }, { name := "T_BYTE", type := .int, accessFlags := 25, slot := 15, constantValue := 0 }, { name := "T_SHORT", type := .int, accessFlags := 25, slot := 16, constantValue := 0 }, { name := "T_INT", type := .int, accessFlags := 25, slot := 17, constantValue := 0 }, { name := "T_LONG", type := .int, accessFlags := 25, slot := 18, constantValue := 0 }, { name := "JLA", type := (.object "jdk/internal/access/JavaLangAccess"), accessFlags := 26, slot := 19, constantValue := 0 }, { name := "SOFT_MAX_ARRAY_LENGTH", type := .int, accessFlags := 25, slot := 20, constantValue := 0 }]
  methods := #[k24m0, k24m1]
  instanceTypes := #[]
  staticTypes := #[(.object "jdk/internal/misc/Unsafe"), .boolean, .int, .int, .int, .int, .int, .int, .int, .int, .int, .int, .int, .int, .int, .int, .int, .int, .int, (.object "jdk/internal/access/JavaLangAccess"), .int]
  resolved := Array.replicate 378 none
  statics := none }

def pool25 : Array CpInfo := pool [(1, .class_ 2), (0, u "java/lang/Cloneable"), (0, .class_ 4), (0, u "java/lang/Object")] 2

/-- java/lang/Cloneable -/
def k25 : Class := { plain "java/lang/Cloneable" (some 0) with
  accessFlags := 1537
  interfaces := #[]
  cf := some (fileOf pool25 1 #[] #[] 1537 3 #[] #[])
  fields := #[]
  methods := #[]
  instanceTypes := #[]
  staticTypes := #[]
  resolved := Array.replicate 7 none
  statics := none }

def pool26 : Array CpInfo := pool [(2, .class_ 4), (1, u "java/lang/Object"), (0, u "<init>"), (0, u "()V"), (12, .class_ 20), (0, u "java/util/Collections"), (63, u "r"), (0, u "Ljava/util/Random;"), (80, .class_ 167), (0, u "java/util/Collections$UnmodifiableCollection"), (6, .class_ 175), (0, u "java/util/Collections$UnmodifiableSequencedCollection"), (6, .class_ 183), (0, u "java/util/Collections$UnmodifiableSet"), (6, .class_ 191), (0, u "java/util/Collections$UnmodifiableSequencedSet"), (6, .class_ 199), (0, u "java/util/Collections$UnmodifiableSortedSet"), (6, .class_ 207), (0, u "java/util/Collections$UnmodifiableNavigableSet"), (4, .class_ 213), (0, u "java/util/Collections$UnmodifiableList"), (1, .class_ 216), (0, u "java/util/Collections$UnmodifiableRandomAccessList"), (6, .class_ 224), (0, u "java/util/Collections$UnmodifiableMap"), (6, .class_ 232), (0, u "java/util/Collections$UnmodifiableSequencedMap"), (4, .class_ 238), (0, u "java/util/Collections$UnmodifiableSortedMap"), (6, .class_ 246), (0, u "java/util/Collections$UnmodifiableNavigableMap"), (3, .class_ 251), (0, u "java/util/Collections$SynchronizedCollection"), (4, .class_ 257), (0, u "java/util/Collections$SynchronizedSet"), (4, .class_ 263), (0, u "java/util/Collections$SynchronizedSortedSet"), (1, .class_ 266), (0, u "java/util/Collections$SynchronizedNavigableSet"), (1, .class_ 269), (0, u "java/util/Collections$SynchronizedRandomAccessList"), (1, .class_ 272), (0, u "java/util/Collections$SynchronizedList"), (5, .class_ 279), (0, u "java/util/Collections$SynchronizedMap"), (1, .class_ 282), (0, u "java/util/Collections$SynchronizedSortedMap"), (1, .class_ 285), (0, u "java/util/Collections$SynchronizedNavigableMap"), (1, .class_ 288), (0, u "java/util/Collections$CheckedCollection"), (11, .class_ 301), (0, u "java/util/Collections$CheckedQueue"), (3, .class_ 306), (0, u "java/util/Collections$CheckedSet"), (3, .class_ 311), (0, u "java/util/Collections$CheckedSortedSet"), (3, .class_ 316), (0, u "java/util/Collections$CheckedNavigableSet"), (3, .class_ 321), (0, u "java/util/Collections$CheckedRandomAccessList"), (3, .class_ 326), (0, u "java/util/Collections$CheckedList"), (1, .class_ 329), (0, u "java/util/Collections$CheckedMap"), (3, .class_ 334), (0, u "java/util/Collections$CheckedSortedMap"), (3, .class_ 339), (0, u "java/util/Collections$CheckedNavigableMap"), (4, .class_ 346), (1, u "java/util/Collections$EmptyIterator"), (3, .class_ 352), (1, u "java/util/Collections$EmptyListIterator"), (2, .class_ 357), (1, u "java/util/Collections$EmptyEnumeration"), (4, u "EMPTY_SET"), (0, u "Ljava/util/Set;"), (6, u "EMPTY_LIST"), (0, u "Ljava/util/List;"), (2, u "EMPTY_MAP"), (0, u "Ljava/util/Map;"), (4, .class_ 381), (0, u "java/util/Collections$SingletonSet"), (2, .class_ 385), (0, u "java/util/Collections$1"), (1, .class_ 388), (0, u "java/util/Collections$2"), (1, .class_ 391), (0, u "java/util/Collections$SingletonList"), (1, .class_ 394), (0, u "java/util/Collections$SingletonMap"), (22, .class_ 418), (0, u "java/util/Collections$CopiesList"), (4, .class_ 425), (1, u "java/util/Collections$ReverseComparator"), (8, .class_ 435), (0, u "java/util/Collections$ReverseComparator2"), (6, .class_ 443), (0, u "java/util/Collections$3"), (25, .class_ 470), (0, u "java/util/Collections$SetFromMap"), (2, .class_ 474), (0, u "java/util/Collections$SequencedSetFromMap"), (3, .class_ 479), (0, u "java/util/Collections$AsLIFOQueue"), (11, .class_ 492), (0, u "java/util/Collections$EmptySet"), (1, .class_ 495), (0, u "java/util/Collections$EmptyList"), (1, .class_ 498), (0, u "java/util/Collections$EmptyMap"), (1, u "BINARYSEARCH_THRESHOLD"), (0, u "I"), (2, u "REVERSE_THRESHOLD"), (1, u "SHUFFLE_THRESHOLD"), (1, u "FILL_THRESHOLD"), (1, u "ROTATE_THRESHOLD"), (1, u "COPY_THRESHOLD"), (1, u "REPLACEALL_THRESHOLD"), (1, u "INDEXOFSUBLIST_THRESHOLD"), (333, .class_ 851), (0, u "java/util/Collections$CheckedMap$CheckedEntrySet"), (0, .class_ 853), (0, u "java/util/Collections$CheckedMap$CheckedEntrySet$CheckedEntry"), (0, .class_ 855), (0, u "java/util/Collections$CheckedMap$CheckedEntrySet$1"), (0, .class_ 857), (0, u "java/util/Collections$CheckedList$1"), (0, .class_ 859), (0, u "java/util/Collections$CheckedCollection$1"), (0, .class_ 861), (0, u "java/util/Collections$UnmodifiableNavigableMap$EmptyNavigableMap"), (0, .class_ 863), (0, u "java/util/Collections$UnmodifiableMap$UnmodifiableEntrySet"), (0, .class_ 865), (0, u "java/util/Collections$UnmodifiableMap$UnmodifiableEntrySet$UnmodifiableEntry"), (0, .class_ 867), (0, u "java/util/Collections$UnmodifiableMap$UnmodifiableEntrySet$UnmodifiableEntrySetSpliterator"), (0, .class_ 869), (0, u "java/util/Collections$UnmodifiableMap$UnmodifiableEntrySet$1"), (0, .class_ 871), (0, u "java/util/Collections$UnmodifiableList$1"), (0, .class_ 873), (0, u "java/util/Collections$UnmodifiableNavigableSet$EmptyNavigableSet"), (0, .class_ 875), (0, u "java/util/Collections$UnmodifiableCollection$1")] 57

def k26m0 : Method := { name := "<init>", desc := "()V", sig := { parameters := [], returnType := none }, accessFlags := 2, code := none }
/-- java/util/Collections -/
def k26 : Class := { plain "java/util/Collections" (some 0) with
  accessFlags := 33
  interfaces := #[]
  cf := some (fileOf pool26 19 #[.nestMembers #[478, 473, 469, 434, 423, 417, 393, 390, 380, 497, 494, 491, 355, 350, 344, 338, 333, 328, 850, 852, 854, 320, 325, 856, 315, 310, 305, 300, 287, 858, 284, 281, 278, 268, 271, 265, 262, 256, 250, 245, 860, 237, 231, 223, 862, 864, 866, 868, 215, 212, 870, 206, 872, 198, 190, 182, 174, 166, 874, 442, 387, 384]] #[{ accessFlags := 2, nameIndex := 5, descriptorIndex := 6, attributes := #[] }] 33 2 #[] #[{ accessFlags := 26, nameIndex := 500, descriptorIndex := 501, attributes := #[] }, { accessFlags := 26, nameIndex := 504, descriptorIndex := 501, attributes := #[] }, { accessFlags := 26, nameIndex := 506, descriptorIndex := 501, attributes := #[] }, { accessFlags := 26, nameIndex := 508, descriptorIndex := 501, attributes := #[] }, { accessFlags := 26, nameIndex := 510, descriptorIndex := 501, attributes := #[] }, { accessFlags := 26, nameIndex := 512, descriptorIndex := 501, attributes := #[] }, { accessFlags := 26, nameIndex := 514, descriptorIndex := 501, attributes := #[] }, { accessFlags := 26, nameIndex := 516, descriptorIndex := 501, attributes := #[] }, { accessFlags := 10, nameIndex := 84, descriptorIndex := 85, attributes := #[] }, { accessFlags := 25, nameIndex := 362, descriptorIndex := 363, attributes := #[] }, { accessFlags := 25, nameIndex := 370, descriptorIndex := 371, attributes := #[] }, { accessFlags := 25, nameIndex := 374, descriptorIndex := 375, attributes := #[] }])
  fields := #[{ name := "BINARYSEARCH_THRESHOLD", type := .int, accessFlags := 26, slot := 0, constantValue := 0 }, { name := "REVERSE_THRESHOLD", type := .int, accessFlags := 26, slot := 1, constantValue := 0 }, { name := "SHUFFLE_THRESHOLD", type := .int, accessFlags := 26, slot := 2, constantValue := 0 }, { name := "FILL_THRESHOLD", type := .int, accessFlags := 26, slot := 3, constantValue := 0 }, { name := "ROTATE_THRESHOLD", type := .int, accessFlags := 26, slot := 4, constantValue := 0 }, { name := "COPY_THRESHOLD", type := .int, accessFlags := 26, slot := 5, constantValue := 0 }, { name := "REPLACEALL_THRESHOLD", type := .int, accessFlags := 26, slot := 6, constantValue := 0 }, { name := "INDEXOFSUBLIST_THRESHOLD", type := .int, accessFlags := 26, slot := 7, constantValue := 0 }, { name := "r", type := (.object "java/util/Random"), accessFlags := 10, slot := 8, constantValue := 0 }, { name := "EMPTY_SET", type := (.object "java/util/Set"), accessFlags := 25, slot := 9, constantValue := 0 }, { name := "EMPTY_LIST", type := (.object "java/util/List"), accessFlags := 25, slot := 10, constantValue := 0 }, { name := "EMPTY_MAP", type := (.object "java/util/Map"), accessFlags := 25, slot := 11, constantValue := 0 }]
  methods := #[k26m0]
  instanceTypes := #[]
  staticTypes := #[.int, .int, .int, .int, .int, .int, .int, .int, (.object "java/util/Random"), (.object "java/util/Set"), (.object "java/util/List"), (.object "java/util/Map")]
  resolved := Array.replicate 933 none
  statics := some 4 }

def pool27 : Array CpInfo := pool [(8, .class_ 10), (1, u "java/lang/Iterable"), (24, .class_ 36), (0, u "java/lang/Object")] 25

/-- java/lang/Iterable -/
def k27 : Class := { plain "java/lang/Iterable" (some 0) with
  accessFlags := 1537
  interfaces := #[]
  cf := some (fileOf pool27 8 #[] #[] 1537 35 #[] #[])
  fields := #[]
  methods := #[]
  instanceTypes := #[]
  staticTypes := #[]
  resolved := Array.replicate 62 none
  statics := none }

def pool28 : Array CpInfo := pool [(10, .class_ 12), (1, u "java/util/Collection"), (47, .class_ 61), (0, u "java/lang/Object"), (0, .class_ 63), (0, u "java/lang/Iterable")] 51

/-- java/util/Collection -/
def k28 : Class := { plain "java/util/Collection" (some 0) with
  accessFlags := 1537
  interfaces := #[27]
  cf := some (fileOf pool28 10 #[] #[] 1537 60 #[62] #[])
  fields := #[]
  methods := #[]
  instanceTypes := #[]
  staticTypes := #[]
  resolved := Array.replicate 115 none
  statics := none }

def pool29 : Array CpInfo := pool [(2, .class_ 4), (1, u "java/lang/Object"), (0, u "<init>"), (0, u "()V"), (1, .class_ 10), (1, u "java/util/AbstractCollection"), (66, .class_ 78), (0, u "java/util/Collection")] 81

def k29m0 : Method := { name := "<init>", desc := "()V", sig := { parameters := [], returnType := none }, accessFlags := 4, code := none }
/-- java/util/AbstractCollection -/
def k29 : Class := { plain "java/util/AbstractCollection" (some 0) with
  accessFlags := 1057
  interfaces := #[28]
  cf := some (fileOf pool29 8 #[] #[{ accessFlags := 4, nameIndex := 5, descriptorIndex := 6, attributes := #[] }] 1057 2 #[77] #[])
  fields := #[]
  methods := #[k29m0]
  instanceTypes := #[]
  staticTypes := #[]
  resolved := Array.replicate 160 none
  statics := none }

def pool30 : Array CpInfo := pool [(8, .class_ 10), (1, u "java/util/SequencedCollection"), (15, .class_ 27), (0, u "java/lang/Object"), (0, .class_ 29), (0, u "java/util/Collection")] 27

/-- java/util/SequencedCollection -/
def k30 : Class := { plain "java/util/SequencedCollection" (some 0) with
  accessFlags := 1537
  interfaces := #[28]
  cf := some (fileOf pool30 8 #[] #[] 1537 26 #[28] #[])
  fields := #[]
  methods := #[]
  instanceTypes := #[]
  staticTypes := #[]
  resolved := Array.replicate 57 none
  statics := none }

def pool31 : Array CpInfo := pool [(8, .class_ 10), (1, u "java/util/List"), (92, .class_ 104), (0, u "java/lang/Object"), (15, .class_ 121), (0, u "java/util/SequencedCollection")] 129

/-- java/util/List -/
def k31 : Class := { plain "java/util/List" (some 0) with
  accessFlags := 1537
  interfaces := #[30]
  cf := some (fileOf pool31 8 #[] #[] 1537 103 #[120] #[])
  fields := #[]
  methods := #[]
  instanceTypes := #[]
  staticTypes := #[]
  resolved := Array.replicate 251 none
  statics := none }

def pool32 : Array CpInfo := pool [(2, .class_ 4), (1, u "java/util/AbstractCollection"), (0, u "<init>"), (0, u "()V"), (1, .class_ 10), (1, u "java/util/AbstractList"), (0, u "modCount"), (0, u "I"), (64, .class_ 78), (0, u "java/util/AbstractList$Itr"), (3, .class_ 83), (0, u "java/util/AbstractList$ListItr"), (9, .class_ 94), (0, u "java/util/AbstractList$RandomAccessSubList"), (3, .class_ 99), (0, u "java/util/AbstractList$SubList"), (33, .class_ 134), (0, u "java/util/List"), (73, .class_ 209), (0, u "java/util/AbstractList$SubList$1"), (0, .class_ 211), (0, u "java/util/AbstractList$RandomAccessSpliterator")] 6

def k32m0 : Method := { name := "<init>", desc := "()V", sig := { parameters := [], returnType := none }, accessFlags := 4, code := none }
/-- java/util/AbstractList -/
def k32 : Class := { plain "java/util/AbstractList" (some 29) with
  accessFlags := 1057
  interfaces := #[31]
  cf := some (fileOf pool32 8 #[.nestMembers #[93, 98, 208, 210, 82, 77]] #[{ accessFlags := 4, nameIndex := 5, descriptorIndex := 6, attributes := #[] }] 1057 2 #[133] #[{ accessFlags := 132, nameIndex := 11, descriptorIndex := 12, attributes := #[] }])
  fields := #[{ name := "modCount", type := .int, accessFlags := 132, slot := 0, constantValue := 0 }]
  methods := #[k32m0]
  instanceTypes := #[.int]
  staticTypes := #[]
  resolved := Array.replicate 218 none
  statics := none }

def pool33 : Array CpInfo := pool [(1, .class_ 2), (0, u "java/util/RandomAccess"), (0, .class_ 4), (0, u "java/lang/Object")] 2

/-- java/util/RandomAccess -/
def k33 : Class := { plain "java/util/RandomAccess" (some 0) with
  accessFlags := 1537
  interfaces := #[]
  cf := some (fileOf pool33 1 #[] #[] 1537 3 #[] #[])
  fields := #[]
  methods := #[]
  instanceTypes := #[]
  staticTypes := #[]
  resolved := Array.replicate 7 none
  statics := none }

def pool34 : Array CpInfo := pool [(2, .class_ 4), (1, u "java/util/AbstractList"), (0, u "<init>"), (0, u "()V"), (1, .class_ 10), (1, u "java/util/Collections"), (54, .class_ 66), (0, u "java/util/Collections$EmptyList"), (0, .class_ 68), (0, u "java/util/RandomAccess"), (0, .class_ 70), (0, u "java/io/Serializable"), (0, u "serialVersionUID"), (0, u "J")] 77

def k34m0 : Method := { name := "<init>", desc := "()V", sig := { parameters := [], returnType := none }, accessFlags := 2, code := none }
/-- java/util/Collections$EmptyList -/
def k34 : Class := { plain "java/util/Collections$EmptyList" (some 32) with
  accessFlags := 32
  interfaces := #[33, 2]
  cf := some (fileOf pool34 65 #[.nestHost 8] #[{ accessFlags := 2, nameIndex := 5, descriptorIndex := 6, attributes := #[] }] 32 2 #[67, 69] #[{ accessFlags := 26, nameIndex := 71, descriptorIndex := 72, attributes := #[] }])
  fields := #[{ name := "serialVersionUID", type := .long, accessFlags := 26, slot := 0, constantValue := 0 }]
  methods := #[k34m0]
  instanceTypes := #[.int]
  staticTypes := #[.long]
  resolved := Array.replicate 150 none
  statics := none }

def pool35 : Array CpInfo := pool [(2, .class_ 4), (1, u "java/lang/StackTraceElement"), (0, u "<init>"), (2, .class_ 10), (1, u "java/lang/Object"), (0, u "()V"), (2, u "format"), (0, u "B"), (2, u "classLoaderName"), (0, u "Ljava/lang/String;"), (2, u "moduleName"), (2, u "moduleVersion"), (12, u "declaringClass"), (4, u "methodName"), (2, u "fileName"), (2, u "lineNumber"), (0, u "I"), (65, u "declaringClassObject"), (0, u "Ljava/lang/Class;"), (33, .class_ 153), (1, u "java/lang/StackTraceElement$HashedModules"), (17, .class_ 172), (0, u "java/io/Serializable"), (0, u "NATIVE_METHOD"), (1, u "UNKNOWN_SOURCE"), (2, u "BUILTIN_CLASS_LOADER"), (1, u "JDK_NON_UPGRADEABLE_MODULE"), (1, u "serialVersionUID"), (0, u "J")] 51

def k35m0 : Method := { name := "<init>", desc := "()V", sig := { parameters := [], returnType := none }, accessFlags := 2, code := none }
/-- java/lang/StackTraceElement -/
def k35 : Class := { plain "java/lang/StackTraceElement" (some 0) with
  accessFlags := 49
  interfaces := #[2]
  cf := some (fileOf pool35 2 #[.nestMembers #[151]] #[{ accessFlags := 2, nameIndex := 5, descriptorIndex := 11, attributes := #[] }] 49 8 #[171] #[{ accessFlags := 26, nameIndex := 173, descriptorIndex := 19, attributes := #[] }, { accessFlags := 26, nameIndex := 175, descriptorIndex := 19, attributes := #[] }, { accessFlags := 130, nameIndex := 116, descriptorIndex := 117, attributes := #[] }, { accessFlags := 2, nameIndex := 18, descriptorIndex := 19, attributes := #[] }, { accessFlags := 2, nameIndex := 22, descriptorIndex := 19, attributes := #[] }, { accessFlags := 2, nameIndex := 25, descriptorIndex := 19, attributes := #[] }, { accessFlags := 2, nameIndex := 38, descriptorIndex := 19, attributes := #[] }, { accessFlags := 2, nameIndex := 43, descriptorIndex := 19, attributes := #[] }, { accessFlags := 2, nameIndex := 46, descriptorIndex := 19, attributes := #[] }, { accessFlags := 2, nameIndex := 49, descriptorIndex := 50, attributes := #[] }, { accessFlags := 2, nameIndex := 14, descriptorIndex := 15, attributes := #[] }, { accessFlags := 26, nameIndex := 178, descriptorIndex := 15, attributes := #[] }, { accessFlags := 26, nameIndex := 180, descriptorIndex := 15, attributes := #[] }, { accessFlags := 26, nameIndex := 182, descriptorIndex := 183, attributes := #[] }])
  fields := #[{ name := "NATIVE_METHOD", type := (.object "java/lang/String"), accessFlags := 26, slot := 0, constantValue := 0 }, { name := "UNKNOWN_SOURCE", type := (.object "java/lang/String"), accessFlags := 26, slot := 1, constantValue := 0 }, { name := "declaringClassObject", type := (.object "java/lang/Class"), accessFlags := 130, slot := 0, constantValue := 0 }, { name := "classLoaderName", type := (.object "java/lang/String"), accessFlags := 2, slot := 1, constantValue := 0 }, { name := "moduleName", type := (.object "java/lang/String"), accessFlags := 2, slot := 2, constantValue := 0 }, { name := "moduleVersion", type := (.object "java/lang/String"), accessFlags := 2, slot := 3, constantValue := 0 }, { name := "declaringClass", type := (.object "java/lang/String"), accessFlags := 2, slot := 4, constantValue := 0 }, { name := "methodName", type := (.object "java/lang/String"), accessFlags := 2, slot := 5, constantValue := 0 }, { name := "fileName", type := (.object "java/lang/String"), accessFlags := 2, slot := 6, constantValue := 0 }, { name := "lineNumber", type := .int, accessFlags := 2, slot := 7, constantValue := 0 }, { name := "format", type := .byte, accessFlags := 2, slot := 8, constantValue := 0 }, { name := "BUILTIN_CLASS_LOADER", type := .byte, accessFlags := 26, slot := 2, constantValue := 0 }, { name := "JDK_NON_UPGRADEABLE_MODULE", type := .byte, accessFlags := 26, slot := 3, constantValue := 0 }, { name := "serialVersionUID", type := .long, accessFlags := 26, slot := 4, constantValue := 0 }]
  methods := #[k35m0]
  instanceTypes := #[(.object "java/lang/Class"), (.object "java/lang/String"), (.object "java/lang/String"), (.object "java/lang/String"), (.object "java/lang/String"), (.object "java/lang/String"), (.object "java/lang/String"), .int, .byte]
  staticTypes := #[(.object "java/lang/String"), (.object "java/lang/String"), .byte, .byte, .long]
  resolved := Array.replicate 235 none
  statics := none }

/-- the primitive byte -/
def k36 : Class := { plain "byte" none with kind := .primitive 'B', accessFlags := 0x411 }
/-- [B -/
def k37 : Class := { plain "[B" (some 0) with kind := .array 36 .byte, interfaces := #[25, 2], accessFlags := 1041 }

/-- the primitive char -/
def k38 : Class := { plain "char" none with kind := .primitive 'C', accessFlags := 0x411 }
/-- [C -/
def k39 : Class := { plain "[C" (some 0) with kind := .array 38 .char, interfaces := #[25, 2], accessFlags := 1041 }

/-- the primitive int -/
def k40 : Class := { plain "int" none with kind := .primitive 'I', accessFlags := 0x411 }
/-- [I -/
def k41 : Class := { plain "[I" (some 0) with kind := .array 40 .int, interfaces := #[25, 2], accessFlags := 1041 }

/-- the primitive long -/
def k42 : Class := { plain "long" none with kind := .primitive 'J', accessFlags := 0x411 }
/-- [J -/
def k43 : Class := { plain "[J" (some 0) with kind := .array 42 .long, interfaces := #[25, 2], accessFlags := 1041 }

/-- [Ljava/lang/Object; -/
def k44 : Class := { plain "[Ljava/lang/Object;" (some 0) with kind := .array 0 (.object "java/lang/Object"), interfaces := #[25, 2], accessFlags := 1041 }

/-- [Ljava/lang/StackTraceElement; -/
def k45 : Class := { plain "[Ljava/lang/StackTraceElement;" (some 0) with kind := .array 35 (.object "java/lang/StackTraceElement"), interfaces := #[25, 2], accessFlags := 1041 }

/-- [Ljava/lang/Throwable; -/
def k46 : Class := { plain "[Ljava/lang/Throwable;" (some 0) with kind := .array 8 (.object "java/lang/Throwable"), interfaces := #[25, 2], accessFlags := 1041 }

def heap : Heap := #[{ cls := 7, slots := #[.long 0, .int 1, .null, .int 0, .null, .int 0, .int 0], vm := .statics 7 },
  { cls := 8, slots := #[.long 0, .ref 7, .ref 8, .null, .null, .null, .null, .ref 9, .int 1], vm := .statics 8 },
  { cls := 18, slots := #[.int 0, .int 0, .null, .null, .ref 6, .ref 5, .int 0, .int 0, .long 0], vm := .statics 18 },
  { cls := 22, slots := #[.null, .null, .null], vm := .statics 22 },
  { cls := 26, slots := #[.int 0, .int 0, .int 0, .int 0, .int 0, .int 0, .int 0, .int 0, .null, .null, .ref 8, .null], vm := .statics 26 },
  { cls := 37, slots := #[.int 48, .int 49, .int 50, .int 51, .int 52, .int 53, .int 54, .int 55, .int 56, .int 57, .int 48, .int 49, .int 50, .int 51, .int 52, .int 53, .int 54, .int 55, .int 56, .int 57, .int 48, .int 49, .int 50, .int 51, .int 52, .int 53, .int 54, .int 55, .int 56, .int 57, .int 48, .int 49, .int 50, .int 51, .int 52, .int 53, .int 54, .int 55, .int 56, .int 57, .int 48, .int 49, .int 50, .int 51, .int 52, .int 53, .int 54, .int 55, .int 56, .int 57, .int 48, .int 49, .int 50, .int 51, .int 52, .int 53, .int 54, .int 55, .int 56, .int 57, .int 48, .int 49, .int 50, .int 51, .int 52, .int 53, .int 54, .int 55, .int 56, .int 57, .int 48, .int 49, .int 50, .int 51, .int 52, .int 53, .int 54, .int 55, .int 56, .int 57, .int 48, .int 49, .int 50, .int 51, .int 52, .int 53, .int 54, .int 55, .int 56, .int 57, .int 48, .int 49, .int 50, .int 51, .int 52, .int 53, .int 54, .int 55, .int 56, .int 57], vm := .none },
  { cls := 37, slots := #[.int 48, .int 48, .int 48, .int 48, .int 48, .int 48, .int 48, .int 48, .int 48, .int 48, .int 49, .int 49, .int 49, .int 49, .int 49, .int 49, .int 49, .int 49, .int 49, .int 49, .int 50, .int 50, .int 50, .int 50, .int 50, .int 50, .int 50, .int 50, .int 50, .int 50, .int 51, .int 51, .int 51, .int 51, .int 51, .int 51, .int 51, .int 51, .int 51, .int 51, .int 52, .int 52, .int 52, .int 52, .int 52, .int 52, .int 52, .int 52, .int 52, .int 52, .int 53, .int 53, .int 53, .int 53, .int 53, .int 53, .int 53, .int 53, .int 53, .int 53, .int 54, .int 54, .int 54, .int 54, .int 54, .int 54, .int 54, .int 54, .int 54, .int 54, .int 55, .int 55, .int 55, .int 55, .int 55, .int 55, .int 55, .int 55, .int 55, .int 55, .int 56, .int 56, .int 56, .int 56, .int 56, .int 56, .int 56, .int 56, .int 56, .int 56, .int 57, .int 57, .int 57, .int 57, .int 57, .int 57, .int 57, .int 57, .int 57, .int 57], vm := .none },
  { cls := 45, slots := #[], vm := .none },
  { cls := 34, slots := #[.int 0], vm := .none },
  { cls := 46, slots := #[], vm := .none }]
def classes : Array Class := #[k0, k1, k2, k3, k4, k5, k6, k7, k8, k9, k10, k11, k12, k13, k14, k15, k16, k17, k18, k19, k20, k21, k22, k23, k24, k25, k26, k27, k28, k29, k30, k31, k32, k33, k34, k35, k36, k37, k38, k39, k40, k41, k42, k43, k44, k45, k46]
def interned : List (Array UInt16 × Addr) := []
def slotsUsed : Nat := 241
def theMethod : MethodId := ⟨1, 2⟩
def args0 : Array Value := #[.long 5, .int 5, .int 5, .int 5, .int 5, .int 5]
def aboutOver (below : List Frame) : State where
  vm := { classes := classes, interned := interned.toArray }
  heap := heap
  slotsUsed := slotsUsed
  threads := #[{ frames := .invoking theMethod args0 :: below }]
def below0 : List Frame := [.native { method := ⟨0, 0⟩, args := #[] }]
def about1 : State := aboutOver below0
def p0 : Program := .bare "" "" ""
def e0 : Env := launch0.env 0 0 0
theorem w_frames : about1.frames = Frame.invoking theMethod args0 :: below0 := rfl
set_option maxRecDepth 65536 in
theorem w_args : argsFit about1.vm theMethod args0 = true := by decide +kernel
set_option maxRecDepth 65536 in
theorem w_heap : heapFits about1 = true := by decide +kernel
set_option maxRecDepth 65536 in
theorem w_runnable : about1.curStatus? = some .runnable := by decide +kernel
set_option maxRecDepth 65536 in
theorem w_alone : about1.alone = true := by decide +kernel
set_option maxRecDepth 65536 in
theorem w_named : about1.methodNamed? x = some theMethod := by decide +kernel
set_option maxRecDepth 65536 in
theorem w_hears : about1.hears theMethod below0 = true := by decide +kernel
set_option maxRecDepth 65536 in
theorem w_ripe : about1.ripe theMethod args0 below0 = true := by decide +kernel
theorem w_running : about1.status = .running := rfl
set_option maxRecDepth 65536 in
theorem w_room : about1.hasRoom e0.platform room_1 = true :=
  launch0.hasRoom_least _ room_1 (by decide +kernel) (by decide +kernel) (by decide +kernel) (by decide +kernel) (by decide +kernel) (by decide +kernel)
theorem allAtoms_all (ts : List Jvm.Cond) (a : Array Jvm.Value) (st : Jvm.State) : (allAtoms ts).before a st = ts.all (fun c => c.before a st) := by
  induction ts with
  | nil => rfl
  | cons c t ih =>
    show (Jvm.Cond.and c (allAtoms t)).before a st = _
    rw [Jvm.Cond.before_and, ih, List.all_cons]
def words1 : List Jvm.Cond := Jvm.Cond.code x code maxLocals ret :: tables_1
/-- a 'code' word, met by the world's own term for the bytes: nothing is compared byte by byte -/
theorem code_word {y : MethodName} {bytes : ByteArray} {mx : Nat} {rt : Option FieldType} {a : Array Value} {s : State} {m : MethodId} {meth : Method} {c : Code} (h1 : s.methodNamed? y = some m) (h2 : s.vm.method? m = some meth) (h3 : meth.code = some c) (h4 : c.code = bytes)
    (h5 : (c.maxLocals == mx && c.exceptionTable.isEmpty && decide (c.maxStack ≤ mostOperands) && decide (meth.sig.returnType = rt) && !meth.locks && decide (parseMethodDescriptor y.desc = some meth.sig)) = true) : (Jvm.Cond.code y bytes mx rt).before a s = true := by
  simp only [Bool.and_eq_true, beq_iff_eq, Bool.not_eq_true', decide_eq_true_eq] at h5
  obtain ⟨⟨⟨⟨⟨g1, g2⟩, g3⟩, g4⟩, g5⟩, g6⟩ := h5
  simp [Cond.before, Cond.holds, Cond.value, h1, h2, h3, h4, g1, g2, g3, g4, g5, g6]
def isCode : Jvm.Cond → Bool
  | .code _ _ _ _ => true
  | _ => false
theorem all_split {L : List Jvm.Cond} {P : Jvm.Cond → Bool} (h1 : L.all (fun c => isCode c || P c) = true) (h2 : ∀ c ∈ L.filter isCode, P c = true) : L.all P = true := by
  refine List.all_eq_true.mpr fun c hc => ?_
  have h := List.all_eq_true.mp h1 c hc
  rcases Bool.eq_false_or_eq_true (isCode c) with hi | hi
  · exact h2 c (List.mem_filter.mpr ⟨hc, hi⟩)
  · simpa [hi] using h
set_option maxRecDepth 65536 in
theorem w_c0 : (Jvm.Cond.code x code maxLocals ret).before args0 about1 = true := code_word (m := ⟨1, 2⟩) (meth := k1m2) (c := k1c2) (by decide +kernel) rfl rfl rfl (by decide +kernel)
set_option maxRecDepth 65536 in
theorem w_c1 : (Jvm.Cond.code ({ cls := "com/example/nerai/nerai/crawler/MalformedFileExceptionAtLinePinLaw", name := "problemOf", desc := "(ICCC)Ljava/lang/String;" } : Jvm.MethodName) method_2_code (4 : Nat) (Option.some (Jvm.ClassFile.FieldType.object "java/lang/String"))).before args0 about1 = true := code_word (m := ⟨1, 1⟩) (meth := k1m1) (c := k1c1) (by decide +kernel) rfl rfl rfl (by decide +kernel)
set_option maxRecDepth 65536 in
theorem w_c2 : (Jvm.Cond.code ({ cls := "java/lang/String", name := "<init>", desc := "([C)V" } : Jvm.MethodName) jdk_42_method_3_code (2 : Nat) (Option.none : Option Jvm.ClassFile.FieldType)).before args0 about1 = true := code_word (m := ⟨7, 1⟩) (meth := k7m1) (c := k7c1) (by decide +kernel) rfl rfl rfl (by decide +kernel)
set_option maxRecDepth 65536 in
theorem w_c3 : (Jvm.Cond.code ({ cls := "java/lang/String", name := "<init>", desc := "([CIILjava/lang/Void;)V" } : Jvm.MethodName) jdk_42_method_149_code (6 : Nat) (Option.none : Option Jvm.ClassFile.FieldType)).before args0 about1 = true := code_word (m := ⟨7, 7⟩) (meth := k7m7) (c := k7c7) (by decide +kernel) rfl rfl rfl (by decide +kernel)
set_option maxRecDepth 65536 in
theorem w_c4 : (Jvm.Cond.code ({ cls := "java/lang/Object", name := "<init>", desc := "()V" } : Jvm.MethodName) object_method_1_code (1 : Nat) (Option.none : Option Jvm.ClassFile.FieldType)).before args0 about1 = true := code_word (m := ⟨0, 0⟩) (meth := k0m0) (c := k0c0) (by decide +kernel) rfl rfl rfl (by decide +kernel)
set_option maxRecDepth 65536 in
theorem w_c5 : (Jvm.Cond.code ({ cls := "com/example/nerai/nerai/crawler/MalformedFileException", name := "atLine", desc := "(JLjava/lang/String;)Lcom/example/nerai/nerai/crawler/MalformedFileException;" } : Jvm.MethodName) prog_11_method_2_code (3 : Nat) (Option.some (Jvm.ClassFile.FieldType.object "com/example/nerai/nerai/crawler/MalformedFileException"))).before args0 about1 = true := code_word (m := ⟨11, 1⟩) (meth := k11m1) (c := k11c1) (by decide +kernel) rfl rfl rfl (by decide +kernel)
set_option maxRecDepth 65536 in
theorem w_c6 : (Jvm.Cond.code ({ cls := "java/lang/StringBuilder", name := "<init>", desc := "()V" } : Jvm.MethodName) jdk_67_method_1_code (1 : Nat) (Option.none : Option Jvm.ClassFile.FieldType)).before args0 about1 = true := code_word (m := ⟨14, 0⟩) (meth := k14m0) (c := k14c0) (by decide +kernel) rfl rfl rfl (by decide +kernel)
set_option maxRecDepth 65536 in
theorem w_c7 : (Jvm.Cond.code ({ cls := "java/lang/AbstractStringBuilder", name := "<init>", desc := "(I)V" } : Jvm.MethodName) jdk_68_method_2_code (2 : Nat) (Option.none : Option Jvm.ClassFile.FieldType)).before args0 about1 = true := code_word (m := ⟨13, 1⟩) (meth := k13m1) (c := k13c1) (by decide +kernel) rfl rfl rfl (by decide +kernel)
set_option maxRecDepth 65536 in
theorem w_c8 : (Jvm.Cond.code ({ cls := "java/lang/StringBuilder", name := "append", desc := "(Ljava/lang/String;)Ljava/lang/StringBuilder;" } : Jvm.MethodName) jdk_67_method_7_code (2 : Nat) (Option.some (Jvm.ClassFile.FieldType.object "java/lang/StringBuilder"))).before args0 about1 = true := code_word (m := ⟨14, 1⟩) (meth := k14m1) (c := k14c1) (by decide +kernel) rfl rfl rfl (by decide +kernel)
set_option maxRecDepth 65536 in
theorem w_c9 : (Jvm.Cond.code ({ cls := "java/lang/AbstractStringBuilder", name := "append", desc := "(Ljava/lang/String;)Ljava/lang/AbstractStringBuilder;" } : Jvm.MethodName) jdk_68_method_22_code (3 : Nat) (Option.some (Jvm.ClassFile.FieldType.object "java/lang/AbstractStringBuilder"))).before args0 about1 = true := code_word (m := ⟨13, 5⟩) (meth := k13m5) (c := k13c5) (by decide +kernel) rfl rfl rfl (by decide +kernel)
set_option maxRecDepth 65536 in
theorem w_c10 : (Jvm.Cond.code ({ cls := "java/lang/String", name := "length", desc := "()I" } : Jvm.MethodName) jdk_42_method_54_code (1 : Nat) (Option.some Jvm.ClassFile.FieldType.int)).before args0 about1 = true := code_word (m := ⟨7, 3⟩) (meth := k7m3) (c := k7c3) (by decide +kernel) rfl rfl rfl (by decide +kernel)
set_option maxRecDepth 65536 in
theorem w_c11 : (Jvm.Cond.code ({ cls := "java/lang/String", name := "coder", desc := "()B" } : Jvm.MethodName) jdk_42_method_152_code (1 : Nat) (Option.some Jvm.ClassFile.FieldType.byte)).before args0 about1 = true := code_word (m := ⟨7, 10⟩) (meth := k7m10) (c := k7c10) (by decide +kernel) rfl rfl rfl (by decide +kernel)
set_option maxRecDepth 65536 in
theorem w_c12 : (Jvm.Cond.code ({ cls := "java/lang/AbstractStringBuilder", name := "ensureCapacityInternal", desc := "(I)V" } : Jvm.MethodName) jdk_68_method_9_code (3 : Nat) (Option.none : Option Jvm.ClassFile.FieldType)).before args0 about1 = true := code_word (m := ⟨13, 3⟩) (meth := k13m3) (c := k13c3) (by decide +kernel) rfl rfl rfl (by decide +kernel)
set_option maxRecDepth 65536 in
theorem w_c13 : (Jvm.Cond.code ({ cls := "java/lang/AbstractStringBuilder", name := "putStringAt", desc := "(ILjava/lang/String;)V" } : Jvm.MethodName) jdk_68_method_73_code (3 : Nat) (Option.none : Option Jvm.ClassFile.FieldType)).before args0 about1 = true := code_word (m := ⟨13, 10⟩) (meth := k13m10) (c := k13c10) (by decide +kernel) rfl rfl rfl (by decide +kernel)
set_option maxRecDepth 65536 in
theorem w_c14 : (Jvm.Cond.code ({ cls := "java/lang/AbstractStringBuilder", name := "inflateIfNeededFor", desc := "(Ljava/lang/String;)V" } : Jvm.MethodName) jdk_68_method_71_code (2 : Nat) (Option.none : Option Jvm.ClassFile.FieldType)).before args0 about1 = true := code_word (m := ⟨13, 9⟩) (meth := k13m9) (c := k13c9) (by decide +kernel) rfl rfl rfl (by decide +kernel)
set_option maxRecDepth 65536 in
theorem w_c15 : (Jvm.Cond.code ({ cls := "java/lang/String", name := "getBytes", desc := "([BIB)V" } : Jvm.MethodName) jdk_42_method_147_code (4 : Nat) (Option.none : Option Jvm.ClassFile.FieldType)).before args0 about1 = true := code_word (m := ⟨7, 6⟩) (meth := k7m6) (c := k7c6) (by decide +kernel) rfl rfl rfl (by decide +kernel)
set_option maxRecDepth 65536 in
theorem w_c16 : (Jvm.Cond.code ({ cls := "java/lang/StringBuilder", name := "append", desc := "(J)Ljava/lang/StringBuilder;" } : Jvm.MethodName) jdk_67_method_16_code (3 : Nat) (Option.some (Jvm.ClassFile.FieldType.object "java/lang/StringBuilder"))).before args0 about1 = true := code_word (m := ⟨14, 2⟩) (meth := k14m2) (c := k14c2) (by decide +kernel) rfl rfl rfl (by decide +kernel)
set_option maxRecDepth 65536 in
theorem w_c17 : (Jvm.Cond.code ({ cls := "java/lang/AbstractStringBuilder", name := "append", desc := "(J)Ljava/lang/AbstractStringBuilder;" } : Jvm.MethodName) jdk_68_method_33_code (5 : Nat) (Option.some (Jvm.ClassFile.FieldType.object "java/lang/AbstractStringBuilder"))).before args0 about1 = true := code_word (m := ⟨13, 6⟩) (meth := k13m6) (c := k13c6) (by decide +kernel) rfl rfl rfl (by decide +kernel)
set_option maxRecDepth 65536 in
theorem w_c18 : (Jvm.Cond.code ({ cls := "java/lang/Long", name := "stringSize", desc := "(J)I" } : Jvm.MethodName) jdk_35_method_15_code (6 : Nat) (Option.some Jvm.ClassFile.FieldType.int)).before args0 about1 = true := code_word (m := ⟨17, 1⟩) (meth := k17m1) (c := k17c1) (by decide +kernel) rfl rfl rfl (by decide +kernel)
set_option maxRecDepth 65536 in
theorem w_c19 : (Jvm.Cond.code ({ cls := "java/lang/AbstractStringBuilder", name := "isLatin1", desc := "()Z" } : Jvm.MethodName) jdk_68_method_68_code (1 : Nat) (Option.some Jvm.ClassFile.FieldType.boolean)).before args0 about1 = true := code_word (m := ⟨13, 8⟩) (meth := k13m8) (c := k13c8) (by decide +kernel) rfl rfl rfl (by decide +kernel)
set_option maxRecDepth 65536 in
theorem w_c20 : (Jvm.Cond.code ({ cls := "java/lang/Long", name := "getChars", desc := "(JI[B)I" } : Jvm.MethodName) jdk_35_method_14_code (11 : Nat) (Option.some Jvm.ClassFile.FieldType.int)).before args0 about1 = true := code_word (m := ⟨17, 0⟩) (meth := k17m0) (c := k17c0) (by decide +kernel) rfl rfl rfl (by decide +kernel)
set_option maxRecDepth 65536 in
theorem w_c21 : (Jvm.Cond.code ({ cls := "java/lang/StringBuilder", name := "toString", desc := "()Ljava/lang/String;" } : Jvm.MethodName) jdk_67_method_42_code (1 : Nat) (Option.some (Jvm.ClassFile.FieldType.object "java/lang/String"))).before args0 about1 = true := code_word (m := ⟨14, 3⟩) (meth := k14m3) (c := k14c3) (by decide +kernel) rfl rfl rfl (by decide +kernel)
set_option maxRecDepth 65536 in
theorem w_c22 : (Jvm.Cond.code ({ cls := "java/lang/String", name := "<init>", desc := "(Ljava/lang/StringBuilder;)V" } : Jvm.MethodName) jdk_42_method_53_code (2 : Nat) (Option.none : Option Jvm.ClassFile.FieldType)).before args0 about1 = true := code_word (m := ⟨7, 2⟩) (meth := k7m2) (c := k7c2) (by decide +kernel) rfl rfl rfl (by decide +kernel)
set_option maxRecDepth 65536 in
theorem w_c23 : (Jvm.Cond.code ({ cls := "java/lang/String", name := "<init>", desc := "(Ljava/lang/AbstractStringBuilder;Ljava/lang/Void;)V" } : Jvm.MethodName) jdk_42_method_150_code (5 : Nat) (Option.none : Option Jvm.ClassFile.FieldType)).before args0 about1 = true := code_word (m := ⟨7, 8⟩) (meth := k7m8) (c := k7c8) (by decide +kernel) rfl rfl rfl (by decide +kernel)
set_option maxRecDepth 65536 in
theorem w_c24 : (Jvm.Cond.code ({ cls := "java/lang/AbstractStringBuilder", name := "getValue", desc := "()[B" } : Jvm.MethodName) jdk_68_method_64_code (1 : Nat) (Option.some (Jvm.ClassFile.FieldType.array Jvm.ClassFile.FieldType.byte))).before args0 about1 = true := code_word (m := ⟨13, 7⟩) (meth := k13m7) (c := k13c7) (by decide +kernel) rfl rfl rfl (by decide +kernel)
set_option maxRecDepth 65536 in
theorem w_c25 : (Jvm.Cond.code ({ cls := "java/lang/StringBuilder", name := "length", desc := "()I" } : Jvm.MethodName) jdk_67_method_93_code (1 : Nat) (Option.some Jvm.ClassFile.FieldType.int)).before args0 about1 = true := code_word (m := ⟨14, 4⟩) (meth := k14m4) (c := k14c4) (by decide +kernel) rfl rfl rfl (by decide +kernel)
set_option maxRecDepth 65536 in
theorem w_c26 : (Jvm.Cond.code ({ cls := "java/lang/AbstractStringBuilder", name := "length", desc := "()I" } : Jvm.MethodName) jdk_68_method_6_code (1 : Nat) (Option.some Jvm.ClassFile.FieldType.int)).before args0 about1 = true := code_word (m := ⟨13, 2⟩) (meth := k13m2) (c := k13c2) (by decide +kernel) rfl rfl rfl (by decide +kernel)
set_option maxRecDepth 65536 in
theorem w_c27 : (Jvm.Cond.code ({ cls := "java/util/Arrays", name := "copyOfRange", desc := "([BII)[B" } : Jvm.MethodName) jdk_65_method_132_code (3 : Nat) (Option.some (Jvm.ClassFile.FieldType.array Jvm.ClassFile.FieldType.byte))).before args0 about1 = true := code_word (m := ⟨19, 3⟩) (meth := k19m3) (c := k19c3) (by decide +kernel) rfl rfl rfl (by decide +kernel)
set_option maxRecDepth 65536 in
theorem w_c28 : (Jvm.Cond.code ({ cls := "java/util/Arrays", name := "copyOfRangeByte", desc := "([BII)[B" } : Jvm.MethodName) jdk_65_method_133_code (5 : Nat) (Option.some (Jvm.ClassFile.FieldType.array Jvm.ClassFile.FieldType.byte))).before args0 about1 = true := code_word (m := ⟨19, 4⟩) (meth := k19m4) (c := k19c4) (by decide +kernel) rfl rfl rfl (by decide +kernel)
set_option maxRecDepth 65536 in
theorem w_c29 : (Jvm.Cond.code ({ cls := "java/util/Arrays", name := "checkLength", desc := "(II)V" } : Jvm.MethodName) jdk_65_method_131_code (2 : Nat) (Option.none : Option Jvm.ClassFile.FieldType)).before args0 about1 = true := code_word (m := ⟨19, 2⟩) (meth := k19m2) (c := k19c2) (by decide +kernel) rfl rfl rfl (by decide +kernel)
set_option maxRecDepth 65536 in
theorem w_c30 : (Jvm.Cond.code ({ cls := "java/lang/Math", name := "min", desc := "(II)I" } : Jvm.MethodName) jdk_29_method_69_code (2 : Nat) (Option.some Jvm.ClassFile.FieldType.int)).before args0 about1 = true := code_word (m := ⟨20, 2⟩) (meth := k20m2) (c := k20c2) (by decide +kernel) rfl rfl rfl (by decide +kernel)
set_option maxRecDepth 65536 in
theorem w_c31 : (Jvm.Cond.code ({ cls := "com/example/nerai/nerai/crawler/MalformedFileException", name := "<init>", desc := "(Ljava/lang/String;)V" } : Jvm.MethodName) prog_11_method_1_code (2 : Nat) (Option.none : Option Jvm.ClassFile.FieldType)).before args0 about1 = true := code_word (m := ⟨11, 0⟩) (meth := k11m0) (c := k11c0) (by decide +kernel) rfl rfl rfl (by decide +kernel)
set_option maxRecDepth 65536 in
theorem w_c32 : (Jvm.Cond.code ({ cls := "java/io/IOException", name := "<init>", desc := "(Ljava/lang/String;)V" } : Jvm.MethodName) jdk_131_method_2_code (2 : Nat) (Option.none : Option Jvm.ClassFile.FieldType)).before args0 about1 = true := code_word (m := ⟨10, 1⟩) (meth := k10m1) (c := k10c1) (by decide +kernel) rfl rfl rfl (by decide +kernel)
set_option maxRecDepth 65536 in
theorem w_c33 : (Jvm.Cond.code ({ cls := "java/lang/Exception", name := "<init>", desc := "(Ljava/lang/String;)V" } : Jvm.MethodName) jdk_59_method_2_code (2 : Nat) (Option.none : Option Jvm.ClassFile.FieldType)).before args0 about1 = true := code_word (m := ⟨9, 1⟩) (meth := k9m1) (c := k9c1) (by decide +kernel) rfl rfl rfl (by decide +kernel)
set_option maxRecDepth 65536 in
theorem w_c34 : (Jvm.Cond.code ({ cls := "java/lang/Throwable", name := "<init>", desc := "(Ljava/lang/String;)V" } : Jvm.MethodName) jdk_78_method_2_code (2 : Nat) (Option.none : Option Jvm.ClassFile.FieldType)).before args0 about1 = true := code_word (m := ⟨8, 1⟩) (meth := k8m1) (c := k8c1) (by decide +kernel) rfl rfl rfl (by decide +kernel)
set_option maxRecDepth 65536 in
theorem w_c35 : (Jvm.Cond.code ({ cls := "java/lang/Throwable", name := "<init>", desc := "()V" } : Jvm.MethodName) jdk_78_method_1_code (1 : Nat) (Option.none : Option Jvm.ClassFile.FieldType)).before args0 about1 = true := code_word (m := ⟨8, 0⟩) (meth := k8m0) (c := k8c0) (by decide +kernel) rfl rfl rfl (by decide +kernel)
set_option maxRecDepth 65536 in
theorem w_c36 : (Jvm.Cond.code ({ cls := "java/lang/Throwable", name := "getMessage", desc := "()Ljava/lang/String;" } : Jvm.MethodName) jdk_78_method_6_code (1 : Nat) (Option.some (Jvm.ClassFile.FieldType.object "java/lang/String"))).before args0 about1 = true := code_word (m := ⟨8, 2⟩) (meth := k8m2) (c := k8c2) (by decide +kernel) rfl rfl rfl (by decide +kernel)
set_option maxRecDepth 65536 in
theorem w_c37 : (Jvm.Cond.code ({ cls := "java/lang/String", name := "charAt", desc := "(I)C" } : Jvm.MethodName) jdk_42_method_56_code (2 : Nat) (Option.some Jvm.ClassFile.FieldType.char)).before args0 about1 = true := code_word (m := ⟨7, 4⟩) (meth := k7m4) (c := k7c4) (by decide +kernel) rfl rfl rfl (by decide +kernel)
set_option maxRecDepth 65536 in
theorem w_c38 : (Jvm.Cond.code ({ cls := "java/lang/String", name := "isLatin1", desc := "()Z" } : Jvm.MethodName) jdk_42_method_154_code (1 : Nat) (Option.some Jvm.ClassFile.FieldType.boolean)).before args0 about1 = true := code_word (m := ⟨7, 11⟩) (meth := k7m11) (c := k7c11) (by decide +kernel) rfl rfl rfl (by decide +kernel)
set_option maxRecDepth 65536 in
theorem w_c39 : (Jvm.Cond.code ({ cls := "java/lang/StringLatin1", name := "charAt", desc := "([BI)C" } : Jvm.MethodName) jdk_43_method_2_code (2 : Nat) (Option.some Jvm.ClassFile.FieldType.char)).before args0 about1 = true := code_word (m := ⟨21, 1⟩) (meth := k21m1) (c := k21c1) (by decide +kernel) rfl rfl rfl (by decide +kernel)
set_option maxRecDepth 65536 in
theorem w_c40 : (Jvm.Cond.code ({ cls := "java/lang/String", name := "checkIndex", desc := "(II)V" } : Jvm.MethodName) jdk_42_method_155_code (2 : Nat) (Option.none : Option Jvm.ClassFile.FieldType)).before args0 about1 = true := code_word (m := ⟨7, 12⟩) (meth := k7m12) (c := k7c12) (by decide +kernel) rfl rfl rfl (by decide +kernel)
set_option maxRecDepth 65536 in
theorem w_c41 : (Jvm.Cond.code ({ cls := "jdk/internal/util/Preconditions", name := "checkIndex", desc := "(IILjava/util/function/BiFunction;)I" } : Jvm.MethodName) jdk_41_method_11_code (3 : Nat) (Option.some Jvm.ClassFile.FieldType.int)).before args0 about1 = true := code_word (m := ⟨22, 1⟩) (meth := k22m1) (c := k22c1) (by decide +kernel) rfl rfl rfl (by decide +kernel)
set_option maxRecDepth 65536 in
theorem w_c42 : (Jvm.Cond.code ({ cls := "java/lang/StringUTF16", name := "compress", desc := "([CII)[B" } : Jvm.MethodName) jdk_52_method_16_code (6 : Nat) (Option.some (Jvm.ClassFile.FieldType.array Jvm.ClassFile.FieldType.byte))).before args0 about1 = true := code_word (m := ⟨23, 2⟩) (meth := k23m2) (c := k23c2) (by decide +kernel) rfl rfl rfl (by decide +kernel)
set_option maxRecDepth 65536 in
theorem w_c43 : (Jvm.Cond.code ({ cls := "java/lang/StringUTF16", name := "compress", desc := "([CI[BII)I" } : Jvm.MethodName) jdk_52_method_21_code (7 : Nat) (Option.some Jvm.ClassFile.FieldType.int)).before args0 about1 = true := code_word (m := ⟨23, 3⟩) (meth := k23m3) (c := k23c3) (by decide +kernel) rfl rfl rfl (by decide +kernel)
set_option maxRecDepth 65536 in
theorem w_c44 : (Jvm.Cond.code ({ cls := "java/lang/StringUTF16", name := "coderFromArrayLen", desc := "([BI)B" } : Jvm.MethodName) jdk_52_method_15_code (2 : Nat) (Option.some Jvm.ClassFile.FieldType.byte)).before args0 about1 = true := code_word (m := ⟨23, 1⟩) (meth := k23m1) (c := k23c1) (by decide +kernel) rfl rfl rfl (by decide +kernel)
set_option maxRecDepth 65536 in
theorem w_c45 : (Jvm.Cond.code ({ cls := "java/lang/String", name := "valueOf", desc := "(C)Ljava/lang/String;" } : Jvm.MethodName) jdk_42_method_139_code (1 : Nat) (Option.some (Jvm.ClassFile.FieldType.object "java/lang/String"))).before args0 about1 = true := code_word (m := ⟨7, 5⟩) (meth := k7m5) (c := k7c5) (by decide +kernel) rfl rfl rfl (by decide +kernel)
set_option maxRecDepth 65536 in
theorem w_c46 : (Jvm.Cond.code ({ cls := "java/lang/StringLatin1", name := "canEncode", desc := "(C)Z" } : Jvm.MethodName) jdk_43_method_3_code (1 : Nat) (Option.some Jvm.ClassFile.FieldType.boolean)).before args0 about1 = true := code_word (m := ⟨21, 2⟩) (meth := k21m2) (c := k21c2) (by decide +kernel) rfl rfl rfl (by decide +kernel)
set_option maxRecDepth 65536 in
theorem w_c47 : (Jvm.Cond.code ({ cls := "java/lang/StringLatin1", name := "toBytes", desc := "(C)[B" } : Jvm.MethodName) jdk_43_method_46_code (1 : Nat) (Option.some (Jvm.ClassFile.FieldType.array Jvm.ClassFile.FieldType.byte))).before args0 about1 = true := code_word (m := ⟨21, 3⟩) (meth := k21m3) (c := k21c3) (by decide +kernel) rfl rfl rfl (by decide +kernel)
set_option maxRecDepth 65536 in
theorem w_c48 : (Jvm.Cond.code ({ cls := "java/lang/String", name := "<init>", desc := "([BB)V" } : Jvm.MethodName) jdk_42_method_151_code (3 : Nat) (Option.none : Option Jvm.ClassFile.FieldType)).before args0 about1 = true := code_word (m := ⟨7, 9⟩) (meth := k7m9) (c := k7c9) (by decide +kernel) rfl rfl rfl (by decide +kernel)
set_option maxRecDepth 65536 in
theorem w_c49 : (Jvm.Cond.code ({ cls := "java/lang/AbstractStringBuilder", name := "newCapacity", desc := "(I)I" } : Jvm.MethodName) jdk_68_method_10_code (6 : Nat) (Option.some Jvm.ClassFile.FieldType.int)).before args0 about1 = true := code_word (m := ⟨13, 4⟩) (meth := k13m4) (c := k13c4) (by decide +kernel) rfl rfl rfl (by decide +kernel)
set_option maxRecDepth 65536 in
theorem w_c50 : (Jvm.Cond.code ({ cls := "jdk/internal/util/ArraysSupport", name := "newLength", desc := "(III)I" } : Jvm.MethodName) jdk_48_method_27_code (4 : Nat) (Option.some Jvm.ClassFile.FieldType.int)).before args0 about1 = true := code_word (m := ⟨24, 1⟩) (meth := k24m1) (c := k24c1) (by decide +kernel) rfl rfl rfl (by decide +kernel)
set_option maxRecDepth 65536 in
theorem w_c51 : (Jvm.Cond.code ({ cls := "java/lang/Math", name := "max", desc := "(II)I" } : Jvm.MethodName) jdk_29_method_65_code (2 : Nat) (Option.some Jvm.ClassFile.FieldType.int)).before args0 about1 = true := code_word (m := ⟨20, 1⟩) (meth := k20m1) (c := k20c1) (by decide +kernel) rfl rfl rfl (by decide +kernel)
set_option maxRecDepth 65536 in
theorem w_c52 : (Jvm.Cond.code ({ cls := "java/util/Arrays", name := "copyOf", desc := "([BI)[B" } : Jvm.MethodName) jdk_65_method_121_code (3 : Nat) (Option.some (Jvm.ClassFile.FieldType.array Jvm.ClassFile.FieldType.byte))).before args0 about1 = true := code_word (m := ⟨19, 1⟩) (meth := k19m1) (c := k19c1) (by decide +kernel) rfl rfl rfl (by decide +kernel)
def codes1 : List Jvm.Cond := [Jvm.Cond.code x code maxLocals ret, Jvm.Cond.code ({ cls := "com/example/nerai/nerai/crawler/MalformedFileExceptionAtLinePinLaw", name := "problemOf", desc := "(ICCC)Ljava/lang/String;" } : Jvm.MethodName) method_2_code (4 : Nat) (Option.some (Jvm.ClassFile.FieldType.object "java/lang/String")), Jvm.Cond.code ({ cls := "java/lang/String", name := "<init>", desc := "([C)V" } : Jvm.MethodName) jdk_42_method_3_code (2 : Nat) (Option.none : Option Jvm.ClassFile.FieldType), Jvm.Cond.code ({ cls := "java/lang/String", name := "<init>", desc := "([CIILjava/lang/Void;)V" } : Jvm.MethodName) jdk_42_method_149_code (6 : Nat) (Option.none : Option Jvm.ClassFile.FieldType), Jvm.Cond.code ({ cls := "java/lang/Object", name := "<init>", desc := "()V" } : Jvm.MethodName) object_method_1_code (1 : Nat) (Option.none : Option Jvm.ClassFile.FieldType), Jvm.Cond.code ({ cls := "com/example/nerai/nerai/crawler/MalformedFileException", name := "atLine", desc := "(JLjava/lang/String;)Lcom/example/nerai/nerai/crawler/MalformedFileException;" } : Jvm.MethodName) prog_11_method_2_code (3 : Nat) (Option.some (Jvm.ClassFile.FieldType.object "com/example/nerai/nerai/crawler/MalformedFileException")), Jvm.Cond.code ({ cls := "java/lang/StringBuilder", name := "<init>", desc := "()V" } : Jvm.MethodName) jdk_67_method_1_code (1 : Nat) (Option.none : Option Jvm.ClassFile.FieldType), Jvm.Cond.code ({ cls := "java/lang/AbstractStringBuilder", name := "<init>", desc := "(I)V" } : Jvm.MethodName) jdk_68_method_2_code (2 : Nat) (Option.none : Option Jvm.ClassFile.FieldType), Jvm.Cond.code ({ cls := "java/lang/StringBuilder", name := "append", desc := "(Ljava/lang/String;)Ljava/lang/StringBuilder;" } : Jvm.MethodName) jdk_67_method_7_code (2 : Nat) (Option.some (Jvm.ClassFile.FieldType.object "java/lang/StringBuilder")), Jvm.Cond.code ({ cls := "java/lang/AbstractStringBuilder", name := "append", desc := "(Ljava/lang/String;)Ljava/lang/AbstractStringBuilder;" } : Jvm.MethodName) jdk_68_method_22_code (3 : Nat) (Option.some (Jvm.ClassFile.FieldType.object "java/lang/AbstractStringBuilder")), Jvm.Cond.code ({ cls := "java/lang/String", name := "length", desc := "()I" } : Jvm.MethodName) jdk_42_method_54_code (1 : Nat) (Option.some Jvm.ClassFile.FieldType.int), Jvm.Cond.code ({ cls := "java/lang/String", name := "coder", desc := "()B" } : Jvm.MethodName) jdk_42_method_152_code (1 : Nat) (Option.some Jvm.ClassFile.FieldType.byte), Jvm.Cond.code ({ cls := "java/lang/AbstractStringBuilder", name := "ensureCapacityInternal", desc := "(I)V" } : Jvm.MethodName) jdk_68_method_9_code (3 : Nat) (Option.none : Option Jvm.ClassFile.FieldType), Jvm.Cond.code ({ cls := "java/lang/AbstractStringBuilder", name := "putStringAt", desc := "(ILjava/lang/String;)V" } : Jvm.MethodName) jdk_68_method_73_code (3 : Nat) (Option.none : Option Jvm.ClassFile.FieldType), Jvm.Cond.code ({ cls := "java/lang/AbstractStringBuilder", name := "inflateIfNeededFor", desc := "(Ljava/lang/String;)V" } : Jvm.MethodName) jdk_68_method_71_code (2 : Nat) (Option.none : Option Jvm.ClassFile.FieldType), Jvm.Cond.code ({ cls := "java/lang/String", name := "getBytes", desc := "([BIB)V" } : Jvm.MethodName) jdk_42_method_147_code (4 : Nat) (Option.none : Option Jvm.ClassFile.FieldType), Jvm.Cond.code ({ cls := "java/lang/StringBuilder", name := "append", desc := "(J)Ljava/lang/StringBuilder;" } : Jvm.MethodName) jdk_67_method_16_code (3 : Nat) (Option.some (Jvm.ClassFile.FieldType.object "java/lang/StringBuilder")), Jvm.Cond.code ({ cls := "java/lang/AbstractStringBuilder", name := "append", desc := "(J)Ljava/lang/AbstractStringBuilder;" } : Jvm.MethodName) jdk_68_method_33_code (5 : Nat) (Option.some (Jvm.ClassFile.FieldType.object "java/lang/AbstractStringBuilder")), Jvm.Cond.code ({ cls := "java/lang/Long", name := "stringSize", desc := "(J)I" } : Jvm.MethodName) jdk_35_method_15_code (6 : Nat) (Option.some Jvm.ClassFile.FieldType.int), Jvm.Cond.code ({ cls := "java/lang/AbstractStringBuilder", name := "isLatin1", desc := "()Z" } : Jvm.MethodName) jdk_68_method_68_code (1 : Nat) (Option.some Jvm.ClassFile.FieldType.boolean), Jvm.Cond.code ({ cls := "java/lang/Long", name := "getChars", desc := "(JI[B)I" } : Jvm.MethodName) jdk_35_method_14_code (11 : Nat) (Option.some Jvm.ClassFile.FieldType.int), Jvm.Cond.code ({ cls := "java/lang/StringBuilder", name := "toString", desc := "()Ljava/lang/String;" } : Jvm.MethodName) jdk_67_method_42_code (1 : Nat) (Option.some (Jvm.ClassFile.FieldType.object "java/lang/String")), Jvm.Cond.code ({ cls := "java/lang/String", name := "<init>", desc := "(Ljava/lang/StringBuilder;)V" } : Jvm.MethodName) jdk_42_method_53_code (2 : Nat) (Option.none : Option Jvm.ClassFile.FieldType), Jvm.Cond.code ({ cls := "java/lang/String", name := "<init>", desc := "(Ljava/lang/AbstractStringBuilder;Ljava/lang/Void;)V" } : Jvm.MethodName) jdk_42_method_150_code (5 : Nat) (Option.none : Option Jvm.ClassFile.FieldType), Jvm.Cond.code ({ cls := "java/lang/AbstractStringBuilder", name := "getValue", desc := "()[B" } : Jvm.MethodName) jdk_68_method_64_code (1 : Nat) (Option.some (Jvm.ClassFile.FieldType.array Jvm.ClassFile.FieldType.byte)), Jvm.Cond.code ({ cls := "java/lang/StringBuilder", name := "length", desc := "()I" } : Jvm.MethodName) jdk_67_method_93_code (1 : Nat) (Option.some Jvm.ClassFile.FieldType.int), Jvm.Cond.code ({ cls := "java/lang/AbstractStringBuilder", name := "length", desc := "()I" } : Jvm.MethodName) jdk_68_method_6_code (1 : Nat) (Option.some Jvm.ClassFile.FieldType.int), Jvm.Cond.code ({ cls := "java/util/Arrays", name := "copyOfRange", desc := "([BII)[B" } : Jvm.MethodName) jdk_65_method_132_code (3 : Nat) (Option.some (Jvm.ClassFile.FieldType.array Jvm.ClassFile.FieldType.byte)), Jvm.Cond.code ({ cls := "java/util/Arrays", name := "copyOfRangeByte", desc := "([BII)[B" } : Jvm.MethodName) jdk_65_method_133_code (5 : Nat) (Option.some (Jvm.ClassFile.FieldType.array Jvm.ClassFile.FieldType.byte)), Jvm.Cond.code ({ cls := "java/util/Arrays", name := "checkLength", desc := "(II)V" } : Jvm.MethodName) jdk_65_method_131_code (2 : Nat) (Option.none : Option Jvm.ClassFile.FieldType), Jvm.Cond.code ({ cls := "java/lang/Math", name := "min", desc := "(II)I" } : Jvm.MethodName) jdk_29_method_69_code (2 : Nat) (Option.some Jvm.ClassFile.FieldType.int), Jvm.Cond.code ({ cls := "com/example/nerai/nerai/crawler/MalformedFileException", name := "<init>", desc := "(Ljava/lang/String;)V" } : Jvm.MethodName) prog_11_method_1_code (2 : Nat) (Option.none : Option Jvm.ClassFile.FieldType), Jvm.Cond.code ({ cls := "java/io/IOException", name := "<init>", desc := "(Ljava/lang/String;)V" } : Jvm.MethodName) jdk_131_method_2_code (2 : Nat) (Option.none : Option Jvm.ClassFile.FieldType), Jvm.Cond.code ({ cls := "java/lang/Exception", name := "<init>", desc := "(Ljava/lang/String;)V" } : Jvm.MethodName) jdk_59_method_2_code (2 : Nat) (Option.none : Option Jvm.ClassFile.FieldType), Jvm.Cond.code ({ cls := "java/lang/Throwable", name := "<init>", desc := "(Ljava/lang/String;)V" } : Jvm.MethodName) jdk_78_method_2_code (2 : Nat) (Option.none : Option Jvm.ClassFile.FieldType), Jvm.Cond.code ({ cls := "java/lang/Throwable", name := "<init>", desc := "()V" } : Jvm.MethodName) jdk_78_method_1_code (1 : Nat) (Option.none : Option Jvm.ClassFile.FieldType), Jvm.Cond.code ({ cls := "java/lang/Throwable", name := "getMessage", desc := "()Ljava/lang/String;" } : Jvm.MethodName) jdk_78_method_6_code (1 : Nat) (Option.some (Jvm.ClassFile.FieldType.object "java/lang/String")), Jvm.Cond.code ({ cls := "java/lang/String", name := "charAt", desc := "(I)C" } : Jvm.MethodName) jdk_42_method_56_code (2 : Nat) (Option.some Jvm.ClassFile.FieldType.char), Jvm.Cond.code ({ cls := "java/lang/String", name := "isLatin1", desc := "()Z" } : Jvm.MethodName) jdk_42_method_154_code (1 : Nat) (Option.some Jvm.ClassFile.FieldType.boolean), Jvm.Cond.code ({ cls := "java/lang/StringLatin1", name := "charAt", desc := "([BI)C" } : Jvm.MethodName) jdk_43_method_2_code (2 : Nat) (Option.some Jvm.ClassFile.FieldType.char), Jvm.Cond.code ({ cls := "java/lang/String", name := "checkIndex", desc := "(II)V" } : Jvm.MethodName) jdk_42_method_155_code (2 : Nat) (Option.none : Option Jvm.ClassFile.FieldType), Jvm.Cond.code ({ cls := "jdk/internal/util/Preconditions", name := "checkIndex", desc := "(IILjava/util/function/BiFunction;)I" } : Jvm.MethodName) jdk_41_method_11_code (3 : Nat) (Option.some Jvm.ClassFile.FieldType.int), Jvm.Cond.code ({ cls := "java/lang/StringUTF16", name := "compress", desc := "([CII)[B" } : Jvm.MethodName) jdk_52_method_16_code (6 : Nat) (Option.some (Jvm.ClassFile.FieldType.array Jvm.ClassFile.FieldType.byte)), Jvm.Cond.code ({ cls := "java/lang/StringUTF16", name := "compress", desc := "([CI[BII)I" } : Jvm.MethodName) jdk_52_method_21_code (7 : Nat) (Option.some Jvm.ClassFile.FieldType.int), Jvm.Cond.code ({ cls := "java/lang/StringUTF16", name := "coderFromArrayLen", desc := "([BI)B" } : Jvm.MethodName) jdk_52_method_15_code (2 : Nat) (Option.some Jvm.ClassFile.FieldType.byte), Jvm.Cond.code ({ cls := "java/lang/String", name := "valueOf", desc := "(C)Ljava/lang/String;" } : Jvm.MethodName) jdk_42_method_139_code (1 : Nat) (Option.some (Jvm.ClassFile.FieldType.object "java/lang/String")), Jvm.Cond.code ({ cls := "java/lang/StringLatin1", name := "canEncode", desc := "(C)Z" } : Jvm.MethodName) jdk_43_method_3_code (1 : Nat) (Option.some Jvm.ClassFile.FieldType.boolean), Jvm.Cond.code ({ cls := "java/lang/StringLatin1", name := "toBytes", desc := "(C)[B" } : Jvm.MethodName) jdk_43_method_46_code (1 : Nat) (Option.some (Jvm.ClassFile.FieldType.array Jvm.ClassFile.FieldType.byte)), Jvm.Cond.code ({ cls := "java/lang/String", name := "<init>", desc := "([BB)V" } : Jvm.MethodName) jdk_42_method_151_code (3 : Nat) (Option.none : Option Jvm.ClassFile.FieldType), Jvm.Cond.code ({ cls := "java/lang/AbstractStringBuilder", name := "newCapacity", desc := "(I)I" } : Jvm.MethodName) jdk_68_method_10_code (6 : Nat) (Option.some Jvm.ClassFile.FieldType.int), Jvm.Cond.code ({ cls := "jdk/internal/util/ArraysSupport", name := "newLength", desc := "(III)I" } : Jvm.MethodName) jdk_48_method_27_code (4 : Nat) (Option.some Jvm.ClassFile.FieldType.int), Jvm.Cond.code ({ cls := "java/lang/Math", name := "max", desc := "(II)I" } : Jvm.MethodName) jdk_29_method_65_code (2 : Nat) (Option.some Jvm.ClassFile.FieldType.int), Jvm.Cond.code ({ cls := "java/util/Arrays", name := "copyOf", desc := "([BI)[B" } : Jvm.MethodName) jdk_65_method_121_code (3 : Nat) (Option.some (Jvm.ClassFile.FieldType.array Jvm.ClassFile.FieldType.byte))]
set_option maxRecDepth 65536 in
theorem codes_eq : words1.filter isCode = codes1 := rfl
theorem w_codes : ∀ c ∈ words1.filter isCode, c.before args0 about1 = true := by
  rw [codes_eq]
  intro c hc
  simp only [codes1, List.mem_cons, List.not_mem_nil, or_false] at hc
  rcases hc with rfl | rfl | rfl | rfl | rfl | rfl | rfl | rfl | rfl | rfl | rfl | rfl | rfl | rfl | rfl | rfl | rfl | rfl | rfl | rfl | rfl | rfl | rfl | rfl | rfl | rfl | rfl | rfl | rfl | rfl | rfl | rfl | rfl | rfl | rfl | rfl | rfl | rfl | rfl | rfl | rfl | rfl | rfl | rfl | rfl | rfl | rfl | rfl | rfl | rfl | rfl | rfl | rfl
  · exact w_c0
  · exact w_c1
  · exact w_c2
  · exact w_c3
  · exact w_c4
  · exact w_c5
  · exact w_c6
  · exact w_c7
  · exact w_c8
  · exact w_c9
  · exact w_c10
  · exact w_c11
  · exact w_c12
  · exact w_c13
  · exact w_c14
  · exact w_c15
  · exact w_c16
  · exact w_c17
  · exact w_c18
  · exact w_c19
  · exact w_c20
  · exact w_c21
  · exact w_c22
  · exact w_c23
  · exact w_c24
  · exact w_c25
  · exact w_c26
  · exact w_c27
  · exact w_c28
  · exact w_c29
  · exact w_c30
  · exact w_c31
  · exact w_c32
  · exact w_c33
  · exact w_c34
  · exact w_c35
  · exact w_c36
  · exact w_c37
  · exact w_c38
  · exact w_c39
  · exact w_c40
  · exact w_c41
  · exact w_c42
  · exact w_c43
  · exact w_c44
  · exact w_c45
  · exact w_c46
  · exact w_c47
  · exact w_c48
  · exact w_c49
  · exact w_c50
  · exact w_c51
  · exact w_c52
set_option maxRecDepth 65536 in
theorem w_t1 : (words1.take 24).all (fun c => isCode c || c.before args0 about1) = true := by decide +kernel
set_option maxRecDepth 65536 in
theorem w_t2 : ((words1.drop 24).take 24).all (fun c => isCode c || c.before args0 about1) = true := by decide +kernel
set_option maxRecDepth 65536 in
theorem w_t3 : (((words1.drop 24).drop 24).take 24).all (fun c => isCode c || c.before args0 about1) = true := by decide +kernel
set_option maxRecDepth 65536 in
theorem w_t4 : ((((words1.drop 24).drop 24).drop 24).take 24).all (fun c => isCode c || c.before args0 about1) = true := by decide +kernel
set_option maxRecDepth 65536 in
theorem w_t5 : (((((words1.drop 24).drop 24).drop 24).drop 24).take 24).all (fun c => isCode c || c.before args0 about1) = true := by decide +kernel
set_option maxRecDepth 65536 in
theorem w_t6 : ((((((words1.drop 24).drop 24).drop 24).drop 24).drop 24).take 24).all (fun c => isCode c || c.before args0 about1) = true := by decide +kernel
set_option maxRecDepth 65536 in
theorem w_t7 : (((((((words1.drop 24).drop 24).drop 24).drop 24).drop 24).drop 24).take 24).all (fun c => isCode c || c.before args0 about1) = true := by decide +kernel
set_option maxRecDepth 65536 in
theorem w_t8 : ((((((((words1.drop 24).drop 24).drop 24).drop 24).drop 24).drop 24).drop 24).take 24).all (fun c => isCode c || c.before args0 about1) = true := by decide +kernel
set_option maxRecDepth 65536 in
theorem w_t9 : (((((((((words1.drop 24).drop 24).drop 24).drop 24).drop 24).drop 24).drop 24).drop 24).take 24).all (fun c => isCode c || c.before args0 about1) = true := by decide +kernel
set_option maxRecDepth 65536 in
theorem w_t10 : ((((((((((words1.drop 24).drop 24).drop 24).drop 24).drop 24).drop 24).drop 24).drop 24).drop 24).take 24).all (fun c => isCode c || c.before args0 about1) = true := by decide +kernel
set_option maxRecDepth 65536 in
theorem w_t11 : (((((((((((words1.drop 24).drop 24).drop 24).drop 24).drop 24).drop 24).drop 24).drop 24).drop 24).drop 24).take 24).all (fun c => isCode c || c.before args0 about1) = true := by decide +kernel
set_option maxRecDepth 65536 in
theorem w_t12 : ((((((((((((words1.drop 24).drop 24).drop 24).drop 24).drop 24).drop 24).drop 24).drop 24).drop 24).drop 24).drop 24).take 24).all (fun c => isCode c || c.before args0 about1) = true := by decide +kernel
set_option maxRecDepth 65536 in
theorem w_t13 : (((((((((((((words1.drop 24).drop 24).drop 24).drop 24).drop 24).drop 24).drop 24).drop 24).drop 24).drop 24).drop 24).drop 24).take 24).all (fun c => isCode c || c.before args0 about1) = true := by decide +kernel
set_option maxRecDepth 65536 in
theorem w_t14 : (((((((((((((words1.drop 24).drop 24).drop 24).drop 24).drop 24).drop 24).drop 24).drop 24).drop 24).drop 24).drop 24).drop 24).drop 24).all (fun c => isCode c || c.before args0 about1) = true := by decide +kernel
theorem w_tables : (allAtoms (Jvm.Cond.code x code maxLocals ret :: tables_1)).before args0 about1 = true := by
  rw [allAtoms_all]
  show words1.all (fun c => c.before args0 about1) = true
  refine all_split ?_ w_codes
  rw [← List.take_append_drop 24 words1, List.all_append, w_t1, ← List.take_append_drop 24 (words1.drop 24), List.all_append, w_t2, ← List.take_append_drop 24 ((words1.drop 24).drop 24), List.all_append, w_t3, ← List.take_append_drop 24 (((words1.drop 24).drop 24).drop 24), List.all_append, w_t4, ← List.take_append_drop 24 ((((words1.drop 24).drop 24).drop 24).drop 24), List.all_append, w_t5, ← List.take_append_drop 24 (((((words1.drop 24).drop 24).drop 24).drop 24).drop 24), List.all_append, w_t6, ← List.take_append_drop 24 ((((((words1.drop 24).drop 24).drop 24).drop 24).drop 24).drop 24), List.all_append, w_t7, ← List.take_append_drop 24 (((((((words1.drop 24).drop 24).drop 24).drop 24).drop 24).drop 24).drop 24), List.all_append, w_t8, ← List.take_append_drop 24 ((((((((words1.drop 24).drop 24).drop 24).drop 24).drop 24).drop 24).drop 24).drop 24), List.all_append, w_t9, ← List.take_append_drop 24 (((((((((words1.drop 24).drop 24).drop 24).drop 24).drop 24).drop 24).drop 24).drop 24).drop 24), List.all_append, w_t10, ← List.take_append_drop 24 ((((((((((words1.drop 24).drop 24).drop 24).drop 24).drop 24).drop 24).drop 24).drop 24).drop 24).drop 24), List.all_append, w_t11, ← List.take_append_drop 24 (((((((((((words1.drop 24).drop 24).drop 24).drop 24).drop 24).drop 24).drop 24).drop 24).drop 24).drop 24).drop 24), List.all_append, w_t12, ← List.take_append_drop 24 ((((((((((((words1.drop 24).drop 24).drop 24).drop 24).drop 24).drop 24).drop 24).drop 24).drop 24).drop 24).drop 24).drop 24), List.all_append, w_t13, w_t14]
  rfl
set_option maxRecDepth 65536 in
theorem w_rest : rest_1_c.before args0 about1 = true := by decide +kernel
set_option maxRecDepth 65536 in
theorem w_case : (Jvm.Cond.and given_1 narrow_1).before args0 about1 = true := by decide +kernel
set_option maxRecDepth 65536 in
theorem w_consts : constsHeld consts_1 about1 := Jvm.Lit.constsHeldB_iff.mp (by decide +kernel)
theorem w_applies : (headSpec (Jvm.Cond.code x code maxLocals ret :: tables_1) room_1).applies x e0.platform about1 = true :=
  (Spec.applies_iff w_frames).mpr ⟨w_running, w_runnable, w_alone, w_named, w_hears, w_ripe, w_room, w_tables⟩
theorem atStart : AtStart classFile x code maxLocals ret World_1 tables_1 room_1 Calls_1 rest_1 Pre_1 launch0 p0 e0 about1 theMethod args0 below0 :=
  ⟨lists_1, trivial, launch0.admits_env _ _ _, launch0.least_env, fairChoices_fair.cas, fairChoices_fair.clock, w_frames, w_args, w_heap, w_applies, ⟨(by decide +kernel : framesKnown about1 = true), ⟨(by decide +kernel : tablesKnown about1 = true), ⟨w_consts, trivial⟩⟩⟩, w_rest, w_case⟩
end start1
theorem witness_1 : WitnessClaimed_1 := ⟨start1.p0, start1.e0, start1.about1, start1.theMethod, start1.args0, start1.below0, start1.atStart⟩
end Jvm.Pilot.@@N@@
