import JvmDerived
import JvmDerived.Pilot.@@N@@Statement
import JvmDerived.Pilot.@@N@@Code
set_option linter.unusedVariables false
set_option linter.unusedSimpArgs false

namespace Jvm.OwnK
open Sem ClassFile Op Lib Bundle Jvm.Free Jvm.Stand Jvm.LawKit Jvm.RoadKit
/-- is nothing ever interned? -/
def NW : Bool := false
/-- the tables since the start; where nothing is ever interned, the narrow word too -/
def Sn (EL : List (String × Nat)) (s : State) (vm0 : Vm) (k0 : Nat) : Prop := s.Since vm0 k0 ∧ (NW = true → s.WarmedH vm0)
/-- the end of an invocation, likewise -/
def RE (EL : List (String × Nat)) (s : State) (o : Outcome) (t : State) (L : List Loc) (k n : Nat) : Prop := ReturnedEndW s o t L k n ∧ (NW = true → s.WarmedH t.vm)
/-- where a walk stands: its Stand over the start with the tables at hand, what is known of the tables and the heap, and the fixed facts of the body -/
def Wk (p : Program) (l : Launch) (e : Env) (R : Room) (s : State) (m : MethodId) (args : Array Value) (below : List Frame) (meth : Method) (c : Code) (Z : State) (a0 : Array Value) (EL : List (String × Nat)) (n0 : Nat) (own nm : String) (bytes : ByteArray) (maxL : Nat) (ret : Option FieldType) (T : State) (vm0 : Vm) (h : Heap) (cells slots : Nat) : Prop :=
  (∃ (k0 : Nat) (locs : List Loc), Stand p l e R (s.setVm vm0) m args below meth c T locs cells slots ∧ Sn EL s vm0 k0 ∧ k0 ≤ h.size ∧ Fr n0 locs) ∧
  (T.heap = h ∧ Z.Warmed39 vm0 ∧ vm0.findClass own = some m.cls ∧ CHr Z EL s.vm s.heap vm0 h) ∧
  (Old Z n0 s.heap ∧ p.tables.exec = Jvm.exec ∧ c.code = bytes ∧ c.maxLocals = maxL ∧ meth.sig.returnType = ret ∧ meth.locks = false ∧ meth.name = nm ∧ EW Z a0 EL)
/-- from U the invocation comes to its end, returns, and Q holds there -/
def Go (p : Program) (e : Env) (below : List Frame) (s : State) (R : Room) (Z : State) (EL : List (String × Nat)) (n0 : Nat) (Q : Option Value → Vm → Heap → Prop) (U : State) : Prop :=
  ∃ s₂ o, Steps p.tables e below U s₂ ∧ s₂.status = .running ∧ Ended s₂ below o ∧ ∃ v L, o = .returned v ∧ Q v s₂.vm s₂.heap ∧ Fr n0 L ∧ CHr Z EL s.vm s.heap s₂.vm s₂.heap ∧ RE EL s o s₂ L R.cells R.slots
/-- a callee's contract -/
def Con (l : Launch) (Z : State) (EL : List (String × Nat)) (n0 : Nat) (y : MethodName) (bytes : ByteArray) (maxL : Nat) (ret : Option FieldType) (ws : List Cond) (rm : Room) (as' : Array Value) (h : Heap) (S : List Addr) (Q : Option Value → Vm → Heap → Prop) : Prop :=
  MetFree l y (head1 (Cond.code y bytes maxL ret :: ws) rm) (fun a U => a = as' ∧ Z.Warmed39 U.vm ∧ U.heap = h ∧ CHv Z EL U.vm h ∧ ∀ x ∈ S, Safe Z EL U.vm h x) (fun _ _ _ _ _ => True)
    (fun _ U o U' => ∃ v L, o = .returned v ∧ Q v U'.vm U'.heap ∧ Fr n0 L ∧ CHr Z EL U.vm U.heap U'.vm U'.heap ∧ RE EL U o U' L rm.cells rm.slots)
/-- a cell that this law made and that no booked literal is -/
def Mine (Z : State) (EL : List (String × Nat)) (n0 : Nat) (vm : Vm) (h : Heap) (a : Addr) : Prop := n0 ≤ a ∧ a < h.size ∧ Safe Z EL vm h a
section
variable {p : Program} {l : Launch} {e : Env} {R : Room} {s : State} {m : MethodId} {args : Array Value} {below : List Frame} {meth : Method} {c : Code} {Z : State} {a0 : Array Value} {EL : List (String × Nat)} {n0 : Nat} {own nm : String} {bytes : ByteArray} {maxL : Nat} {ret : Option FieldType} {T : State} {vm0 : Vm} {h : Heap} {cells slots : Nat} {Q : Option Value → Vm → Heap → Prop} {pc pc' : Nat} {Ls : Array Slot} {st : List Value}
theorem bl {a b : Nat} (h : Nat.ble a b = true) : a ≤ b := Nat.le_of_ble_eq_true h
theorem le {a b : Nat} (h : a = b) : a ≤ b := Nat.le_of_eq h
theorem bt {a b : Nat} (h : Nat.ble (a + 1) b = true) : a < b := Nat.le_of_ble_eq_true h
theorem nlt {a : Addr} {n : Nat} (h : a < n) : @LT.lt Nat instLTNat a n := h
theorem Mine.mv {vm vm' : Vm} {h h' : Heap} {a : Addr} (M : Mine Z EL n0 vm h a) (C : CHr Z EL vm h vm' h') : Mine Z EL n0 vm' h' a := ⟨M.1, Nat.lt_of_lt_of_le M.2.1 C.2.1, C.safe M.2.1 M.2.2⟩
theorem Go.up {U U' : State} (f : ∀ t, Steps p.tables e below U' t → Steps p.tables e below U t) (g : Go p e below s R Z EL n0 Q U') : Go p e below s R Z EL n0 Q U := by
  obtain ⟨s2, o, a, b⟩ := g
  exact ⟨s2, o, f _ a, b⟩
theorem Go.imp {U : State} {Q' : Option Value → Vm → Heap → Prop} (f : ∀ v vm h, Q v vm h → Q' v vm h) (g : Go p e below s R Z EL n0 Q U) : Go p e below s R Z EL n0 Q' U := by
  obtain ⟨s2, o, a, b, d, v, L, h1, h2, h3⟩ := g
  exact ⟨s2, o, a, b, d, v, L, h1, f _ _ _ h2, h3⟩
theorem Wk.here (W : Wk p l e R s m args below meth c Z a0 EL n0 own nm bytes maxL ret T vm0 h cells slots) : At T m c below := by obtain ⟨⟨_, _, X, _⟩, _⟩ := W; exact X.here
theorem Wk.ex (W : Wk p l e R s m args below meth c Z a0 EL n0 own nm bytes maxL ret T vm0 h cells slots) : p.tables.exec = Jvm.exec := W.2.2.2.1
theorem Wk.dec (W : Wk p l e R s m args below meth c Z a0 EL n0 own nm bytes maxL ret T vm0 h cells slots) {r : Except DecodeError (Instr × Nat)} (hd : decode bytes pc = r) : decode c.code pc = r := hb W.2.2.2.2.1 hd
theorem Wk.eh (W : Wk p l e R s m args below meth c Z a0 EL n0 own nm bytes maxL ret T vm0 h cells slots) : T.heap = h := W.2.1.1
theorem Wk.hz (W : Wk p l e R s m args below meth c Z a0 EL n0 own nm bytes maxL ret T vm0 h cells slots) : Z.Warmed39 vm0 := W.2.1.2.1
theorem Wk.hown (W : Wk p l e R s m args below meth c Z a0 EL n0 own nm bytes maxL ret T vm0 h cells slots) : vm0.findClass own = some m.cls := W.2.1.2.2.1
theorem Wk.chr (W : Wk p l e R s m args below meth c Z a0 EL n0 own nm bytes maxL ret T vm0 h cells slots) : CHr Z EL s.vm s.heap vm0 h := W.2.1.2.2.2
theorem Wk.chv (W : Wk p l e R s m args below meth c Z a0 EL n0 own nm bytes maxL ret T vm0 h cells slots) : CHv Z EL vm0 h := W.2.1.2.2.2.1
theorem Wk.el (W : Wk p l e R s m args below meth c Z a0 EL n0 own nm bytes maxL ret T vm0 h cells slots) : EW Z a0 EL := W.2.2.2.2.2.2.2.2.2
theorem Wk.ml (W : Wk p l e R s m args below meth c Z a0 EL n0 own nm bytes maxL ret T vm0 h cells slots) : c.maxLocals = maxL := W.2.2.2.2.2.1
theorem Wk.rt (W : Wk p l e R s m args below meth c Z a0 EL n0 own nm bytes maxL ret T vm0 h cells slots) : meth.sig.returnType = ret := W.2.2.2.2.2.2.1
theorem Wk.lk (W : Wk p l e R s m args below meth c Z a0 EL n0 own nm bytes maxL ret T vm0 h cells slots) : meth.locks = false := W.2.2.2.2.2.2.2.1
theorem Wk.name (W : Wk p l e R s m args below meth c Z a0 EL n0 own nm bytes maxL ret T vm0 h cells slots) : meth.name = nm := W.2.2.2.2.2.2.2.2.1
theorem Wk.grew (W : Wk p l e R s m args below meth c Z a0 EL n0 own nm bytes maxL ret T vm0 h cells slots) : s.heap.size ≤ h.size := W.chr.2.1
theorem Wk.old (W : Wk p l e R s m args below meth c Z a0 EL n0 own nm bytes maxL ret T vm0 h cells slots) : Old Z n0 h := by
  obtain ⟨⟨k0, locs, X, -, -, N⟩, ⟨rfl, -⟩, ⟨O, -⟩⟩ := W
  refine ⟨O.1, Nat.le_trans O.2.1 X.same.2.1, fun b cl hcl => ?_⟩
  have hs := O.2.2 b cl hcl
  obtain ⟨c', h1, h2, -, h4⟩ := X.same.2.2.2.2.2 b cl hs
  have hb := (Array.getElem?_eq_some_iff.mp hcl).1
  rw [O.1] at hb
  have hsl : c'.slots = cl.slots := Array.ext_getElem? fun i => h4 i fun hm => absurd (N _ hm) (Nat.not_le.mpr hb)
  have hcc : c' = cl := by rw [h2, hsl]
  rw [← hcc]; exact h1
theorem Wk.n0le (W : Wk p l e R s m args below meth c Z a0 EL n0 own nm bytes maxL ret T vm0 h cells slots) : n0 ≤ h.size := W.old.1 ▸ W.old.2.1
theorem Wk.more (W : Wk p l e R s m args below meth c Z a0 EL n0 own nm bytes maxL ret T vm0 h cells slots) {cells' slots' : Nat} (h1 : cells ≤ cells') (h2 : slots ≤ slots') : Wk p l e R s m args below meth c Z a0 EL n0 own nm bytes maxL ret T vm0 h cells' slots' := by
  obtain ⟨⟨k0, locs, X, r⟩, q⟩ := W
  exact ⟨⟨k0, locs, X.more h1 h2, r⟩, q⟩

theorem s_aload_n (W : Wk p l e R s m args below meth c Z a0 EL n0 own nm bytes maxL ret T vm0 h cells slots) {k : Fin 4} {v : Value} (hd : decode bytes pc = .ok (.aload_n k, 1)) (hl : Ls[k.val]? = some (.val v)) (hv : v.isRef = true) (hp : pc + 1 = pc') (k : Go p e below s R Z EL n0 Q (T.setTop (mkF m pc' Ls (v :: st)))) : Go p e below s R Z EL n0 Q (T.setTop (mkF m pc Ls st)) := by
  subst hp; exact Go.up (fun t q => Jvm.Free.XS.aloadN W.here W.ex rfl (W.dec hd) hl hv q) k
theorem s_aload (W : Wk p l e R s m args below meth c Z a0 EL n0 own nm bytes maxL ret T vm0 h cells slots) {k : Nat} {v : Value} (hd : decode bytes pc = .ok (.aload k, 2)) (hl : Ls[k]? = some (.val v)) (hv : v.isRef = true) (hp : pc + 2 = pc') (k : Go p e below s R Z EL n0 Q (T.setTop (mkF m pc' Ls (v :: st)))) : Go p e below s R Z EL n0 Q (T.setTop (mkF m pc Ls st)) := by
  subst hp; exact Go.up (fun t q => Jvm.Free.XS.aload W.here W.ex rfl (W.dec hd) hl hv q) k
theorem s_iload_n (W : Wk p l e R s m args below meth c Z a0 EL n0 own nm bytes maxL ret T vm0 h cells slots) {k : Fin 4} {v : Int32} (hd : decode bytes pc = .ok (.iload_n k, 1)) (hl : Ls[k.val]? = some (.val (.int v))) (hp : pc + 1 = pc') (k : Go p e below s R Z EL n0 Q (T.setTop (mkF m pc' Ls (.int v :: st)))) : Go p e below s R Z EL n0 Q (T.setTop (mkF m pc Ls st)) := by
  subst hp; exact Go.up (fun t q => Jvm.Free.XS.iloadN W.here W.ex rfl (W.dec hd) hl q) k
theorem s_iload (W : Wk p l e R s m args below meth c Z a0 EL n0 own nm bytes maxL ret T vm0 h cells slots) {k : Nat} {v : Int32} (hd : decode bytes pc = .ok (.iload k, 2)) (hl : Ls[k]? = some (.val (.int v))) (hp : pc + 2 = pc') (k : Go p e below s R Z EL n0 Q (T.setTop (mkF m pc' Ls (.int v :: st)))) : Go p e below s R Z EL n0 Q (T.setTop (mkF m pc Ls st)) := by
  subst hp; exact Go.up (fun t q => Jvm.Free.XS.iload W.here W.ex rfl (W.dec hd) hl q) k
theorem s_lload_n (W : Wk p l e R s m args below meth c Z a0 EL n0 own nm bytes maxL ret T vm0 h cells slots) {k : Fin 4} {v : Int64} (hd : decode bytes pc = .ok (.lload_n k, 1)) (hl : Ls[k.val]? = some (.val (.long v))) (hp : pc + 1 = pc') (k : Go p e below s R Z EL n0 Q (T.setTop (mkF m pc' Ls (.long v :: st)))) : Go p e below s R Z EL n0 Q (T.setTop (mkF m pc Ls st)) := by
  subst hp; exact Go.up (fun t q => Jvm.Free.XT.lloadN W.here W.ex rfl (W.dec hd) hl q) k
theorem s_lload (W : Wk p l e R s m args below meth c Z a0 EL n0 own nm bytes maxL ret T vm0 h cells slots) {k : Nat} {v : Int64} (hd : decode bytes pc = .ok (.lload k, 2)) (hl : Ls[k]? = some (.val (.long v))) (hp : pc + 2 = pc') (k : Go p e below s R Z EL n0 Q (T.setTop (mkF m pc' Ls (.long v :: st)))) : Go p e below s R Z EL n0 Q (T.setTop (mkF m pc Ls st)) := by
  subst hp; exact Go.up (fun t q => Jvm.Free.XT.lload W.here W.ex rfl (W.dec hd) hl q) k
theorem s_iconst (W : Wk p l e R s m args below meth c Z a0 EL n0 own nm bytes maxL ret T vm0 h cells slots) {i : Int} (v : Int32) (hd : decode bytes pc = .ok (.iconst i, 1)) (hv : Int32.ofInt i = v) (hp : pc + 1 = pc') (k : Go p e below s R Z EL n0 Q (T.setTop (mkF m pc' Ls (.int v :: st)))) : Go p e below s R Z EL n0 Q (T.setTop (mkF m pc Ls st)) := by
  subst hp; exact Go.up (fun t q => Jvm.Free.XT.iconstV W.here W.ex rfl v (W.dec hd) hv q) k
theorem s_bipush (W : Wk p l e R s m args below meth c Z a0 EL n0 own nm bytes maxL ret T vm0 h cells slots) {i : Int} (v : Int32) (hd : decode bytes pc = .ok (.bipush i, 2)) (hv : (Int8.ofInt i).toInt32 = v) (hp : pc + 2 = pc') (k : Go p e below s R Z EL n0 Q (T.setTop (mkF m pc' Ls (.int v :: st)))) : Go p e below s R Z EL n0 Q (T.setTop (mkF m pc Ls st)) := by
  subst hp; exact Go.up (fun t q => Jvm.Free.XT.bipushV W.here W.ex rfl v (W.dec hd) hv q) k
theorem s_sipush (W : Wk p l e R s m args below meth c Z a0 EL n0 own nm bytes maxL ret T vm0 h cells slots) {i : Int} (v : Int32) (hd : decode bytes pc = .ok (.sipush i, 3)) (hv : (Int16.ofInt i).toInt32 = v) (hp : pc + 3 = pc') (k : Go p e below s R Z EL n0 Q (T.setTop (mkF m pc' Ls (.int v :: st)))) : Go p e below s R Z EL n0 Q (T.setTop (mkF m pc Ls st)) := by
  subst hp; exact Go.up (fun t q => Jvm.Free.XT.sipushV W.here W.ex rfl v (W.dec hd) hv q) k
theorem s_lconst (W : Wk p l e R s m args below meth c Z a0 EL n0 own nm bytes maxL ret T vm0 h cells slots) {k : Fin 2} (v : Int64) (hd : decode bytes pc = .ok (.lconst k, 1)) (hv : Int64.ofNat k = v) (hp : pc + 1 = pc') (k : Go p e below s R Z EL n0 Q (T.setTop (mkF m pc' Ls (.long v :: st)))) : Go p e below s R Z EL n0 Q (T.setTop (mkF m pc Ls st)) := by
  subst hp; exact Go.up (fun t q => Jvm.Free.XT.lconstV W.here W.ex rfl v (W.dec hd) hv q) k
theorem s_aconst_null (W : Wk p l e R s m args below meth c Z a0 EL n0 own nm bytes maxL ret T vm0 h cells slots)  (hd : decode bytes pc = .ok (.aconst_null, 1))  (hp : pc + 1 = pc') (k : Go p e below s R Z EL n0 Q (T.setTop (mkF m pc' Ls (.null :: st)))) : Go p e below s R Z EL n0 Q (T.setTop (mkF m pc Ls st)) := by
  subst hp; exact Go.up (fun t q => Jvm.Free.XS.aconstNull W.here W.ex rfl (W.dec hd)  q) k
theorem s_iadd (W : Wk p l e R s m args below meth c Z a0 EL n0 own nm bytes maxL ret T vm0 h cells slots) {x y : Int32} (hd : decode bytes pc = .ok (.iadd, 1))  (hp : pc + 1 = pc') (k : Go p e below s R Z EL n0 Q (T.setTop (mkF m pc' Ls (.int (x + y) :: st)))) : Go p e below s R Z EL n0 Q (T.setTop (mkF m pc Ls (.int y :: .int x :: st))) := by
  subst hp; exact Go.up (fun t q => Jvm.Free.XS.iadd W.here W.ex rfl (W.dec hd) rfl q) k
theorem s_isub (W : Wk p l e R s m args below meth c Z a0 EL n0 own nm bytes maxL ret T vm0 h cells slots) {x y : Int32} (hd : decode bytes pc = .ok (.isub, 1))  (hp : pc + 1 = pc') (k : Go p e below s R Z EL n0 Q (T.setTop (mkF m pc' Ls (.int (x - y) :: st)))) : Go p e below s R Z EL n0 Q (T.setTop (mkF m pc Ls (.int y :: .int x :: st))) := by
  subst hp; exact Go.up (fun t q => Jvm.Free.XS.isub W.here W.ex rfl (W.dec hd) rfl q) k
theorem s_iand (W : Wk p l e R s m args below meth c Z a0 EL n0 own nm bytes maxL ret T vm0 h cells slots) {x y : Int32} (hd : decode bytes pc = .ok (.iand, 1))  (hp : pc + 1 = pc') (k : Go p e below s R Z EL n0 Q (T.setTop (mkF m pc' Ls (.int (x &&& y) :: st)))) : Go p e below s R Z EL n0 Q (T.setTop (mkF m pc Ls (.int y :: .int x :: st))) := by
  subst hp; exact Go.up (fun t q => Jvm.Free.XS.iand W.here W.ex rfl (W.dec hd) rfl q) k
theorem s_imul (W : Wk p l e R s m args below meth c Z a0 EL n0 own nm bytes maxL ret T vm0 h cells slots) {x y : Int32} (hd : decode bytes pc = .ok (.imul, 1))  (hp : pc + 1 = pc') (k : Go p e below s R Z EL n0 Q (T.setTop (mkF m pc' Ls (.int (x * y) :: st)))) : Go p e below s R Z EL n0 Q (T.setTop (mkF m pc Ls (.int y :: .int x :: st))) := by
  subst hp; exact Go.up (fun t q => Jvm.Free.XS.imul W.here W.ex rfl (W.dec hd) rfl q) k
theorem s_ixor (W : Wk p l e R s m args below meth c Z a0 EL n0 own nm bytes maxL ret T vm0 h cells slots) {x y : Int32} (hd : decode bytes pc = .ok (.ixor, 1))  (hp : pc + 1 = pc') (k : Go p e below s R Z EL n0 Q (T.setTop (mkF m pc' Ls (.int (x ^^^ y) :: st)))) : Go p e below s R Z EL n0 Q (T.setTop (mkF m pc Ls (.int y :: .int x :: st))) := by
  subst hp; exact Go.up (fun t q => Jvm.Free.XT.ixor W.here W.ex rfl (W.dec hd) rfl q) k
theorem s_ior (W : Wk p l e R s m args below meth c Z a0 EL n0 own nm bytes maxL ret T vm0 h cells slots) {x y : Int32} (hd : decode bytes pc = .ok (.ior, 1))  (hp : pc + 1 = pc') (k : Go p e below s R Z EL n0 Q (T.setTop (mkF m pc' Ls (.int (x ||| y) :: st)))) : Go p e below s R Z EL n0 Q (T.setTop (mkF m pc Ls (.int y :: .int x :: st))) := by
  subst hp; exact Go.up (fun t q => Jvm.Free.XT.ior W.here W.ex rfl (W.dec hd) rfl q) k
theorem s_ishl (W : Wk p l e R s m args below meth c Z a0 EL n0 own nm bytes maxL ret T vm0 h cells slots) {x y : Int32} (hd : decode bytes pc = .ok (.ishl, 1))  (hp : pc + 1 = pc') (k : Go p e below s R Z EL n0 Q (T.setTop (mkF m pc' Ls (.int (x <<< (y &&& 31)) :: st)))) : Go p e below s R Z EL n0 Q (T.setTop (mkF m pc Ls (.int y :: .int x :: st))) := by
  subst hp; exact Go.up (fun t q => Jvm.Free.XT.ishl W.here W.ex rfl (W.dec hd) rfl q) k
theorem s_ishr (W : Wk p l e R s m args below meth c Z a0 EL n0 own nm bytes maxL ret T vm0 h cells slots) {x y : Int32} (hd : decode bytes pc = .ok (.ishr, 1))  (hp : pc + 1 = pc') (k : Go p e below s R Z EL n0 Q (T.setTop (mkF m pc' Ls (.int (x >>> (y &&& 31)) :: st)))) : Go p e below s R Z EL n0 Q (T.setTop (mkF m pc Ls (.int y :: .int x :: st))) := by
  subst hp; exact Go.up (fun t q => Jvm.Free.XT.ishr W.here W.ex rfl (W.dec hd) rfl q) k
theorem s_iushr (W : Wk p l e R s m args below meth c Z a0 EL n0 own nm bytes maxL ret T vm0 h cells slots) {x y : Int32} (hd : decode bytes pc = .ok (.iushr, 1))  (hp : pc + 1 = pc') (k : Go p e below s R Z EL n0 Q (T.setTop (mkF m pc' Ls (.int (Jvm.Free.XT.ushr x y) :: st)))) : Go p e below s R Z EL n0 Q (T.setTop (mkF m pc Ls (.int y :: .int x :: st))) := by
  subst hp; exact Go.up (fun t q => Jvm.Free.XT.iushr W.here W.ex rfl (W.dec hd) rfl q) k
theorem s_ladd (W : Wk p l e R s m args below meth c Z a0 EL n0 own nm bytes maxL ret T vm0 h cells slots) {x y : Int64} (hd : decode bytes pc = .ok (.ladd, 1))  (hp : pc + 1 = pc') (k : Go p e below s R Z EL n0 Q (T.setTop (mkF m pc' Ls (.long (x + y) :: st)))) : Go p e below s R Z EL n0 Q (T.setTop (mkF m pc Ls (.long y :: .long x :: st))) := by
  subst hp; exact Go.up (fun t q => Jvm.Free.XT.ladd W.here W.ex rfl (W.dec hd) rfl q) k
theorem s_lsub (W : Wk p l e R s m args below meth c Z a0 EL n0 own nm bytes maxL ret T vm0 h cells slots) {x y : Int64} (hd : decode bytes pc = .ok (.lsub, 1))  (hp : pc + 1 = pc') (k : Go p e below s R Z EL n0 Q (T.setTop (mkF m pc' Ls (.long (x - y) :: st)))) : Go p e below s R Z EL n0 Q (T.setTop (mkF m pc Ls (.long y :: .long x :: st))) := by
  subst hp; exact Go.up (fun t q => Jvm.Free.XT.lsub W.here W.ex rfl (W.dec hd) rfl q) k
theorem s_lmul (W : Wk p l e R s m args below meth c Z a0 EL n0 own nm bytes maxL ret T vm0 h cells slots) {x y : Int64} (hd : decode bytes pc = .ok (.lmul, 1))  (hp : pc + 1 = pc') (k : Go p e below s R Z EL n0 Q (T.setTop (mkF m pc' Ls (.long (x * y) :: st)))) : Go p e below s R Z EL n0 Q (T.setTop (mkF m pc Ls (.long y :: .long x :: st))) := by
  subst hp; exact Go.up (fun t q => Jvm.Free.XT.lmul W.here W.ex rfl (W.dec hd) rfl q) k
theorem s_land (W : Wk p l e R s m args below meth c Z a0 EL n0 own nm bytes maxL ret T vm0 h cells slots) {x y : Int64} (hd : decode bytes pc = .ok (.land, 1))  (hp : pc + 1 = pc') (k : Go p e below s R Z EL n0 Q (T.setTop (mkF m pc' Ls (.long (x &&& y) :: st)))) : Go p e below s R Z EL n0 Q (T.setTop (mkF m pc Ls (.long y :: .long x :: st))) := by
  subst hp; exact Go.up (fun t q => Jvm.Free.XT.land W.here W.ex rfl (W.dec hd) rfl q) k
theorem s_lor (W : Wk p l e R s m args below meth c Z a0 EL n0 own nm bytes maxL ret T vm0 h cells slots) {x y : Int64} (hd : decode bytes pc = .ok (.lor, 1))  (hp : pc + 1 = pc') (k : Go p e below s R Z EL n0 Q (T.setTop (mkF m pc' Ls (.long (x ||| y) :: st)))) : Go p e below s R Z EL n0 Q (T.setTop (mkF m pc Ls (.long y :: .long x :: st))) := by
  subst hp; exact Go.up (fun t q => Jvm.Free.XT.lor W.here W.ex rfl (W.dec hd) rfl q) k
theorem s_lxor (W : Wk p l e R s m args below meth c Z a0 EL n0 own nm bytes maxL ret T vm0 h cells slots) {x y : Int64} (hd : decode bytes pc = .ok (.lxor, 1))  (hp : pc + 1 = pc') (k : Go p e below s R Z EL n0 Q (T.setTop (mkF m pc' Ls (.long (x ^^^ y) :: st)))) : Go p e below s R Z EL n0 Q (T.setTop (mkF m pc Ls (.long y :: .long x :: st))) := by
  subst hp; exact Go.up (fun t q => Jvm.Free.XT.lxor W.here W.ex rfl (W.dec hd) rfl q) k
theorem s_lshl (W : Wk p l e R s m args below meth c Z a0 EL n0 own nm bytes maxL ret T vm0 h cells slots) {x : Int64} {y : Int32} (hd : decode bytes pc = .ok (.lshl, 1))  (hp : pc + 1 = pc') (k : Go p e below s R Z EL n0 Q (T.setTop (mkF m pc' Ls (.long (x <<< (y.toInt64 &&& 63)) :: st)))) : Go p e below s R Z EL n0 Q (T.setTop (mkF m pc Ls (.int y :: .long x :: st))) := by
  subst hp; exact Go.up (fun t q => Jvm.Free.XT.lshl W.here W.ex rfl (W.dec hd) rfl q) k
theorem s_lshr (W : Wk p l e R s m args below meth c Z a0 EL n0 own nm bytes maxL ret T vm0 h cells slots) {x : Int64} {y : Int32} (hd : decode bytes pc = .ok (.lshr, 1))  (hp : pc + 1 = pc') (k : Go p e below s R Z EL n0 Q (T.setTop (mkF m pc' Ls (.long (x >>> (y.toInt64 &&& 63)) :: st)))) : Go p e below s R Z EL n0 Q (T.setTop (mkF m pc Ls (.int y :: .long x :: st))) := by
  subst hp; exact Go.up (fun t q => Jvm.Free.XT.lshr W.here W.ex rfl (W.dec hd) rfl q) k
theorem s_lushr (W : Wk p l e R s m args below meth c Z a0 EL n0 own nm bytes maxL ret T vm0 h cells slots) {x : Int64} {y : Int32} (hd : decode bytes pc = .ok (.lushr, 1))  (hp : pc + 1 = pc') (k : Go p e below s R Z EL n0 Q (T.setTop (mkF m pc' Ls (.long (Jvm.Free.XT.ushrL x y) :: st)))) : Go p e below s R Z EL n0 Q (T.setTop (mkF m pc Ls (.int y :: .long x :: st))) := by
  subst hp; exact Go.up (fun t q => Jvm.Free.XT.lushr W.here W.ex rfl (W.dec hd) rfl q) k
theorem s_ineg (W : Wk p l e R s m args below meth c Z a0 EL n0 own nm bytes maxL ret T vm0 h cells slots) {x : Int32} (hd : decode bytes pc = .ok (.ineg, 1))  (hp : pc + 1 = pc') (k : Go p e below s R Z EL n0 Q (T.setTop (mkF m pc' Ls (.int (-x) :: st)))) : Go p e below s R Z EL n0 Q (T.setTop (mkF m pc Ls (.int x :: st))) := by
  subst hp; exact Go.up (fun t q => Jvm.Free.XS.ineg W.here W.ex rfl (W.dec hd) rfl q) k
theorem s_lneg (W : Wk p l e R s m args below meth c Z a0 EL n0 own nm bytes maxL ret T vm0 h cells slots) {x : Int64} (hd : decode bytes pc = .ok (.lneg, 1))  (hp : pc + 1 = pc') (k : Go p e below s R Z EL n0 Q (T.setTop (mkF m pc' Ls (.long (-x) :: st)))) : Go p e below s R Z EL n0 Q (T.setTop (mkF m pc Ls (.long x :: st))) := by
  subst hp; exact Go.up (fun t q => Jvm.Free.XT.lneg W.here W.ex rfl (W.dec hd) rfl q) k
theorem s_i2l (W : Wk p l e R s m args below meth c Z a0 EL n0 own nm bytes maxL ret T vm0 h cells slots) {x : Int32} (hd : decode bytes pc = .ok (.i2l, 1))  (hp : pc + 1 = pc') (k : Go p e below s R Z EL n0 Q (T.setTop (mkF m pc' Ls (.long x.toInt64 :: st)))) : Go p e below s R Z EL n0 Q (T.setTop (mkF m pc Ls (.int x :: st))) := by
  subst hp; exact Go.up (fun t q => Jvm.Free.XT.i2l W.here W.ex rfl (W.dec hd) rfl q) k
theorem s_l2i (W : Wk p l e R s m args below meth c Z a0 EL n0 own nm bytes maxL ret T vm0 h cells slots) {x : Int64} (hd : decode bytes pc = .ok (.l2i, 1))  (hp : pc + 1 = pc') (k : Go p e below s R Z EL n0 Q (T.setTop (mkF m pc' Ls (.int x.toInt32 :: st)))) : Go p e below s R Z EL n0 Q (T.setTop (mkF m pc Ls (.long x :: st))) := by
  subst hp; exact Go.up (fun t q => Jvm.Free.XT.l2i W.here W.ex rfl (W.dec hd) rfl q) k
theorem s_i2b (W : Wk p l e R s m args below meth c Z a0 EL n0 own nm bytes maxL ret T vm0 h cells slots) {x : Int32} (hd : decode bytes pc = .ok (.i2b, 1))  (hp : pc + 1 = pc') (k : Go p e below s R Z EL n0 Q (T.setTop (mkF m pc' Ls (.int x.toInt8.toInt32 :: st)))) : Go p e below s R Z EL n0 Q (T.setTop (mkF m pc Ls (.int x :: st))) := by
  subst hp; exact Go.up (fun t q => Jvm.Free.XT.i2b W.here W.ex rfl (W.dec hd) rfl q) k
theorem s_i2c (W : Wk p l e R s m args below meth c Z a0 EL n0 own nm bytes maxL ret T vm0 h cells slots) {x : Int32} (hd : decode bytes pc = .ok (.i2c, 1))  (hp : pc + 1 = pc') (k : Go p e below s R Z EL n0 Q (T.setTop (mkF m pc' Ls (.int x.toUInt32.toUInt16.toUInt32.toInt32 :: st)))) : Go p e below s R Z EL n0 Q (T.setTop (mkF m pc Ls (.int x :: st))) := by
  subst hp; exact Go.up (fun t q => Jvm.Free.XT.i2c W.here W.ex rfl (W.dec hd) rfl q) k
theorem s_i2s (W : Wk p l e R s m args below meth c Z a0 EL n0 own nm bytes maxL ret T vm0 h cells slots) {x : Int32} (hd : decode bytes pc = .ok (.i2s, 1))  (hp : pc + 1 = pc') (k : Go p e below s R Z EL n0 Q (T.setTop (mkF m pc' Ls (.int x.toInt16.toInt32 :: st)))) : Go p e below s R Z EL n0 Q (T.setTop (mkF m pc Ls (.int x :: st))) := by
  subst hp; exact Go.up (fun t q => Jvm.Free.XT.i2s W.here W.ex rfl (W.dec hd) rfl q) k
theorem s_lcmp (W : Wk p l e R s m args below meth c Z a0 EL n0 own nm bytes maxL ret T vm0 h cells slots) {x y : Int64} (hd : decode bytes pc = .ok (.lcmp, 1))  (hp : pc + 1 = pc') (k : Go p e below s R Z EL n0 Q (T.setTop (mkF m pc' Ls (.int (Jvm.Free.XT.cmpL x y) :: st)))) : Go p e below s R Z EL n0 Q (T.setTop (mkF m pc Ls (.long y :: .long x :: st))) := by
  subst hp; exact Go.up (fun t q => Jvm.Free.XT.lcmp W.here W.ex rfl (W.dec hd) rfl q) k
theorem s_idiv (W : Wk p l e R s m args below meth c Z a0 EL n0 own nm bytes maxL ret T vm0 h cells slots) {x y : Int32} (hd : decode bytes pc = .ok (.idiv, 1)) (hy : y ≠ 0) (hp : pc + 1 = pc') (k : Go p e below s R Z EL n0 Q (T.setTop (mkF m pc' Ls (.int (x / y) :: st)))) : Go p e below s R Z EL n0 Q (T.setTop (mkF m pc Ls (.int y :: .int x :: st))) := by
  subst hp; exact Go.up (fun t q => Jvm.Free.XS.idiv W.here W.ex rfl (W.dec hd) rfl hy q) k
theorem s_ldiv (W : Wk p l e R s m args below meth c Z a0 EL n0 own nm bytes maxL ret T vm0 h cells slots) {x y : Int64} (hd : decode bytes pc = .ok (.ldiv, 1)) (hy : y ≠ 0) (hp : pc + 1 = pc') (k : Go p e below s R Z EL n0 Q (T.setTop (mkF m pc' Ls (.long (x / y) :: st)))) : Go p e below s R Z EL n0 Q (T.setTop (mkF m pc Ls (.long y :: .long x :: st))) := by
  subst hp; exact Go.up (fun t q => Jvm.Free.XT.ldiv W.here W.ex rfl (W.dec hd) rfl hy q) k
theorem s_irem (W : Wk p l e R s m args below meth c Z a0 EL n0 own nm bytes maxL ret T vm0 h cells slots) {x y : Int32} (hd : decode bytes pc = .ok (.irem, 1)) (hy : y ≠ 0) (hp : pc + 1 = pc') (k : Go p e below s R Z EL n0 Q (T.setTop (mkF m pc' Ls (.int (x % y) :: st)))) : Go p e below s R Z EL n0 Q (T.setTop (mkF m pc Ls (.int y :: .int x :: st))) := by
  subst hp; exact Go.up (fun t q => Jvm.Free.XS.irem W.here W.ex rfl (W.dec hd) rfl hy (by rw [show x - x / y * y = x % y from irem_eq_mod x y]; exact q)) k
theorem s_lrem (W : Wk p l e R s m args below meth c Z a0 EL n0 own nm bytes maxL ret T vm0 h cells slots) {x y : Int64} (hd : decode bytes pc = .ok (.lrem, 1)) (hy : y ≠ 0) (hp : pc + 1 = pc') (k : Go p e below s R Z EL n0 Q (T.setTop (mkF m pc' Ls (.long (x % y) :: st)))) : Go p e below s R Z EL n0 Q (T.setTop (mkF m pc Ls (.long y :: .long x :: st))) := by
  subst hp; exact Go.up (fun t q => Jvm.Free.XT.lrem W.here W.ex rfl (W.dec hd) rfl hy (by rw [show x - x / y * y = x % y from lrem_mod x y]; exact q)) k
theorem s_dup (W : Wk p l e R s m args below meth c Z a0 EL n0 own nm bytes maxL ret T vm0 h cells slots) {x : Value} (hd : decode bytes pc = .ok (.dup, 1)) (hc : x.category = 1) (hp : pc + 1 = pc') (k : Go p e below s R Z EL n0 Q (T.setTop (mkF m pc' Ls (x :: x :: st)))) : Go p e below s R Z EL n0 Q (T.setTop (mkF m pc Ls (x :: st))) := by
  subst hp; exact Go.up (fun t q => Jvm.Free.XS.dup W.here W.ex rfl (W.dec hd) rfl hc q) k
theorem s_pop (W : Wk p l e R s m args below meth c Z a0 EL n0 own nm bytes maxL ret T vm0 h cells slots) {x : Value} (hd : decode bytes pc = .ok (.pop, 1)) (hc : x.category = 1) (hp : pc + 1 = pc') (k : Go p e below s R Z EL n0 Q (T.setTop (mkF m pc' Ls st))) : Go p e below s R Z EL n0 Q (T.setTop (mkF m pc Ls (x :: st))) := by
  subst hp; exact Go.up (fun t q => Jvm.Free.XT.pop W.here W.ex rfl (W.dec hd) rfl hc q) k
theorem s_dup_x1 (W : Wk p l e R s m args below meth c Z a0 EL n0 own nm bytes maxL ret T vm0 h cells slots) {x y : Value} (hd : decode bytes pc = .ok (.dup_x1, 1)) (hc : x.category = 1) (hc' : y.category = 1) (hp : pc + 1 = pc') (k : Go p e below s R Z EL n0 Q (T.setTop (mkF m pc' Ls (x :: y :: x :: st)))) : Go p e below s R Z EL n0 Q (T.setTop (mkF m pc Ls (x :: y :: st))) := by
  subst hp; exact Go.up (fun t q => Jvm.Free.XT.dupX1 W.here W.ex rfl (W.dec hd) rfl hc hc' q) k
theorem s_dup2 (W : Wk p l e R s m args below meth c Z a0 EL n0 own nm bytes maxL ret T vm0 h cells slots) {x y : Value} (hd : decode bytes pc = .ok (.dup2, 1)) (hc : x.category = 1) (hc' : y.category = 1) (hp : pc + 1 = pc') (k : Go p e below s R Z EL n0 Q (T.setTop (mkF m pc' Ls (x :: y :: x :: y :: st)))) : Go p e below s R Z EL n0 Q (T.setTop (mkF m pc Ls (x :: y :: st))) := by
  subst hp; exact Go.up (fun t q => Jvm.Free.XT.dup2 W.here W.ex rfl (W.dec hd) rfl hc hc' q) k
theorem s_dup2L (W : Wk p l e R s m args below meth c Z a0 EL n0 own nm bytes maxL ret T vm0 h cells slots) {x : Int64} (hd : decode bytes pc = .ok (.dup2, 1))  (hp : pc + 1 = pc') (k : Go p e below s R Z EL n0 Q (T.setTop (mkF m pc' Ls (.long x :: .long x :: st)))) : Go p e below s R Z EL n0 Q (T.setTop (mkF m pc Ls (.long x :: st))) := by
  subst hp; exact Go.up (fun t q => Jvm.Free.XT.dup2L W.here W.ex rfl (W.dec hd) rfl q) k
theorem s_istore_n (W : Wk p l e R s m args below meth c Z a0 EL n0 own nm bytes maxL ret T vm0 h cells slots) {k : Fin 4} {x : Int32} (l' : Array Slot) (hd : decode bytes pc = .ok (.istore_n k, 1)) (hl : storeLocals Ls k.val (.int x) = some l') (hp : pc + 1 = pc') (k : Go p e below s R Z EL n0 Q (T.setTop (mkF m pc' l' st))) : Go p e below s R Z EL n0 Q (T.setTop (mkF m pc Ls (.int x :: st))) := by
  subst hp; exact Go.up (fun t q => Jvm.Free.XS.istoreN W.here W.ex rfl (W.dec hd) rfl hl q) k
theorem s_istore (W : Wk p l e R s m args below meth c Z a0 EL n0 own nm bytes maxL ret T vm0 h cells slots) {k : Nat} {x : Int32} (l' : Array Slot) (hd : decode bytes pc = .ok (.istore k, 2)) (hl : storeLocals Ls k (.int x) = some l') (hp : pc + 2 = pc') (k : Go p e below s R Z EL n0 Q (T.setTop (mkF m pc' l' st))) : Go p e below s R Z EL n0 Q (T.setTop (mkF m pc Ls (.int x :: st))) := by
  subst hp; exact Go.up (fun t q => Jvm.Free.XS.istore W.here W.ex rfl (W.dec hd) rfl hl q) k
theorem s_astore_n (W : Wk p l e R s m args below meth c Z a0 EL n0 own nm bytes maxL ret T vm0 h cells slots) {k : Fin 4} {x : Value} (l' : Array Slot) (hd : decode bytes pc = .ok (.astore_n k, 1)) (hv : x.isRef = true) (hl : storeLocals Ls k.val x = some l') (hp : pc + 1 = pc') (k : Go p e below s R Z EL n0 Q (T.setTop (mkF m pc' l' st))) : Go p e below s R Z EL n0 Q (T.setTop (mkF m pc Ls (x :: st))) := by
  subst hp; exact Go.up (fun t q => Jvm.Free.XS.astoreN W.here W.ex rfl (W.dec hd) rfl hv hl q) k
theorem s_astore (W : Wk p l e R s m args below meth c Z a0 EL n0 own nm bytes maxL ret T vm0 h cells slots) {k : Nat} {x : Value} (l' : Array Slot) (hd : decode bytes pc = .ok (.astore k, 2)) (hv : x.isRef = true) (hl : storeLocals Ls k x = some l') (hp : pc + 2 = pc') (k : Go p e below s R Z EL n0 Q (T.setTop (mkF m pc' l' st))) : Go p e below s R Z EL n0 Q (T.setTop (mkF m pc Ls (x :: st))) := by
  subst hp; exact Go.up (fun t q => Jvm.Free.XS.astore W.here W.ex rfl (W.dec hd) rfl hv hl q) k
theorem s_lstore_n (W : Wk p l e R s m args below meth c Z a0 EL n0 own nm bytes maxL ret T vm0 h cells slots) {k : Fin 4} {x : Int64} (l' : Array Slot) (hd : decode bytes pc = .ok (.lstore_n k, 1)) (hl : storeLocals Ls k.val (.long x) = some l') (hp : pc + 1 = pc') (k : Go p e below s R Z EL n0 Q (T.setTop (mkF m pc' l' st))) : Go p e below s R Z EL n0 Q (T.setTop (mkF m pc Ls (.long x :: st))) := by
  subst hp; exact Go.up (fun t q => Jvm.Free.XT.lstoreN W.here W.ex rfl (W.dec hd) rfl hl q) k
theorem s_lstore (W : Wk p l e R s m args below meth c Z a0 EL n0 own nm bytes maxL ret T vm0 h cells slots) {k : Nat} {x : Int64} (l' : Array Slot) (hd : decode bytes pc = .ok (.lstore k, 2)) (hl : storeLocals Ls k (.long x) = some l') (hp : pc + 2 = pc') (k : Go p e below s R Z EL n0 Q (T.setTop (mkF m pc' l' st))) : Go p e below s R Z EL n0 Q (T.setTop (mkF m pc Ls (.long x :: st))) := by
  subst hp; exact Go.up (fun t q => Jvm.Free.XT.lstore W.here W.ex rfl (W.dec hd) rfl hl q) k
theorem s_iinc (W : Wk p l e R s m args below meth c Z a0 EL n0 own nm bytes maxL ret T vm0 h cells slots) {k : Nat} {cst : Int} {x : Int32} (v : Int32) (l' : Array Slot) (hd : decode bytes pc = .ok (.iinc k cst, 3)) (hv : Int32.ofInt cst = v) (hl : Ls[k]? = some (.val (.int x))) (hl' : storeLocals Ls k (.int (x + v)) = some l') (hp : pc + 3 = pc') (k : Go p e below s R Z EL n0 Q (T.setTop (mkF m pc' l' st))) : Go p e below s R Z EL n0 Q (T.setTop (mkF m pc Ls st)) := by
  subst hp; exact Go.up (fun t q => Jvm.Free.XT.iincV W.here W.ex rfl v (W.dec hd) hv hl hl' q) k
theorem s_goto (W : Wk p l e R s m args below meth c Z a0 EL n0 own nm bytes maxL ret T vm0 h cells slots) {o : Int} (hd : decode bytes pc = .ok (.goto o, 3)) (ho : 0 ≤ (pc : Int) + o) (hp : ((pc : Int) + o).toNat = pc') (k : Go p e below s R Z EL n0 Q (T.setTop (mkF m pc' Ls st))) : Go p e below s R Z EL n0 Q (T.setTop (mkF m pc Ls st)) :=
  Go.up (fun t q => Jvm.Free.XS.goto W.here W.ex rfl rfl (W.dec hd) ho hp q) k
theorem s_ifeq (W : Wk p l e R s m args below meth c Z a0 EL n0 own nm bytes maxL ret T vm0 h cells slots) {x : Int32} {o : Int} {pcT : Nat} (hd : decode bytes pc = .ok (.ifCond .eq o, 3)) (ho : 0 ≤ (pc : Int) + o) (hpT : ((pc : Int) + o).toNat = pcT) (hp : pc + 3 = pc') (ky : x = 0 → Go p e below s R Z EL n0 Q (T.setTop (mkF m pcT Ls st))) (kn : ¬ x = 0 → Go p e below s R Z EL n0 Q (T.setTop (mkF m pc' Ls st))) : Go p e below s R Z EL n0 Q (T.setTop (mkF m pc Ls (.int x :: st))) := by
  by_cases hc : x = 0
  · exact Go.up (fun t q => Jvm.Free.XS.ifYes W.here W.ex rfl rfl (W.dec hd) rfl (Jvm.Free.XT.i0_eq_t hc) ho hpT q) (ky hc)
  · subst hp; exact Go.up (fun t q => Jvm.Free.XS.ifNo W.here W.ex rfl (W.dec hd) rfl (Jvm.Free.XT.i0_eq_f hc) q) (kn hc)
theorem s_icmpeq (W : Wk p l e R s m args below meth c Z a0 EL n0 own nm bytes maxL ret T vm0 h cells slots) {x y : Int32} {o : Int} {pcT : Nat} (hd : decode bytes pc = .ok (.if_icmp .eq o, 3)) (ho : 0 ≤ (pc : Int) + o) (hpT : ((pc : Int) + o).toNat = pcT) (hp : pc + 3 = pc') (ky : x = y → Go p e below s R Z EL n0 Q (T.setTop (mkF m pcT Ls st))) (kn : ¬ x = y → Go p e below s R Z EL n0 Q (T.setTop (mkF m pc' Ls st))) : Go p e below s R Z EL n0 Q (T.setTop (mkF m pc Ls (.int y :: .int x :: st))) := by
  by_cases hc : x = y
  · exact Go.up (fun t q => Jvm.Free.XS.icmpYes W.here W.ex rfl rfl (W.dec hd) rfl (Jvm.Free.XT.ii_eq_t hc) ho hpT q) (ky hc)
  · subst hp; exact Go.up (fun t q => Jvm.Free.XS.icmpNo W.here W.ex rfl (W.dec hd) rfl (Jvm.Free.XT.ii_eq_f hc) q) (kn hc)
theorem s_ifleq (W : Wk p l e R s m args below meth c Z a0 EL n0 own nm bytes maxL ret T vm0 h cells slots) {x y : Int64} {o : Int} {pcT : Nat} (hd : decode bytes pc = .ok (.ifCond .eq o, 3)) (ho : 0 ≤ (pc : Int) + o) (hpT : ((pc : Int) + o).toNat = pcT) (hp : pc + 3 = pc') (ky : x = y → Go p e below s R Z EL n0 Q (T.setTop (mkF m pcT Ls st))) (kn : ¬ x = y → Go p e below s R Z EL n0 Q (T.setTop (mkF m pc' Ls st))) : Go p e below s R Z EL n0 Q (T.setTop (mkF m pc Ls (.int (Jvm.Free.XT.cmpL x y) :: st))) := by
  by_cases hc : x = y
  · exact Go.up (fun t q => Jvm.Free.XS.ifYes W.here W.ex rfl rfl (W.dec hd) rfl (Jvm.Free.XT.ll_eq_t hc) ho hpT q) (ky hc)
  · subst hp; exact Go.up (fun t q => Jvm.Free.XS.ifNo W.here W.ex rfl (W.dec hd) rfl (Jvm.Free.XT.ll_eq_f hc) q) (kn hc)
theorem s_ifne (W : Wk p l e R s m args below meth c Z a0 EL n0 own nm bytes maxL ret T vm0 h cells slots) {x : Int32} {o : Int} {pcT : Nat} (hd : decode bytes pc = .ok (.ifCond .ne o, 3)) (ho : 0 ≤ (pc : Int) + o) (hpT : ((pc : Int) + o).toNat = pcT) (hp : pc + 3 = pc') (ky : ¬ x = 0 → Go p e below s R Z EL n0 Q (T.setTop (mkF m pcT Ls st))) (kn : x = 0 → Go p e below s R Z EL n0 Q (T.setTop (mkF m pc' Ls st))) : Go p e below s R Z EL n0 Q (T.setTop (mkF m pc Ls (.int x :: st))) := by
  by_cases hc : x = 0
  · subst hp; exact Go.up (fun t q => Jvm.Free.XS.ifNo W.here W.ex rfl (W.dec hd) rfl (Jvm.Free.XT.i0_ne_f hc) q) (kn hc)
  · exact Go.up (fun t q => Jvm.Free.XS.ifYes W.here W.ex rfl rfl (W.dec hd) rfl (Jvm.Free.XT.i0_ne_t hc) ho hpT q) (ky hc)
theorem s_icmpne (W : Wk p l e R s m args below meth c Z a0 EL n0 own nm bytes maxL ret T vm0 h cells slots) {x y : Int32} {o : Int} {pcT : Nat} (hd : decode bytes pc = .ok (.if_icmp .ne o, 3)) (ho : 0 ≤ (pc : Int) + o) (hpT : ((pc : Int) + o).toNat = pcT) (hp : pc + 3 = pc') (ky : ¬ x = y → Go p e below s R Z EL n0 Q (T.setTop (mkF m pcT Ls st))) (kn : x = y → Go p e below s R Z EL n0 Q (T.setTop (mkF m pc' Ls st))) : Go p e below s R Z EL n0 Q (T.setTop (mkF m pc Ls (.int y :: .int x :: st))) := by
  by_cases hc : x = y
  · subst hp; exact Go.up (fun t q => Jvm.Free.XS.icmpNo W.here W.ex rfl (W.dec hd) rfl (Jvm.Free.XT.ii_ne_f hc) q) (kn hc)
  · exact Go.up (fun t q => Jvm.Free.XS.icmpYes W.here W.ex rfl rfl (W.dec hd) rfl (Jvm.Free.XT.ii_ne_t hc) ho hpT q) (ky hc)
theorem s_iflne (W : Wk p l e R s m args below meth c Z a0 EL n0 own nm bytes maxL ret T vm0 h cells slots) {x y : Int64} {o : Int} {pcT : Nat} (hd : decode bytes pc = .ok (.ifCond .ne o, 3)) (ho : 0 ≤ (pc : Int) + o) (hpT : ((pc : Int) + o).toNat = pcT) (hp : pc + 3 = pc') (ky : ¬ x = y → Go p e below s R Z EL n0 Q (T.setTop (mkF m pcT Ls st))) (kn : x = y → Go p e below s R Z EL n0 Q (T.setTop (mkF m pc' Ls st))) : Go p e below s R Z EL n0 Q (T.setTop (mkF m pc Ls (.int (Jvm.Free.XT.cmpL x y) :: st))) := by
  by_cases hc : x = y
  · subst hp; exact Go.up (fun t q => Jvm.Free.XS.ifNo W.here W.ex rfl (W.dec hd) rfl (Jvm.Free.XT.ll_ne_f hc) q) (kn hc)
  · exact Go.up (fun t q => Jvm.Free.XS.ifYes W.here W.ex rfl rfl (W.dec hd) rfl (Jvm.Free.XT.ll_ne_t hc) ho hpT q) (ky hc)
theorem s_iflt (W : Wk p l e R s m args below meth c Z a0 EL n0 own nm bytes maxL ret T vm0 h cells slots) {x : Int32} {o : Int} {pcT : Nat} (hd : decode bytes pc = .ok (.ifCond .lt o, 3)) (ho : 0 ≤ (pc : Int) + o) (hpT : ((pc : Int) + o).toNat = pcT) (hp : pc + 3 = pc') (ky : x < 0 → Go p e below s R Z EL n0 Q (T.setTop (mkF m pcT Ls st))) (kn : ¬ x < 0 → Go p e below s R Z EL n0 Q (T.setTop (mkF m pc' Ls st))) : Go p e below s R Z EL n0 Q (T.setTop (mkF m pc Ls (.int x :: st))) := by
  by_cases hc : x < 0
  · exact Go.up (fun t q => Jvm.Free.XS.ifYes W.here W.ex rfl rfl (W.dec hd) rfl (Jvm.Free.XT.i0_lt_t hc) ho hpT q) (ky hc)
  · subst hp; exact Go.up (fun t q => Jvm.Free.XS.ifNo W.here W.ex rfl (W.dec hd) rfl (Jvm.Free.XT.i0_lt_f hc) q) (kn hc)
theorem s_icmplt (W : Wk p l e R s m args below meth c Z a0 EL n0 own nm bytes maxL ret T vm0 h cells slots) {x y : Int32} {o : Int} {pcT : Nat} (hd : decode bytes pc = .ok (.if_icmp .lt o, 3)) (ho : 0 ≤ (pc : Int) + o) (hpT : ((pc : Int) + o).toNat = pcT) (hp : pc + 3 = pc') (ky : x < y → Go p e below s R Z EL n0 Q (T.setTop (mkF m pcT Ls st))) (kn : ¬ x < y → Go p e below s R Z EL n0 Q (T.setTop (mkF m pc' Ls st))) : Go p e below s R Z EL n0 Q (T.setTop (mkF m pc Ls (.int y :: .int x :: st))) := by
  by_cases hc : x < y
  · exact Go.up (fun t q => Jvm.Free.XS.icmpYes W.here W.ex rfl rfl (W.dec hd) rfl (Jvm.Free.XT.ii_lt_t hc) ho hpT q) (ky hc)
  · subst hp; exact Go.up (fun t q => Jvm.Free.XS.icmpNo W.here W.ex rfl (W.dec hd) rfl (Jvm.Free.XT.ii_lt_f hc) q) (kn hc)
theorem s_ifllt (W : Wk p l e R s m args below meth c Z a0 EL n0 own nm bytes maxL ret T vm0 h cells slots) {x y : Int64} {o : Int} {pcT : Nat} (hd : decode bytes pc = .ok (.ifCond .lt o, 3)) (ho : 0 ≤ (pc : Int) + o) (hpT : ((pc : Int) + o).toNat = pcT) (hp : pc + 3 = pc') (ky : x < y → Go p e below s R Z EL n0 Q (T.setTop (mkF m pcT Ls st))) (kn : ¬ x < y → Go p e below s R Z EL n0 Q (T.setTop (mkF m pc' Ls st))) : Go p e below s R Z EL n0 Q (T.setTop (mkF m pc Ls (.int (Jvm.Free.XT.cmpL x y) :: st))) := by
  by_cases hc : x < y
  · exact Go.up (fun t q => Jvm.Free.XS.ifYes W.here W.ex rfl rfl (W.dec hd) rfl (Jvm.Free.XT.ll_lt_t hc) ho hpT q) (ky hc)
  · subst hp; exact Go.up (fun t q => Jvm.Free.XS.ifNo W.here W.ex rfl (W.dec hd) rfl (Jvm.Free.XT.ll_lt_f hc) q) (kn hc)
theorem s_ifge (W : Wk p l e R s m args below meth c Z a0 EL n0 own nm bytes maxL ret T vm0 h cells slots) {x : Int32} {o : Int} {pcT : Nat} (hd : decode bytes pc = .ok (.ifCond .ge o, 3)) (ho : 0 ≤ (pc : Int) + o) (hpT : ((pc : Int) + o).toNat = pcT) (hp : pc + 3 = pc') (ky : ¬ x < 0 → Go p e below s R Z EL n0 Q (T.setTop (mkF m pcT Ls st))) (kn : x < 0 → Go p e below s R Z EL n0 Q (T.setTop (mkF m pc' Ls st))) : Go p e below s R Z EL n0 Q (T.setTop (mkF m pc Ls (.int x :: st))) := by
  by_cases hc : x < 0
  · subst hp; exact Go.up (fun t q => Jvm.Free.XS.ifNo W.here W.ex rfl (W.dec hd) rfl (Jvm.Free.XT.i0_ge_f hc) q) (kn hc)
  · exact Go.up (fun t q => Jvm.Free.XS.ifYes W.here W.ex rfl rfl (W.dec hd) rfl (Jvm.Free.XT.i0_ge_t hc) ho hpT q) (ky hc)
theorem s_icmpge (W : Wk p l e R s m args below meth c Z a0 EL n0 own nm bytes maxL ret T vm0 h cells slots) {x y : Int32} {o : Int} {pcT : Nat} (hd : decode bytes pc = .ok (.if_icmp .ge o, 3)) (ho : 0 ≤ (pc : Int) + o) (hpT : ((pc : Int) + o).toNat = pcT) (hp : pc + 3 = pc') (ky : ¬ x < y → Go p e below s R Z EL n0 Q (T.setTop (mkF m pcT Ls st))) (kn : x < y → Go p e below s R Z EL n0 Q (T.setTop (mkF m pc' Ls st))) : Go p e below s R Z EL n0 Q (T.setTop (mkF m pc Ls (.int y :: .int x :: st))) := by
  by_cases hc : x < y
  · subst hp; exact Go.up (fun t q => Jvm.Free.XS.icmpNo W.here W.ex rfl (W.dec hd) rfl (Jvm.Free.XT.ii_ge_f hc) q) (kn hc)
  · exact Go.up (fun t q => Jvm.Free.XS.icmpYes W.here W.ex rfl rfl (W.dec hd) rfl (Jvm.Free.XT.ii_ge_t hc) ho hpT q) (ky hc)
theorem s_iflge (W : Wk p l e R s m args below meth c Z a0 EL n0 own nm bytes maxL ret T vm0 h cells slots) {x y : Int64} {o : Int} {pcT : Nat} (hd : decode bytes pc = .ok (.ifCond .ge o, 3)) (ho : 0 ≤ (pc : Int) + o) (hpT : ((pc : Int) + o).toNat = pcT) (hp : pc + 3 = pc') (ky : ¬ x < y → Go p e below s R Z EL n0 Q (T.setTop (mkF m pcT Ls st))) (kn : x < y → Go p e below s R Z EL n0 Q (T.setTop (mkF m pc' Ls st))) : Go p e below s R Z EL n0 Q (T.setTop (mkF m pc Ls (.int (Jvm.Free.XT.cmpL x y) :: st))) := by
  by_cases hc : x < y
  · subst hp; exact Go.up (fun t q => Jvm.Free.XS.ifNo W.here W.ex rfl (W.dec hd) rfl (Jvm.Free.XT.ll_ge_f hc) q) (kn hc)
  · exact Go.up (fun t q => Jvm.Free.XS.ifYes W.here W.ex rfl rfl (W.dec hd) rfl (Jvm.Free.XT.ll_ge_t hc) ho hpT q) (ky hc)
theorem s_ifgt (W : Wk p l e R s m args below meth c Z a0 EL n0 own nm bytes maxL ret T vm0 h cells slots) {x : Int32} {o : Int} {pcT : Nat} (hd : decode bytes pc = .ok (.ifCond .gt o, 3)) (ho : 0 ≤ (pc : Int) + o) (hpT : ((pc : Int) + o).toNat = pcT) (hp : pc + 3 = pc') (ky : 0 < x → Go p e below s R Z EL n0 Q (T.setTop (mkF m pcT Ls st))) (kn : ¬ 0 < x → Go p e below s R Z EL n0 Q (T.setTop (mkF m pc' Ls st))) : Go p e below s R Z EL n0 Q (T.setTop (mkF m pc Ls (.int x :: st))) := by
  by_cases hc : 0 < x
  · exact Go.up (fun t q => Jvm.Free.XS.ifYes W.here W.ex rfl rfl (W.dec hd) rfl (Jvm.Free.XT.i0_gt_t hc) ho hpT q) (ky hc)
  · subst hp; exact Go.up (fun t q => Jvm.Free.XS.ifNo W.here W.ex rfl (W.dec hd) rfl (Jvm.Free.XT.i0_gt_f hc) q) (kn hc)
theorem s_icmpgt (W : Wk p l e R s m args below meth c Z a0 EL n0 own nm bytes maxL ret T vm0 h cells slots) {x y : Int32} {o : Int} {pcT : Nat} (hd : decode bytes pc = .ok (.if_icmp .gt o, 3)) (ho : 0 ≤ (pc : Int) + o) (hpT : ((pc : Int) + o).toNat = pcT) (hp : pc + 3 = pc') (ky : y < x → Go p e below s R Z EL n0 Q (T.setTop (mkF m pcT Ls st))) (kn : ¬ y < x → Go p e below s R Z EL n0 Q (T.setTop (mkF m pc' Ls st))) : Go p e below s R Z EL n0 Q (T.setTop (mkF m pc Ls (.int y :: .int x :: st))) := by
  by_cases hc : y < x
  · exact Go.up (fun t q => Jvm.Free.XS.icmpYes W.here W.ex rfl rfl (W.dec hd) rfl (Jvm.Free.XT.ii_gt_t hc) ho hpT q) (ky hc)
  · subst hp; exact Go.up (fun t q => Jvm.Free.XS.icmpNo W.here W.ex rfl (W.dec hd) rfl (Jvm.Free.XT.ii_gt_f hc) q) (kn hc)
theorem s_iflgt (W : Wk p l e R s m args below meth c Z a0 EL n0 own nm bytes maxL ret T vm0 h cells slots) {x y : Int64} {o : Int} {pcT : Nat} (hd : decode bytes pc = .ok (.ifCond .gt o, 3)) (ho : 0 ≤ (pc : Int) + o) (hpT : ((pc : Int) + o).toNat = pcT) (hp : pc + 3 = pc') (ky : y < x → Go p e below s R Z EL n0 Q (T.setTop (mkF m pcT Ls st))) (kn : ¬ y < x → Go p e below s R Z EL n0 Q (T.setTop (mkF m pc' Ls st))) : Go p e below s R Z EL n0 Q (T.setTop (mkF m pc Ls (.int (Jvm.Free.XT.cmpL x y) :: st))) := by
  by_cases hc : y < x
  · exact Go.up (fun t q => Jvm.Free.XS.ifYes W.here W.ex rfl rfl (W.dec hd) rfl (Jvm.Free.XT.ll_gt_t hc) ho hpT q) (ky hc)
  · subst hp; exact Go.up (fun t q => Jvm.Free.XS.ifNo W.here W.ex rfl (W.dec hd) rfl (Jvm.Free.XT.ll_gt_f hc) q) (kn hc)
theorem s_ifle (W : Wk p l e R s m args below meth c Z a0 EL n0 own nm bytes maxL ret T vm0 h cells slots) {x : Int32} {o : Int} {pcT : Nat} (hd : decode bytes pc = .ok (.ifCond .le o, 3)) (ho : 0 ≤ (pc : Int) + o) (hpT : ((pc : Int) + o).toNat = pcT) (hp : pc + 3 = pc') (ky : ¬ 0 < x → Go p e below s R Z EL n0 Q (T.setTop (mkF m pcT Ls st))) (kn : 0 < x → Go p e below s R Z EL n0 Q (T.setTop (mkF m pc' Ls st))) : Go p e below s R Z EL n0 Q (T.setTop (mkF m pc Ls (.int x :: st))) := by
  by_cases hc : 0 < x
  · subst hp; exact Go.up (fun t q => Jvm.Free.XS.ifNo W.here W.ex rfl (W.dec hd) rfl (Jvm.Free.XT.i0_le_f hc) q) (kn hc)
  · exact Go.up (fun t q => Jvm.Free.XS.ifYes W.here W.ex rfl rfl (W.dec hd) rfl (Jvm.Free.XT.i0_le_t hc) ho hpT q) (ky hc)
theorem s_icmple (W : Wk p l e R s m args below meth c Z a0 EL n0 own nm bytes maxL ret T vm0 h cells slots) {x y : Int32} {o : Int} {pcT : Nat} (hd : decode bytes pc = .ok (.if_icmp .le o, 3)) (ho : 0 ≤ (pc : Int) + o) (hpT : ((pc : Int) + o).toNat = pcT) (hp : pc + 3 = pc') (ky : ¬ y < x → Go p e below s R Z EL n0 Q (T.setTop (mkF m pcT Ls st))) (kn : y < x → Go p e below s R Z EL n0 Q (T.setTop (mkF m pc' Ls st))) : Go p e below s R Z EL n0 Q (T.setTop (mkF m pc Ls (.int y :: .int x :: st))) := by
  by_cases hc : y < x
  · subst hp; exact Go.up (fun t q => Jvm.Free.XS.icmpNo W.here W.ex rfl (W.dec hd) rfl (Jvm.Free.XT.ii_le_f hc) q) (kn hc)
  · exact Go.up (fun t q => Jvm.Free.XS.icmpYes W.here W.ex rfl rfl (W.dec hd) rfl (Jvm.Free.XT.ii_le_t hc) ho hpT q) (ky hc)
theorem s_iflle (W : Wk p l e R s m args below meth c Z a0 EL n0 own nm bytes maxL ret T vm0 h cells slots) {x y : Int64} {o : Int} {pcT : Nat} (hd : decode bytes pc = .ok (.ifCond .le o, 3)) (ho : 0 ≤ (pc : Int) + o) (hpT : ((pc : Int) + o).toNat = pcT) (hp : pc + 3 = pc') (ky : ¬ y < x → Go p e below s R Z EL n0 Q (T.setTop (mkF m pcT Ls st))) (kn : y < x → Go p e below s R Z EL n0 Q (T.setTop (mkF m pc' Ls st))) : Go p e below s R Z EL n0 Q (T.setTop (mkF m pc Ls (.int (Jvm.Free.XT.cmpL x y) :: st))) := by
  by_cases hc : y < x
  · subst hp; exact Go.up (fun t q => Jvm.Free.XS.ifNo W.here W.ex rfl (W.dec hd) rfl (Jvm.Free.XT.ll_le_f hc) q) (kn hc)
  · exact Go.up (fun t q => Jvm.Free.XS.ifYes W.here W.ex rfl rfl (W.dec hd) rfl (Jvm.Free.XT.ll_le_t hc) ho hpT q) (ky hc)
theorem s_ifnullY (W : Wk p l e R s m args below meth c Z a0 EL n0 own nm bytes maxL ret T vm0 h cells slots) {o : Int} {pcT : Nat} (hd : decode bytes pc = .ok (.ifnull o, 3)) (ho : 0 ≤ (pc : Int) + o) (hpT : ((pc : Int) + o).toNat = pcT) (k : Go p e below s R Z EL n0 Q (T.setTop (mkF m pcT Ls st))) : Go p e below s R Z EL n0 Q (T.setTop (mkF m pc Ls (.null :: st))) := Go.up (fun t q => Jvm.Free.XS.ifnullYes W.here W.ex rfl rfl (W.dec hd) rfl ho hpT q) k
theorem s_ifnullN (W : Wk p l e R s m args below meth c Z a0 EL n0 own nm bytes maxL ret T vm0 h cells slots) {o : Int} {b : Addr} (hd : decode bytes pc = .ok (.ifnull o, 3)) (hp : pc + 3 = pc') (k : Go p e below s R Z EL n0 Q (T.setTop (mkF m pc' Ls st))) : Go p e below s R Z EL n0 Q (T.setTop (mkF m pc Ls (.ref b :: st))) := by subst hp; exact Go.up (fun t q => Jvm.Free.XS.ifnullNo W.here W.ex rfl (W.dec hd) rfl q) k
theorem s_ifnonnullY (W : Wk p l e R s m args below meth c Z a0 EL n0 own nm bytes maxL ret T vm0 h cells slots) {o : Int} {b : Addr} {pcT : Nat} (hd : decode bytes pc = .ok (.ifnonnull o, 3)) (ho : 0 ≤ (pc : Int) + o) (hpT : ((pc : Int) + o).toNat = pcT) (k : Go p e below s R Z EL n0 Q (T.setTop (mkF m pcT Ls st))) : Go p e below s R Z EL n0 Q (T.setTop (mkF m pc Ls (.ref b :: st))) := Go.up (fun t q => Jvm.Free.XT.ifnonnullYes W.here W.ex rfl rfl (W.dec hd) rfl ho hpT q) k
theorem s_ifnonnullN (W : Wk p l e R s m args below meth c Z a0 EL n0 own nm bytes maxL ret T vm0 h cells slots) {o : Int} (hd : decode bytes pc = .ok (.ifnonnull o, 3)) (hp : pc + 3 = pc') (k : Go p e below s R Z EL n0 Q (T.setTop (mkF m pc' Ls st))) : Go p e below s R Z EL n0 Q (T.setTop (mkF m pc Ls (.null :: st))) := by subst hp; exact Go.up (fun t q => Jvm.Free.XT.ifnonnullNo W.here W.ex rfl (W.dec hd) rfl q) k
theorem s_acmpY (W : Wk p l e R s m args below meth c Z a0 EL n0 own nm bytes maxL ret T vm0 h cells slots) {cd : ClassFile.ACond} {x y : Value} {o : Int} {pcT : Nat} (hd : decode bytes pc = .ok (.if_acmp cd o, 3)) (hx : x.isRef = true) (hy : y.isRef = true) (hc : Jvm.Free.XT.acmp cd x y = true) (ho : 0 ≤ (pc : Int) + o) (hpT : ((pc : Int) + o).toNat = pcT) (k : Go p e below s R Z EL n0 Q (T.setTop (mkF m pcT Ls st))) : Go p e below s R Z EL n0 Q (T.setTop (mkF m pc Ls (y :: x :: st))) := Go.up (fun t q => Jvm.Free.XT.acmpYes W.here W.ex rfl rfl (W.dec hd) rfl hx hy hc ho hpT q) k
theorem s_acmpN (W : Wk p l e R s m args below meth c Z a0 EL n0 own nm bytes maxL ret T vm0 h cells slots) {cd : ClassFile.ACond} {x y : Value} {o : Int} (hd : decode bytes pc = .ok (.if_acmp cd o, 3)) (hx : x.isRef = true) (hy : y.isRef = true) (hc : Jvm.Free.XT.acmp cd x y = false) (hp : pc + 3 = pc') (k : Go p e below s R Z EL n0 Q (T.setTop (mkF m pc' Ls st))) : Go p e below s R Z EL n0 Q (T.setTop (mkF m pc Ls (y :: x :: st))) := by subst hp; exact Go.up (fun t q => Jvm.Free.XT.acmpNo W.here W.ex rfl (W.dec hd) rfl hx hy hc q) k
theorem s_ldcI (W : Wk p l e R s m args below meth c Z a0 EL n0 own nm bytes maxL ret T vm0 h cells slots) {index : Nat} {v : Int32} (w : (Cond.constant own index v).before a0 Z = true) (hd : decode bytes pc = .ok (.ldc index, 2)) (hp : pc + 2 = pc') (k : Go p e below s R Z EL n0 Q (T.setTop (mkF m pc' Ls (.int v :: st)))) : Go p e below s R Z EL n0 Q (T.setTop (mkF m pc Ls st)) := by
  obtain ⟨⟨k0, locs, X, hS, hk, N⟩, ⟨eT, hZ, hown, C⟩, hh⟩ := W
  subst hp
  exact Go.up (fun t q => Jvm.Stand.ldcI X hh.2.1 (own := own) hown (mv (s := s.setVm vm0) hZ w) rfl (hb hh.2.2.1 hd) q) k
theorem s_ldcWI (W : Wk p l e R s m args below meth c Z a0 EL n0 own nm bytes maxL ret T vm0 h cells slots) {index : Nat} {v : Int32} (w : (Cond.constant own index v).before a0 Z = true) (hd : decode bytes pc = .ok (.ldc_w index, 3)) (hp : pc + 3 = pc') (k : Go p e below s R Z EL n0 Q (T.setTop (mkF m pc' Ls (.int v :: st)))) : Go p e below s R Z EL n0 Q (T.setTop (mkF m pc Ls st)) := by
  obtain ⟨⟨k0, locs, X, hS, hk, N⟩, ⟨eT, hZ, hown, C⟩, hh⟩ := W
  subst hp
  exact Go.up (fun t q => Jvm.Stand.ldcWI X hh.2.1 (own := own) hown (mv (s := s.setVm vm0) hZ w) rfl (hb hh.2.2.1 hd) q) k
theorem s_ldc2J (W : Wk p l e R s m args below meth c Z a0 EL n0 own nm bytes maxL ret T vm0 h cells slots) {index : Nat} {v : Int64} (w : (Cond.constantLong own index v).before a0 Z = true) (hd : decode bytes pc = .ok (.ldc2_w index, 3)) (hp : pc + 3 = pc') (k : Go p e below s R Z EL n0 Q (T.setTop (mkF m pc' Ls (.long v :: st)))) : Go p e below s R Z EL n0 Q (T.setTop (mkF m pc Ls st)) := by
  obtain ⟨⟨k0, locs, X, hS, hk, N⟩, ⟨eT, hZ, hown, C⟩, hh⟩ := W
  subst hp
  exact Go.up (fun t q => Jvm.Stand.ldc2J X hh.2.1 (own := own) hown (mv (s := s.setVm vm0) hZ w) rfl (hb hh.2.2.1 hd) q) k
theorem s_getf (W : Wk p l e R s m args below meth c Z a0 EL n0 own nm bytes maxL ret T vm0 h cells slots) {R0 O n d : String} {index : Nat} (w : (Cond.fieldLink own index R0 n d).before a0 Z = true) (via : Via Z R0 O n d) {a : Addr} {v : Value} (F : Fld Z h a O n d v) (hd : decode bytes pc = .ok (.getfield index, 3)) (hp : pc + 3 = pc') (k : ∀ T', Wk p l e R s m args below meth c Z a0 EL n0 own nm bytes maxL ret T' vm0 h cells slots → Go p e below s R Z EL n0 Q (T'.setTop (mkF m pc' Ls (v :: st)))) : Go p e below s R Z EL n0 Q (T.setTop (mkF m pc Ls (.ref a :: st))) := by
  obtain ⟨⟨k0, locs, X, hS, hk, N⟩, ⟨eT, hZ, hown, C⟩, hh⟩ := W
  obtain ⟨T', X', e', st'⟩ := getF X hh.2.1 (show Z.Warmed39 (s.setVm vm0).vm from hZ) (own := own) (host := "") hown (Or.inl w) via eT F (g := mkF m pc Ls (.ref a :: st)) rfl rfl (hb hh.2.2.1 hd)
  subst hp
  exact Go.up st' (k T' ⟨⟨k0, locs, X', hS, hk, N⟩, ⟨e', hZ, hown, C⟩, hh⟩)
theorem s_getfN (W : Wk p l e R s m args below meth c Z a0 EL n0 own nm bytes maxL ret T vm0 h cells slots) {R0 O n d host : String} {index : Nat} (w : (Cond.fieldLinkNest own index R0 n d host).before a0 Z = true) (via : Via Z R0 O n d) {a : Addr} {v : Value} (F : Fld Z h a O n d v) (hd : decode bytes pc = .ok (.getfield index, 3)) (hp : pc + 3 = pc') (k : ∀ T', Wk p l e R s m args below meth c Z a0 EL n0 own nm bytes maxL ret T' vm0 h cells slots → Go p e below s R Z EL n0 Q (T'.setTop (mkF m pc' Ls (v :: st)))) : Go p e below s R Z EL n0 Q (T.setTop (mkF m pc Ls (.ref a :: st))) := by
  obtain ⟨⟨k0, locs, X, hS, hk, N⟩, ⟨eT, hZ, hown, C⟩, hh⟩ := W
  obtain ⟨T', X', e', st'⟩ := getF X hh.2.1 (show Z.Warmed39 (s.setVm vm0).vm from hZ) (own := own) (host := host) hown (Or.inr w) via eT F (g := mkF m pc Ls (.ref a :: st)) rfl rfl (hb hh.2.2.1 hd)
  subst hp
  exact Go.up st' (k T' ⟨⟨k0, locs, X', hS, hk, N⟩, ⟨e', hZ, hown, C⟩, hh⟩)
theorem s_gets (W : Wk p l e R s m args below meth c Z a0 EL n0 own nm bytes maxL ret T vm0 h cells slots) {R0 O n d : String} {index : Nat} (w : (Cond.fieldLink own index R0 n d).before a0 Z = true) (via : Via Z R0 O n d) {v : Value} (F : Sta Z Z.heap O n d v) (hd : decode bytes pc = .ok (.getstatic index, 3)) (hp : pc + 3 = pc') (k : ∀ T', Wk p l e R s m args below meth c Z a0 EL n0 own nm bytes maxL ret T' vm0 h cells slots → Go p e below s R Z EL n0 Q (T'.setTop (mkF m pc' Ls (v :: st)))) : Go p e below s R Z EL n0 Q (T.setTop (mkF m pc Ls st)) := by
  have O := W.old
  obtain ⟨⟨k0, locs, X, hS, hk, N⟩, ⟨eT, hZ, hown, C⟩, hh⟩ := W
  obtain ⟨T', X', e', st'⟩ := getS X hh.2.1 (show Z.Warmed39 (s.setVm vm0).vm from hZ) (own := own) (host := "") hown w via eT (F.ext O.2) (g := mkF m pc Ls st) rfl (hb hh.2.2.1 hd)
  subst hp
  exact Go.up st' (k T' ⟨⟨k0, locs, X', hS, hk, N⟩, ⟨e', hZ, hown, C⟩, hh⟩)
theorem s_cast (W : Wk p l e R s m args below meth c Z a0 EL n0 own nm bytes maxL ret T vm0 h cells slots) {K : String} {index : Nat} (w : (Cond.classLink own index K).before a0 Z = true) {a : Addr} (F : Ins Z h a K true) (hd : decode bytes pc = .ok (.checkcast index, 3)) (hp : pc + 3 = pc') (k : ∀ T', Wk p l e R s m args below meth c Z a0 EL n0 own nm bytes maxL ret T' vm0 h cells slots → Go p e below s R Z EL n0 Q (T'.setTop (mkF m pc' Ls (.ref a :: st)))) : Go p e below s R Z EL n0 Q (T.setTop (mkF m pc Ls (.ref a :: st))) := by
  obtain ⟨⟨k0, locs, X, hS, hk, N⟩, ⟨eT, hZ, hown, C⟩, hh⟩ := W
  obtain ⟨T', X', e', st'⟩ := castY X hh.2.1 (show Z.Warmed39 (s.setVm vm0).vm from hZ) (own := own) hown w eT F (g := mkF m pc Ls (.ref a :: st)) rfl rfl (hb hh.2.2.1 hd)
  subst hp
  exact Go.up st' (k T' ⟨⟨k0, locs, X', hS, hk, N⟩, ⟨e', hZ, hown, C⟩, hh⟩)
theorem s_inst (W : Wk p l e R s m args below meth c Z a0 EL n0 own nm bytes maxL ret T vm0 h cells slots) {K : String} {index : Nat} (w : (Cond.classLink own index K).before a0 Z = true) {a : Addr} (F : Ins Z h a K true) (hd : decode bytes pc = .ok (.instanceof index, 3)) (hp : pc + 3 = pc') (k : ∀ T', Wk p l e R s m args below meth c Z a0 EL n0 own nm bytes maxL ret T' vm0 h cells slots → Go p e below s R Z EL n0 Q (T'.setTop (mkF m pc' Ls (.int 1 :: st)))) : Go p e below s R Z EL n0 Q (T.setTop (mkF m pc Ls (.ref a :: st))) := by
  obtain ⟨⟨k0, locs, X, hS, hk, N⟩, ⟨eT, hZ, hown, C⟩, hh⟩ := W
  obtain ⟨T', X', e', st'⟩ := instY X hh.2.1 (show Z.Warmed39 (s.setVm vm0).vm from hZ) (own := own) hown w eT F (g := mkF m pc Ls (.ref a :: st)) rfl rfl (hb hh.2.2.1 hd)
  subst hp
  exact Go.up st' (k T' ⟨⟨k0, locs, X', hS, hk, N⟩, ⟨e', hZ, hown, C⟩, hh⟩)

theorem Wk.ext' {T' : State} {h' : Heap} {cells' slots' : Nat} (hZ : Z.Warmed39 vm0) (E : Ext h h') (H : CHv Z EL vm0 h) : CHr Z EL vm0 h vm0 h' ∧ Keep h h' [] := ⟨CHr.ext E H, (Keep.refl h []).ext E⟩

theorem s_new (W : Wk p l e R s m args below meth c Z a0 EL n0 own nm bytes maxL ret T vm0 h cells slots) {C : String} {index n : Nat} (w : (Cond.classLink own index C).before a0 Z = true) (wi : (Cond.instantiable C n).before a0 Z = true) (wz : (Cond.initialized C).before a0 Z = true) (hd : decode bytes pc = .ok (.new index, 3)) (hc : cells + 1 ≤ R.cells) (hl : slots + n ≤ R.slots) (hp : pc + 3 = pc')
    (k : ∀ b T' h', b = h.size → Wk p l e R s m args below meth c Z a0 EL n0 own nm bytes maxL ret T' vm0 h' (cells + 1) (slots + n) → Keep h h' [] → CHr Z EL vm0 h vm0 h' → Mine Z EL n0 vm0 h' b → Exa Z h' b C → (∀ {O nm d : String} {ty : FieldType}, Laid Z a0 C O nm d → parseFieldDescriptor d = some ty → Fld Z h' b O nm d (defaultValue ty)) → Unt h' b → Go p e below s R Z EL n0 Q (T'.setTop (mkF m pc' Ls (.ref b :: st)))) : Go p e below s R Z EL n0 Q (T.setTop (mkF m pc Ls st)) := by
  have n0h := W.n0le
  obtain ⟨⟨k0, locs, X, hS, hk, N⟩, ⟨eT, hZ, hown, C⟩, hh⟩ := W
  obtain ⟨T', h', X', e', E, A, D, U, st'⟩ := newO X hh.2.1 (show Z.Warmed39 (s.setVm vm0).vm from hZ) (own := own) hown w wi wz eT (g := mkF m pc Ls st) rfl (hb hh.2.2.1 hd) hc hl
  subst hp
  have Ch := CHr.ext E C.1
  exact Go.up st' (k h.size T' h' rfl ⟨⟨k0, locs, X', hS, Nat.le_trans hk E.1, N⟩, ⟨e', hZ, hown, C.trans Ch⟩, hh⟩ ((Keep.refl h []).ext E) Ch ⟨n0h, A.lt, Safe.ext E C.1 (Safe.new (Nat.le_refl _))⟩ A D U)
theorem s_newarr (W : Wk p l e R s m args below meth c Z a0 EL n0 own nm bytes maxL ret T vm0 h cells slots) {aty : ArrayType} {n : Int32} (cap : Nat) (ad : String) (had : "[" ++ (newarray.typeOf aty).toString = ad) (w : (Cond.arrayClass (newarray.typeOf aty)).before a0 Z = true) (hd : decode bytes pc = .ok (.newarray aty, 2)) (hn : ¬ n < 0) (hcap : n.toNatClampNeg ≤ cap) (hb8 : cap * 8 ≤ 536870912) (hc : cells + 1 ≤ R.cells) (hl : slots + cap ≤ R.slots) (hp : pc + 2 = pc')
    (k : ∀ b T' h' kA, b = h.size → Wk p l e R s m args below meth c Z a0 EL n0 own nm bytes maxL ret T' vm0 h' (cells + 1) (slots + cap) → Keep h h' [] → CHr Z EL vm0 h vm0 h' → Mine Z EL n0 vm0 h' b → Arv Z h' b kA (newarray.typeOf aty) n (List.replicate n.toNatClampNeg (defaultValue (newarray.typeOf aty))) (defaultValue (newarray.typeOf aty)) → Exa Z h' b ad → Go p e below s R Z EL n0 Q (T'.setTop (mkF m pc' Ls (.ref b :: st)))) : Go p e below s R Z EL n0 Q (T.setTop (mkF m pc Ls (.int n :: st))) := by
  have n0h := W.n0le
  obtain ⟨⟨k0, locs, X, hS, hk, N⟩, ⟨eT, hZ, hown, C⟩, hh⟩ := W
  obtain ⟨T', h', kA, X', e', E, A, EX, st'⟩ := newPE X hh.2.1 (show Z.Warmed39 (s.setVm vm0).vm from hZ) w eT (g := mkF m pc Ls (.int n :: st)) rfl (hb hh.2.2.1 hd) rfl hn hcap hb8 hc hl had
  subst hp
  have Ch := CHr.ext E C.1
  have V := (Arv.new A hn).pad (vs' := [] ++ List.replicate n.toNatClampNeg (defaultValue (newarray.typeOf aty))) (pad_rep _ _ _)
  exact Go.up st' (k h.size T' h' kA rfl ⟨⟨k0, locs, X', hS, Nat.le_trans hk E.1, N⟩, ⟨e', hZ, hown, C.trans Ch⟩, hh⟩ ((Keep.refl h []).ext E) Ch ⟨n0h, A.lt, Safe.ext E C.1 (Safe.new (Nat.le_refl _))⟩ V EX)
theorem s_clone (W : Wk p l e R s m args below meth c Z a0 EL n0 own nm bytes maxL ret T vm0 h cells slots) {index : Nat} {ad : String} (w1 : (Cond.methodLink own index ⟨ad, "clone", "()Ljava/lang/Object;"⟩).before a0 Z = true) (w2 : (Cond.sameMethod ad "java/lang/Object" "clone" "()Ljava/lang/Object;").before a0 Z = true) (w3 : (Cond.native ⟨"java/lang/Object", "clone", "()Ljava/lang/Object;"⟩).before a0 Z = true) (w4 : (Cond.instanceMethod ⟨"java/lang/Object", "clone", "()Ljava/lang/Object;"⟩).before a0 Z = true) (w5 : (Cond.selects ad ⟨ad, "clone", "()Ljava/lang/Object;"⟩ ⟨"java/lang/Object", "clone", "()Ljava/lang/Object;"⟩).before a0 Z = true) (w6 : (Cond.castable ad "java/lang/Cloneable").before a0 Z = true) {a : Addr} {kA : ClassId} {ty : FieldType} {z : Int32} {vs : List Value} {dv : Value} (V : Arv Z h a kA ty z vs dv) (E : Exa Z h a ad) (cap : Nat) (hcap : z.toNatClampNeg ≤ cap) (hsz : Ls.size = maxL) (hd : decode bytes pc = .ok (.invokevirtual index, 3)) (Wd : Nat) (hWd : (st.map fun v => v.category).sum ≤ Wd) (hf : 1 ≤ R.frames) (hlo : Wd + 14 ≤ R.locals) (hc : cells + 1 ≤ R.cells) (hl : slots + cap ≤ R.slots) (hp : pc + 3 = pc')
    (k : ∀ b T' h', b = h.size → Wk p l e R s m args below meth c Z a0 EL n0 own nm bytes maxL ret T' vm0 h' (cells + 1) (slots + cap) → Keep h h' [] → CHr Z EL vm0 h vm0 h' → Mine Z EL n0 vm0 h' b → Arv Z h' b kA ty z vs dv → Exa Z h' b ad → Go p e below s R Z EL n0 Q (T'.setTop (mkF m pc' Ls (.ref b :: st)))) : Go p e below s R Z EL n0 Q (T.setTop (mkF m pc Ls (.ref a :: st))) := by
  have n0h := W.n0le
  obtain ⟨⟨k0, locs, X, hS, hk, N⟩, ⟨eT, hZ, hown, C⟩, hh⟩ := W
  have V' : Arh Z h a kA ty z [] vs dv := V
  obtain ⟨T', h', X', e', ex, A', EX, st'⟩ := cloneH X hh.2.1 (show Z.Warmed39 (s.setVm vm0).vm from hZ) (own := own) hown w1 w2 w3 w4 w5 w6 eT V' E (g := mkF m pc Ls (.ref a :: st)) rfl (hsz.trans hh.2.2.2.1.symm) rfl (hb hh.2.2.1 hd) hf (W := Wd) (by show 2 * 0 + _ ≤ _; omega) hlo hcap hc hl
  subst hp
  have Ch := CHr.ext ex C.1
  have A2 : Arv Z h' h.size kA ty z vs dv := A'
  exact Go.up st' (k h.size T' h' rfl ⟨⟨k0, locs, X', hS, Nat.le_trans hk ex.1, N⟩, ⟨e', hZ, hown, C.trans Ch⟩, hh⟩ ((Keep.refl h []).ext ex) Ch ⟨n0h, A2.lt, Safe.ext ex C.1 (Safe.new (Nat.le_refl _))⟩ A2 EX)
theorem s_anew (W : Wk p l e R s m args below meth c Z a0 EL n0 own nm bytes maxL ret T vm0 h cells slots) {C : String} {index : Nat} {n : Int32} (cap : Nat) (w : (Cond.classLink own index C).before a0 Z = true) (w2 : (Cond.arrayOver (.object C)).before a0 Z = true) (hd : decode bytes pc = .ok (.anewarray index, 3)) (hn : ¬ n < 0) (hcap : n.toNatClampNeg ≤ cap) (hb8 : cap * 8 ≤ 536870912) (hc : cells + 1 ≤ R.cells) (hl : slots + cap ≤ R.slots) (hp : pc + 3 = pc')
    (k : ∀ b T' h' kA, b = h.size → Wk p l e R s m args below meth c Z a0 EL n0 own nm bytes maxL ret T' vm0 h' (cells + 1) (slots + cap) → Keep h h' [] → CHr Z EL vm0 h vm0 h' → Mine Z EL n0 vm0 h' b → Arv Z h' b kA (.object C) n (List.replicate n.toNatClampNeg .null) .null → Ovr Z kA C → Go p e below s R Z EL n0 Q (T'.setTop (mkF m pc' Ls (.ref b :: st)))) : Go p e below s R Z EL n0 Q (T.setTop (mkF m pc Ls (.int n :: st))) := by
  have n0h := W.n0le
  obtain ⟨⟨k0, locs, X, hS, hk, N⟩, ⟨eT, hZ, hown, C⟩, hh⟩ := W
  obtain ⟨T', h', kA, X', e', E, A, O, st'⟩ := newR X hh.2.1 (show Z.Warmed39 (s.setVm vm0).vm from hZ) (own := own) hown w w2 eT (g := mkF m pc Ls (.int n :: st)) rfl (hb hh.2.2.1 hd) rfl hn hcap hb8 hc hl
  subst hp
  have Ch := CHr.ext E C.1
  have V := (Arv.new A hn).pad (vs' := [] ++ List.replicate n.toNatClampNeg .null) (pad_rep _ _ _)
  exact Go.up st' (k h.size T' h' kA rfl ⟨⟨k0, locs, X', hS, Nat.le_trans hk E.1, N⟩, ⟨e', hZ, hown, C.trans Ch⟩, hh⟩ ((Keep.refl h []).ext E) Ch ⟨n0h, A.lt, Safe.ext E C.1 (Safe.new (Nat.le_refl _))⟩ V O)
theorem s_putf (W : Wk p l e R s m args below meth c Z a0 EL n0 own nm bytes maxL ret T vm0 h cells slots) {R0 O n d C : String} {index kk : Nat} {ty : FieldType} (w : (Cond.fieldLink own index R0 n d).before a0 Z = true) (via : Via Z R0 O n d) {a : Addr} {v old : Value} (F : Fld Z h a O n d old) (E : Exa Z h a C) (M : Mine Z EL n0 vm0 h a) (L : (Cond.lays C O n d).before a0 Z = true ∨ ((Cond.laysFinal C O n d).before a0 Z = true ∧ own = O ∧ nm = "<init>")) (wi : (Cond.instantiable C kk).before a0 Z = true) (hty : parseFieldDescriptor d = some ty) (hn : narrow ty v = v) (hf : fits ty v = true) (hd : decode bytes pc = .ok (.putfield index, 3)) (hp : pc + 3 = pc')
    (k : ∀ T' h', Wk p l e R s m args below meth c Z a0 EL n0 own nm bytes maxL ret T' vm0 h' cells slots → Keep h h' [a] → CHr Z EL vm0 h vm0 h' → Wr h h' a (Jvm.RoadKit.slotOf Z O n d) v → Fld Z h' a O n d v → Go p e below s R Z EL n0 Q (T'.setTop (mkF m pc' Ls st))) : Go p e below s R Z EL n0 Q (T.setTop (mkF m pc Ls (v :: .ref a :: st))) := by
  have hnm := W.name
  obtain ⟨⟨k0, locs, X, hS, hk, N⟩, ⟨eT, hZ, hown, C⟩, hh⟩ := W
  subst hnm
  obtain ⟨T', h', X', e', Wr', st'⟩ := putF X hh.2.1 (show Z.Warmed39 (s.setVm vm0).vm from hZ) (own := own) (host := "") hown (Or.inl w) via eT F E L wi hty hn hf (g := mkF m pc Ls (v :: .ref a :: st)) rfl rfl (hb hh.2.2.1 hd)
  subst hp
  have Ch := CHr.wr Wr' M.2.2 C.1
  exact Go.up st' (k T' h' ⟨⟨k0, _, X', hS, Nat.le_trans hk Ch.2.1, Fr.snoc X' N M.1⟩, ⟨e', hZ, hown, C.trans Ch⟩, hh⟩ (Keep.of_wr Wr') Ch Wr' (F.same Wr'))
theorem s_putfn (W : Wk p l e R s m args below meth c Z a0 EL n0 own nm bytes maxL ret T vm0 h cells slots) {R0 O n d C : String} {index kk : Nat} {ty : FieldType} (w : (Cond.fieldLink own index R0 n d).before a0 Z = true) (via : Via Z R0 O n d) {a : Addr} {v v' old : Value} (F : Fld Z h a O n d old) (E : Exa Z h a C) (M : Mine Z EL n0 vm0 h a) (L : (Cond.lays C O n d).before a0 Z = true ∨ ((Cond.laysFinal C O n d).before a0 Z = true ∧ own = O ∧ nm = "<init>")) (wi : (Cond.instantiable C kk).before a0 Z = true) (hty : parseFieldDescriptor d = some ty) (hn : narrow ty v = v') (hf : fits ty v' = true) (hd : decode bytes pc = .ok (.putfield index, 3)) (hp : pc + 3 = pc')
    (k : ∀ T' h', Wk p l e R s m args below meth c Z a0 EL n0 own nm bytes maxL ret T' vm0 h' cells slots → Keep h h' [a] → CHr Z EL vm0 h vm0 h' → Wr h h' a (Jvm.RoadKit.slotOf Z O n d) v' → Fld Z h' a O n d v' → Go p e below s R Z EL n0 Q (T'.setTop (mkF m pc' Ls st))) : Go p e below s R Z EL n0 Q (T.setTop (mkF m pc Ls (v :: .ref a :: st))) := by
  have hnm := W.name
  obtain ⟨⟨k0, locs, X, hS, hk, N⟩, ⟨eT, hZ, hown, C⟩, hh⟩ := W
  subst hnm
  obtain ⟨T', h', X', e', Wr', st'⟩ := putFN X hh.2.1 (show Z.Warmed39 (s.setVm vm0).vm from hZ) (own := own) hown w via eT F E L wi hty hn hf (g := mkF m pc Ls (v :: .ref a :: st)) rfl rfl (hb hh.2.2.1 hd)
  subst hp
  have Ch := CHr.wr Wr' M.2.2 C.1
  exact Go.up st' (k T' h' ⟨⟨k0, _, X', hS, Nat.le_trans hk Ch.2.1, Fr.snoc X' N M.1⟩, ⟨e', hZ, hown, C.trans Ch⟩, hh⟩ (Keep.of_wr Wr') Ch Wr' (F.same Wr'))
theorem s_castore (W : Wk p l e R s m args below meth c Z a0 EL n0 own nm bytes maxL ret T vm0 h cells slots) {a : Addr} {kA : ClassId} {z j : Int32} {vs : List Value} {dv : Value} {x : Int32} (i : Nat) (V : Arv Z h a kA .char z vs dv) (M : Mine Z EL n0 vm0 h a) (hj : j.toNatClampNeg = i) (h0 : ¬ j < 0) (hz : j < z) (hi : i < vs.length) (hd : decode bytes pc = .ok (.castore, 1)) (hp : pc + 1 = pc')
    (k : ∀ T' h', Wk p l e R s m args below meth c Z a0 EL n0 own nm bytes maxL ret T' vm0 h' cells slots → Keep h h' [a] → CHr Z EL vm0 h vm0 h' → Arv Z h' a kA .char z (vs.set i (.int (nar .char x))) dv → Go p e below s R Z EL n0 Q (T'.setTop (mkF m pc' Ls st))) : Go p e below s R Z EL n0 Q (T.setTop (mkF m pc Ls (.int x :: .int j :: .ref a :: st))) := by
  obtain ⟨⟨k0, locs, X, hS, hk, N⟩, ⟨eT, hZ, hown, C⟩, hh⟩ := W
  obtain ⟨cl, A, q1, S, q3, H, G⟩ := V
  have hin : ¬ (j < 0 ∨ cl.slots.size ≤ j.toNatClampNeg) := inb_of S ⟨h0, hz⟩
  obtain ⟨T', h', X', e', Wr', st'⟩ := stC X hh.2.1 (show Z.Warmed39 (s.setVm vm0).vm from hZ) eT A hin (g := mkF m pc Ls (.int x :: .int j :: .ref a :: st)) rfl rfl (hb hh.2.2.1 hd)
  subst hp
  have Ch := CHr.wr Wr' M.2.2 C.1
  exact Go.up st' (k T' h' ⟨⟨k0, _, X', hS, Nat.le_trans hk Ch.2.1, Fr.snoc X' N M.1⟩, ⟨e', hZ, hown, C.trans Ch⟩, hh⟩ (Keep.of_wr Wr') Ch (Arv.set A q1 S q3 H G (fits_nar_char x) Wr' i hj hi))
theorem s_iastore (W : Wk p l e R s m args below meth c Z a0 EL n0 own nm bytes maxL ret T vm0 h cells slots) {a : Addr} {kA : ClassId} {z j : Int32} {vs : List Value} {dv : Value} {x : Int32} (i : Nat) (V : Arv Z h a kA .int z vs dv) (M : Mine Z EL n0 vm0 h a) (hj : j.toNatClampNeg = i) (h0 : ¬ j < 0) (hz : j < z) (hi : i < vs.length) (hd : decode bytes pc = .ok (.iastore, 1)) (hp : pc + 1 = pc')
    (k : ∀ T' h', Wk p l e R s m args below meth c Z a0 EL n0 own nm bytes maxL ret T' vm0 h' cells slots → Keep h h' [a] → CHr Z EL vm0 h vm0 h' → Arv Z h' a kA .int z (vs.set i (.int x)) dv → Go p e below s R Z EL n0 Q (T'.setTop (mkF m pc' Ls st))) : Go p e below s R Z EL n0 Q (T.setTop (mkF m pc Ls (.int x :: .int j :: .ref a :: st))) := by
  obtain ⟨⟨k0, locs, X, hS, hk, N⟩, ⟨eT, hZ, hown, C⟩, hh⟩ := W
  obtain ⟨cl, A, q1, S, q3, H, G⟩ := V
  have hin : ¬ (j < 0 ∨ cl.slots.size ≤ j.toNatClampNeg) := inb_of S ⟨h0, hz⟩
  obtain ⟨T', h', X', e', Wr', st'⟩ := stI X hh.2.1 (show Z.Warmed39 (s.setVm vm0).vm from hZ) eT A hin (g := mkF m pc Ls (.int x :: .int j :: .ref a :: st)) rfl rfl (hb hh.2.2.1 hd)
  subst hp
  have Ch := CHr.wr Wr' M.2.2 C.1
  exact Go.up st' (k T' h' ⟨⟨k0, _, X', hS, Nat.le_trans hk Ch.2.1, Fr.snoc X' N M.1⟩, ⟨e', hZ, hown, C.trans Ch⟩, hh⟩ (Keep.of_wr Wr') Ch (Arv.set A q1 S q3 H G rfl Wr' i hj hi))
theorem s_bastore (W : Wk p l e R s m args below meth c Z a0 EL n0 own nm bytes maxL ret T vm0 h cells slots) {a : Addr} {kA : ClassId} {z j : Int32} {vs : List Value} {dv : Value} {x : Int32} (i : Nat) (V : Arv Z h a kA .byte z vs dv) (M : Mine Z EL n0 vm0 h a) (hj : j.toNatClampNeg = i) (h0 : ¬ j < 0) (hz : j < z) (hi : i < vs.length) (hd : decode bytes pc = .ok (.bastore, 1)) (hp : pc + 1 = pc')
    (k : ∀ T' h', Wk p l e R s m args below meth c Z a0 EL n0 own nm bytes maxL ret T' vm0 h' cells slots → Keep h h' [a] → CHr Z EL vm0 h vm0 h' → Arv Z h' a kA .byte z (vs.set i (.int x.toInt8.toInt32)) dv → Go p e below s R Z EL n0 Q (T'.setTop (mkF m pc' Ls st))) : Go p e below s R Z EL n0 Q (T.setTop (mkF m pc Ls (.int x :: .int j :: .ref a :: st))) := by
  obtain ⟨⟨k0, locs, X, hS, hk, N⟩, ⟨eT, hZ, hown, C⟩, hh⟩ := W
  obtain ⟨cl, A, q1, S, q3, H, G⟩ := V
  have hin : ¬ (j < 0 ∨ cl.slots.size ≤ j.toNatClampNeg) := inb_of S ⟨h0, hz⟩
  obtain ⟨T', h', X', e', Wr', st'⟩ := stB X hh.2.1 (show Z.Warmed39 (s.setVm vm0).vm from hZ) eT A hin (g := mkF m pc Ls (.int x :: .int j :: .ref a :: st)) rfl rfl (hb hh.2.2.1 hd)
  subst hp
  have Ch := CHr.wr Wr' M.2.2 C.1
  exact Go.up st' (k T' h' ⟨⟨k0, _, X', hS, Nat.le_trans hk Ch.2.1, Fr.snoc X' N M.1⟩, ⟨e', hZ, hown, C.trans Ch⟩, hh⟩ (Keep.of_wr Wr') Ch (Arv.set A q1 S q3 H G (fits_nar_byte x) Wr' i hj hi))
theorem s_lastore (W : Wk p l e R s m args below meth c Z a0 EL n0 own nm bytes maxL ret T vm0 h cells slots) {a : Addr} {kA : ClassId} {z j : Int32} {vs : List Value} {dv : Value} {x : Int64} (i : Nat) (V : Arv Z h a kA .long z vs dv) (M : Mine Z EL n0 vm0 h a) (hj : j.toNatClampNeg = i) (h0 : ¬ j < 0) (hz : j < z) (hi : i < vs.length) (hd : decode bytes pc = .ok (.lastore, 1)) (hp : pc + 1 = pc')
    (k : ∀ T' h', Wk p l e R s m args below meth c Z a0 EL n0 own nm bytes maxL ret T' vm0 h' cells slots → Keep h h' [a] → CHr Z EL vm0 h vm0 h' → Arv Z h' a kA .long z (vs.set i (.long x)) dv → Go p e below s R Z EL n0 Q (T'.setTop (mkF m pc' Ls st))) : Go p e below s R Z EL n0 Q (T.setTop (mkF m pc Ls (.long x :: .int j :: .ref a :: st))) := by
  obtain ⟨⟨k0, locs, X, hS, hk, N⟩, ⟨eT, hZ, hown, C⟩, hh⟩ := W
  obtain ⟨cl, A, q1, S, q3, H, G⟩ := V
  have hin : ¬ (j < 0 ∨ cl.slots.size ≤ j.toNatClampNeg) := inb_of S ⟨h0, hz⟩
  obtain ⟨T', h', X', e', Wr', st'⟩ := stJ X hh.2.1 (show Z.Warmed39 (s.setVm vm0).vm from hZ) eT A hin (g := mkF m pc Ls (.long x :: .int j :: .ref a :: st)) rfl rfl (hb hh.2.2.1 hd)
  subst hp
  have Ch := CHr.wr Wr' M.2.2 C.1
  exact Go.up st' (k T' h' ⟨⟨k0, _, X', hS, Nat.le_trans hk Ch.2.1, Fr.snoc X' N M.1⟩, ⟨e', hZ, hown, C.trans Ch⟩, hh⟩ (Keep.of_wr Wr') Ch (Arv.set A q1 S q3 H G rfl Wr' i hj hi))
theorem s_aastore (W : Wk p l e R s m args below meth c Z a0 EL n0 own nm bytes maxL ret T vm0 h cells slots) {a : Addr} {kA : ClassId} {z j : Int32} {vs : List Value} {dv v : Value} {ty : FieldType} (i : Nat) (V : Arv Z h a kA ty z vs dv) (hty : ty.isReference = true) (hv : fits ty v = true) (F : Sto Z h a v) (M : Mine Z EL n0 vm0 h a) (hj : j.toNatClampNeg = i) (h0 : ¬ j < 0) (hz : j < z) (hi : i < vs.length) (hd : decode bytes pc = .ok (.aastore, 1)) (hp : pc + 1 = pc')
    (k : ∀ T' h', Wk p l e R s m args below meth c Z a0 EL n0 own nm bytes maxL ret T' vm0 h' cells slots → Keep h h' [a] → CHr Z EL vm0 h vm0 h' → Arv Z h' a kA ty z (vs.set i v) dv → Go p e below s R Z EL n0 Q (T'.setTop (mkF m pc' Ls st))) : Go p e below s R Z EL n0 Q (T.setTop (mkF m pc Ls (v :: .int j :: .ref a :: st))) := by
  obtain ⟨⟨k0, locs, X, hS, hk, N⟩, ⟨eT, hZ, hown, C⟩, hh⟩ := W
  obtain ⟨cl, A, q1, S, q3, H, G⟩ := V
  have hin : ¬ (j < 0 ∨ cl.slots.size ≤ j.toNatClampNeg) := inb_of S ⟨h0, hz⟩
  obtain ⟨T', h', X', e', Wr', st'⟩ := stR X hh.2.1 (show Z.Warmed39 (s.setVm vm0).vm from hZ) eT A hin hty F (g := mkF m pc Ls (v :: .int j :: .ref a :: st)) rfl rfl (hb hh.2.2.1 hd)
  subst hp
  have Ch := CHr.wr Wr' M.2.2 C.1
  exact Go.up st' (k T' h' ⟨⟨k0, _, X', hS, Nat.le_trans hk Ch.2.1, Fr.snoc X' N M.1⟩, ⟨e', hZ, hown, C.trans Ch⟩, hh⟩ (Keep.of_wr Wr') Ch (Arv.set A q1 S q3 H G hv Wr' i hj hi))
theorem s_iaload (W : Wk p l e R s m args below meth c Z a0 EL n0 own nm bytes maxL ret T vm0 h cells slots) {a : Addr} {kA : ClassId} {z j : Int32} {vs : List Value} {dv : Value} (v : Value) (V : Arv Z h a kA .int z vs dv) (h0 : ¬ j < 0) (hz : j < z) (hv : vs.getD j.toNatClampNeg dv = v) (hd : decode bytes pc = .ok (.iaload, 1)) (hp : pc + 1 = pc') (k : Go p e below s R Z EL n0 Q (T.setTop (mkF m pc' Ls (v :: st)))) : Go p e below s R Z EL n0 Q (T.setTop (mkF m pc Ls (.int j :: .ref a :: st))) := by
  obtain ⟨⟨k0, locs, X, hS, hk, N⟩, ⟨eT, hZ, hown, C⟩, hh⟩ := W
  obtain ⟨cl, A, q1, S, q3, H, G⟩ := V
  have hin : ¬ (j < 0 ∨ cl.slots.size ≤ j.toNatClampNeg) := inb_of S ⟨h0, hz⟩
  subst hp
  exact Go.up (fun t q => X.iaload hh.2.1 (j := j) (v := v) (by rw [eT]; exact A.1) (State.isArrayOf_alike (show Z.vm.Alike (s.setVm vm0).vm from hZ.alike) A.2.1) A.2.2 hin (H.at hin hv) (g := mkF m pc Ls (.int j :: .ref a :: st)) rfl rfl (hb hh.2.2.1 hd) t q) k
theorem s_caload (W : Wk p l e R s m args below meth c Z a0 EL n0 own nm bytes maxL ret T vm0 h cells slots) {a : Addr} {kA : ClassId} {z j : Int32} {vs : List Value} {dv : Value} (v : Value) (V : Arv Z h a kA .char z vs dv) (h0 : ¬ j < 0) (hz : j < z) (hv : vs.getD j.toNatClampNeg dv = v) (hd : decode bytes pc = .ok (.caload, 1)) (hp : pc + 1 = pc') (k : Go p e below s R Z EL n0 Q (T.setTop (mkF m pc' Ls (v :: st)))) : Go p e below s R Z EL n0 Q (T.setTop (mkF m pc Ls (.int j :: .ref a :: st))) := by
  obtain ⟨⟨k0, locs, X, hS, hk, N⟩, ⟨eT, hZ, hown, C⟩, hh⟩ := W
  obtain ⟨cl, A, q1, S, q3, H, G⟩ := V
  have hin : ¬ (j < 0 ∨ cl.slots.size ≤ j.toNatClampNeg) := inb_of S ⟨h0, hz⟩
  subst hp
  exact Go.up (fun t q => X.caload hh.2.1 (j := j) (v := v) (by rw [eT]; exact A.1) (State.isArrayOf_alike (show Z.vm.Alike (s.setVm vm0).vm from hZ.alike) A.2.1) A.2.2 hin (H.at hin hv) (g := mkF m pc Ls (.int j :: .ref a :: st)) rfl rfl (hb hh.2.2.1 hd) t q) k
theorem s_baload (W : Wk p l e R s m args below meth c Z a0 EL n0 own nm bytes maxL ret T vm0 h cells slots) {a : Addr} {kA : ClassId} {z j : Int32} {vs : List Value} {dv : Value} (v : Value) (V : Arv Z h a kA .byte z vs dv) (h0 : ¬ j < 0) (hz : j < z) (hv : vs.getD j.toNatClampNeg dv = v) (hd : decode bytes pc = .ok (.baload, 1)) (hp : pc + 1 = pc') (k : Go p e below s R Z EL n0 Q (T.setTop (mkF m pc' Ls (v :: st)))) : Go p e below s R Z EL n0 Q (T.setTop (mkF m pc Ls (.int j :: .ref a :: st))) := by
  obtain ⟨⟨k0, locs, X, hS, hk, N⟩, ⟨eT, hZ, hown, C⟩, hh⟩ := W
  obtain ⟨cl, A, q1, S, q3, H, G⟩ := V
  have hin : ¬ (j < 0 ∨ cl.slots.size ≤ j.toNatClampNeg) := inb_of S ⟨h0, hz⟩
  subst hp
  exact Go.up (fun t q => X.baloadBytes hh.2.1 (j := j) (v := v) (by rw [eT]; exact A.1) (State.isArrayOf_alike (show Z.vm.Alike (s.setVm vm0).vm from hZ.alike) A.2.1) A.2.2 hin (H.at hin hv) (g := mkF m pc Ls (.int j :: .ref a :: st)) rfl rfl (hb hh.2.2.1 hd) t q) k
theorem s_laload (W : Wk p l e R s m args below meth c Z a0 EL n0 own nm bytes maxL ret T vm0 h cells slots) {a : Addr} {kA : ClassId} {z j : Int32} {vs : List Value} {dv : Value} (v : Value) (V : Arv Z h a kA .long z vs dv) (h0 : ¬ j < 0) (hz : j < z) (hv : vs.getD j.toNatClampNeg dv = v) (hd : decode bytes pc = .ok (.laload, 1)) (hp : pc + 1 = pc') (k : Go p e below s R Z EL n0 Q (T.setTop (mkF m pc' Ls (v :: st)))) : Go p e below s R Z EL n0 Q (T.setTop (mkF m pc Ls (.int j :: .ref a :: st))) := by
  obtain ⟨⟨k0, locs, X, hS, hk, N⟩, ⟨eT, hZ, hown, C⟩, hh⟩ := W
  obtain ⟨cl, A, q1, S, q3, H, G⟩ := V
  have hin : ¬ (j < 0 ∨ cl.slots.size ≤ j.toNatClampNeg) := inb_of S ⟨h0, hz⟩
  subst hp
  exact Go.up (fun t q => X.laload hh.2.1 (j := j) (v := v) (by rw [eT]; exact A.1) (State.isArrayOf_alike (show Z.vm.Alike (s.setVm vm0).vm from hZ.alike) A.2.1) A.2.2 hin (H.at hin hv) (g := mkF m pc Ls (.int j :: .ref a :: st)) rfl rfl (hb hh.2.2.1 hd) t q) k
theorem s_aaload (W : Wk p l e R s m args below meth c Z a0 EL n0 own nm bytes maxL ret T vm0 h cells slots) {a : Addr} {kA : ClassId} {z j : Int32} {vs : List Value} {dv : Value} {ty : FieldType} (v : Value) (V : Arv Z h a kA ty z vs dv) (hty : ty.isReference = true) (h0 : ¬ j < 0) (hz : j < z) (hv : vs.getD j.toNatClampNeg dv = v) (hd : decode bytes pc = .ok (.aaload, 1)) (hp : pc + 1 = pc') (k : Go p e below s R Z EL n0 Q (T.setTop (mkF m pc' Ls (v :: st)))) : Go p e below s R Z EL n0 Q (T.setTop (mkF m pc Ls (.int j :: .ref a :: st))) := by
  obtain ⟨⟨k0, locs, X, hS, hk, N⟩, ⟨eT, hZ, hown, C⟩, hh⟩ := W
  obtain ⟨cl, A, q1, S, q3, H, G⟩ := V
  have hin : ¬ (j < 0 ∨ cl.slots.size ≤ j.toNatClampNeg) := inb_of S ⟨h0, hz⟩
  subst hp
  exact Go.up (fun t q => X.aaload hh.2.1 (j := j) (v := v) (by rw [eT]; exact A.1) (State.isArrayOf_alike (show Z.vm.Alike (s.setVm vm0).vm from hZ.alike) A.2.1) hty A.2.2 hin (H.at hin hv) (g := mkF m pc Ls (.int j :: .ref a :: st)) rfl rfl (hb hh.2.2.1 hd) t q) k
theorem s_alen (W : Wk p l e R s m args below meth c Z a0 EL n0 own nm bytes maxL ret T vm0 h cells slots) {a : Addr} {kA : ClassId} {z : Int32} {vs : List Value} {dv : Value} {ty : FieldType} (V : Arv Z h a kA ty z vs dv) (hd : decode bytes pc = .ok (.arraylength, 1)) (hp : pc + 1 = pc') (k : Go p e below s R Z EL n0 Q (T.setTop (mkF m pc' Ls (.int z :: st)))) : Go p e below s R Z EL n0 Q (T.setTop (mkF m pc Ls (.ref a :: st))) := by
  obtain ⟨⟨k0, locs, X, hS, hk, N⟩, ⟨eT, hZ, hown, C⟩, hh⟩ := W
  obtain ⟨cl, A, q1, S, q3, H, G⟩ := V
  subst hp
  have ez := len_of S q3
  refine Go.up (fun t q => X.arraylength hh.2.1 (by rw [eT]; exact A.1) (State.isArrayOf_alike (show Z.vm.Alike (s.setVm vm0).vm from hZ.alike) A.2.1) (g := mkF m pc Ls (.ref a :: st)) rfl rfl (hb hh.2.2.1 hd) t q) ?_
  rw [ez]; exact k
theorem s_objinit (W : Wk p l e R s m args below meth c Z a0 EL n0 own nm bytes maxL ret T vm0 h cells slots) {idx : Nat} (w1 : (Cond.methodLink own idx Lib.objectInit).before a0 Z = true) (w2 : (Cond.instanceMethod Lib.objectInit).before a0 Z = true) (w3 : (Cond.code Lib.objectInit ⟨#[0xb1]⟩ 1 none).before a0 Z = true) {a : Addr} (hsz : Ls.size = maxL) (hd : decode bytes pc = .ok (.invokespecial idx, 3)) (Wd : Nat) (hWd : (st.map fun v => v.category).sum ≤ Wd) (hf : 1 ≤ R.frames) (hl : Wd + 12 ≤ R.locals) (hp : pc + 3 = pc') (k : ∀ T', Wk p l e R s m args below meth c Z a0 EL n0 own nm bytes maxL ret T' vm0 h cells slots → Go p e below s R Z EL n0 Q (T'.setTop (mkF m pc' Ls st))) : Go p e below s R Z EL n0 Q (T.setTop (mkF m pc Ls (.ref a :: st))) := by
  obtain ⟨⟨k0, locs, X, hS, hk, N⟩, ⟨eT, hZ, hown, C⟩, hh⟩ := W
  obtain ⟨T', X', e', st'⟩ := initO X hh.2.1 (show Z.Warmed39 (s.setVm vm0).vm from hZ) (own := own) hown w1 w2 w3 eT (g := mkF m pc Ls (.ref a :: st)) rfl (hsz.trans hh.2.2.2.1.symm) rfl (hb hh.2.2.1 hd) hf (W := Wd) (by show 2 * 0 + _ ≤ _; omega) hl
  subst hp
  exact Go.up st' (k T' ⟨⟨k0, locs, X', hS, hk, N⟩, ⟨e', hZ, hown, C⟩, hh⟩)

theorem s_ldcS (W : Wk p l e R s m args below meth c Z a0 EL n0 own nm bytes maxL ret T vm0 h cells slots) {index : Nat} {text : String} (n : Nat) (w : (Cond.stringLink own index text).before a0 Z = true) (wS : ∀ a ∈ Bundle.stringAtoms, a.before a0 Z = true) (hmem : (own, index) ∈ EL) {vs : List Value} {z : Int32} (ht : (∀ c ∈ text.toList, c.toNat < 256) ∧ text.toList.map (fun c => Value.int (Jvm.Lit.byteI c.toNat.toUInt16)) = vs) (hz : ¬ z < 0) (hlz : z.toNatClampNeg = vs.length) (hd : decode bytes pc = .ok (.ldc index, 2)) (hn : 4 * text.toList.length ≤ n) (hbig : n ≤ 536870912) (hc : cells + 2 ≤ R.cells) (hl' : slots + (n + 4) ≤ R.slots) (hp : pc + 2 = pc')
    (k : ∀ a b kB T' vm' h', Wk p l e R s m args below meth c Z a0 EL n0 own nm bytes maxL ret T' vm' h' (cells + 2) (slots + (n + 4)) → Keep h h' [] → CHr Z EL vm0 h vm' h' → Exa Z h' a "java/lang/String" → Fld Z h' a "java/lang/String" "coder" "B" (.int 0) → Fld Z h' a "java/lang/String" "value" "[B" (.ref b) → Arv Z h' b kB .byte z vs (.int 0) → (∀ x, Safe Z EL vm' h' x → x ≠ a ∧ x ≠ b) → Go p e below s R Z EL n0 Q (T'.setTop (mkF m pc' Ls (.ref a :: st)))) : Go p e below s R Z EL n0 Q (T.setTop (mkF m pc Ls st)) := by
  obtain ⟨⟨k0, locs, X, hS, hk, N⟩, ⟨eT, hZ, hown, C⟩, hh⟩ := W
  obtain ⟨a, T', h', k1, b, kB, X', e', E, hS', hk', hZ', hown', x1, x2, x3, x4, -, -, Ch, -, hne, st'⟩ := ldcCH X hh.2.1 hZ (own := own) hown w wS eT hS.1 hk hh.2.2.2.2.2.2.2 hmem C.1 ht hz hlz (g := mkF m pc Ls st) rfl (hb hh.2.2.1 hd) hn hbig hc hl'
  subst hp
  exact Go.up st' (k a b kB T' T'.vm h' ⟨⟨k1, locs, X', ⟨hS', fun q => absurd q (by decide)⟩, hk', N⟩, ⟨e', hZ', hown', C.trans Ch⟩, hh⟩ ((Keep.refl h []).ext E) Ch x1 x2 x3 x4 hne)
theorem s_ldcO (W : Wk p l e R s m args below meth c Z a0 EL n0 own nm bytes maxL ret T vm0 h cells slots) {index : Nat} {text : String} (n : Nat) (w : (Cond.stringLink own index text).before a0 Z = true) (wS : ∀ a ∈ Bundle.stringAtoms, a.before a0 Z = true) (hd : decode bytes pc = .ok (.ldc index, 2)) (hn : 4 * text.toList.length ≤ n) (hbig : n ≤ 536870912) (hc : cells + 2 ≤ R.cells) (hl' : slots + (n + 4) ≤ R.slots) (hp : pc + 2 = pc')
    (k : ∀ a T' vm' h', Wk p l e R s m args below meth c Z a0 EL n0 own nm bytes maxL ret T' vm' h' (cells + 2) (slots + (n + 4)) → Keep h h' [] → CHr Z EL vm0 h vm' h' → Go p e below s R Z EL n0 Q (T'.setTop (mkF m pc' Ls (.ref a :: st)))) : Go p e below s R Z EL n0 Q (T.setTop (mkF m pc Ls st)) := by
  obtain ⟨⟨k0, locs, X, hS, hk, N⟩, ⟨eT, hZ, hown, C⟩, hh⟩ := W
  obtain ⟨a, T', h', k1, X', e', E, hS', hk', hZ', hown', Ch, -, st'⟩ := ldcOH X hh.2.1 hZ (own := own) hown w wS eT hS.1 hk hh.2.2.2.2.2.2.2 C.1 (g := mkF m pc Ls st) rfl (hb hh.2.2.1 hd) hn hbig hc hl'
  subst hp
  exact Go.up st' (k a T' T'.vm h' ⟨⟨k1, locs, X', ⟨hS', fun q => absurd q (by decide)⟩, hk', N⟩, ⟨e', hZ', hown', C.trans Ch⟩, hh⟩ ((Keep.refl h []).ext E) Ch)


theorem Con.back {y : MethodName} {bytes' : ByteArray} {maxL' : Nat} {ret' : Option FieldType} {rm : Room} {len W : Nat} {as' : Array Value} {S : List Addr} {Q' : Option Value → Vm → Heap → Prop}
    (hM : Con l Z EL n0 y bytes' maxL' ret' [] rm as' h S Q') (hZ : Z.Warmed39 vm0) (wc : (Cond.code y bytes' maxL' ret').before a0 Z = true) (wz : (Cond.initialized y.cls).before a0 Z = true) (hf : rm.frames + 1 ≤ R.frames) (hl : W + (maxL' + 11) + rm.locals ≤ R.locals) (hEL : EW Z a0 EL) (H : CHv Z EL vm0 h) (hS : ∀ x ∈ S, x < h.size ∧ Safe Z EL vm0 h x) :
    BackS l R p e below (s.setVm vm0) args y len W (fun A a => a = as' ∧ A.U.heap = h ∧ A.cells + rm.cells ≤ R.cells ∧ A.slots + rm.slots ≤ R.slots)
      (fun A _ v B => ∃ L, Q' v B.U.vm B.U.heap ∧ Fr n0 L ∧ B.locs = A.locs ++ L ∧ B.cells = A.cells + rm.cells ∧ B.slots = A.slots + rm.slots ∧ CHr Z EL vm0 h B.U.vm B.U.heap ∧ (NW = true → (s.setVm vm0).WarmedH B.U.vm)) :=
  BackS.of_freeW (bytes := bytes') (maxL := maxL') (ret := ret') (E := fun _ first o t L k n => k = rm.cells ∧ n = rm.slots ∧ (∃ v, o = .returned v ∧ Q' v t.vm t.heap) ∧ Fr n0 L ∧ CHr Z EL first.vm first.heap t.vm t.heap ∧ (NW = true → first.WarmedH t.vm)) hM hf hl
    (fun m meth c A a Y hp => have hU : Z.Warmed39 A.U.vm := wtrans (s := s.setVm vm0) hZ Y.warmed
      ⟨by show (Cond.and _ .tt).before a A.U = true; rw [Cond.before_and, mv hU wc]; rfl, mv hU wc, mv hU wz, hp.2.2.1, hp.2.2.2⟩)
    (fun m meth c A a g mk Y hp => ⟨hp.1, wtrans (s := s.setVm vm0) hZ Y.warmed, hp.2.1, (CHv.at Y hZ hEL H).1, fun x hx => (CHv.at Y hZ hEL H).safe (hS x hx).1 (hS x hx).2⟩) (fun _ _ _ _ _ _ _ _ _ => trivial)
    (fun _ _ _ _ ⟨v, L, h1, h2, h3, h4, h5⟩ => ⟨L, _, _, h5.1, rfl, rfl, ⟨v, h1, h2⟩, h3, h4, h5.2⟩)
    (fun m meth c A a g mk v t L k n Y hp _ _ ⟨e1, e2, ⟨v', e3, e4⟩, e5, e6, e7⟩ => by
      cases e3; subst e1 e2
      refine ⟨L, e4, e5, rfl, rfl, rfl, (CHv.at Y hZ hEL H).trans ?_, fun q => State.WarmedH.trans (t := A.U) Y.warmed (e7 q)⟩
      rw [← hp.2.1]; exact e6)
theorem Con.of {y : MethodName} {bytes' : ByteArray} {maxL' : Nat} {ret' : Option FieldType} {ws : List Cond} {rm : Room} {as' : Array Value} {S : List Addr} {Q' : Option Value → Vm → Heap → Prop} (hpl : plainFor y = true) (O : Old Z n0 h) (hEL : EW Z a0 EL)
    (hbody : ∀ p e s m below meth c T, Wk p l e rm s m as' below meth c Z a0 EL n0 y.cls y.name bytes' maxL' ret' T s.vm h 0 0 → s.heap = h → (∀ x ∈ S, Safe Z EL s.vm h x) → Go p e below s rm Z EL n0 Q' (T.setTop (entryFrame m as' maxL'))) :
    Con l Z EL n0 y bytes' maxL' ret' ws rm as' h S Q' := by
  refine MetFree.of_bodySF hpl hisR ?_
  intro p e s m args below meth c s₁ Bd hml hP hK
  obtain ⟨rfl, hZ, rfl, hC, hSafe⟩ := hP
  have hown : s.vm.findClass y.cls = some m.cls := findClass_of_methodNamed Bd.named
  have hnm := (name_of_methodNamed Bd.named Bd.method).1
  have X0 : Stand p l e rm s m args below meth c s₁ [] 0 0 := Stand.of_body Bd
  have e0 : s₁.heap = s.heap := by rw [Bd.state]; rfl
  exact hbody p e s m below meth c s₁ ⟨⟨0, [], X0, ⟨(State.WarmedH.refl s).since 0, fun _ => State.WarmedH.refl s⟩, Nat.zero_le _, Fr.nil n0⟩, ⟨e0, hZ, hown, CHr.refl hC⟩, O, Bd.exec, Bd.bytes, hml, Bd.returns, Bd.notSynchronized, hnm, hEL⟩ rfl hSafe

theorem nf_mv {y : MethodName} (hZ : Z.Warmed39 vm0) (wf : NotFace Z y) : NotFace (s.setVm vm0) y := fun r0 h0 => by
  have q : (Z.setVm vm0).methodNamed? y = Z.methodNamed? y := State.methodNamed?_setVm hZ.alike y
  have h0' : Z.methodNamed? y = some r0 := q.symm.trans h0
  obtain ⟨kr, hkr, hn⟩ := wf r0 h0'
  obtain ⟨k', q1, q2⟩ := hZ.alike.2.2 _ _ hkr
  exact ⟨k', q1, by rw [q2]; exact hn⟩
theorem PrivateAt.of_word {y : MethodName} {args : Array Value} {s : State} (w : (Cond.privateMethod y).before args s = true) : s.PrivateAt y := Cond.privateMethod_at w
theorem s_static (W : Wk p l e R s m args below meth c Z a0 EL n0 own nm bytes maxL ret T vm0 h cells slots) {index : Nat} {y : MethodName} {bytes' : ByteArray} {maxL' : Nat} {ret' : Option FieldType} {rm : Room} {S : List Addr} {Q' : Option Value → Vm → Heap → Prop} (w1 : (Cond.methodLink own index y).before a0 Z = true) (w2 : (Cond.static y).before a0 Z = true) (wz : (Cond.initialized y.cls).before a0 Z = true) (wc : (Cond.code y bytes' maxL' ret').before a0 Z = true) (hy : y.cls ≠ "java/lang/invoke/MethodHandle" ∧ y.cls ≠ "java/lang/invoke/VarHandle") {ps : List FieldType} {r : Option FieldType} (pd : parseMethodDescriptor y.desc = some ⟨ps, r⟩) (argsL : List Value) (hln : argsL.length = ps.length) (hM : Con l Z EL n0 y bytes' maxL' ret' [] rm argsL.toArray h S Q') (hSf : ∀ x ∈ S, x < h.size ∧ Safe Z EL vm0 h x) (hsz : Ls.size = maxL) (hd : decode bytes pc = .ok (.invokestatic index, 3)) (Wd : Nat) (hWd : (st.map fun v => v.category).sum ≤ Wd) (hf : rm.frames + 1 ≤ R.frames) (hlo : Wd + (maxL' + 11) + rm.locals ≤ R.locals) (hc : cells + rm.cells ≤ R.cells) (hl : slots + rm.slots ≤ R.slots) (hp : pc + 3 = pc')
    (k : ∀ v T' vm' h', Wk p l e R s m args below meth c Z a0 EL n0 own nm bytes maxL ret T' vm' h' (cells + rm.cells) (slots + rm.slots) → CHr Z EL vm0 h vm' h' → Q' v vm' h' → Go p e below s R Z EL n0 Q (T'.setTop (mkF m pc' Ls (v.toList ++ st)))) : Go p e below s R Z EL n0 Q (T.setTop (mkF m pc Ls (argsL.reverse ++ st))) := by
  obtain ⟨⟨k0, locs, X, hS, hk, N⟩, ⟨eT, hZ, hown, C⟩, hh⟩ := W
  obtain ⟨v, vm1, ⟨U, L1, c1, n1⟩, hW1, X', hS1, hgr, ⟨L, hQ, hF, hL, hcc, hnn, hC, hNW⟩, hsteps⟩ := callSS X hh.2.1 (own := own) (index := index) (y := y) (bytes := bytes') (maxL := maxL') (ret := ret') hown (mv (s := s.setVm vm0) hZ w1) (mv (s := s.setVm vm0) hZ w2) (mv (s := s.setVm vm0) hZ wz) (mv (s := s.setVm vm0) hZ wc) hy (hM.back (p := p) (e := e) (below := below) (args := args) (len := 3) (R := R) (s := s) (W := Wd) hZ wc wz hf hlo hh.2.2.2.2.2.2.2 C.1 hSf) (g := mkF m pc Ls (argsL.reverse ++ st)) rfl (hsz.trans hh.2.2.2.1.symm) (argsL := argsL) (rest := st) (lenOf pd hln) rfl (by show 2 * 0 + _ ≤ _; omega) (hb hh.2.2.1 hd) (fun _ _ => ⟨rfl, eT, hc, hl⟩)
  dsimp only [Pt.U, Pt.locs, Pt.cells, Pt.slots] at X' hS1 hgr hQ hL hcc hnn hC hNW hsteps
  subst hL hcc hnn hp
  have hZ' : Z.Warmed39 U.vm := State.Warmed39.trans (t := s.setVm vm0) hZ hS1.1
  have hown' : U.vm.findClass own = some m.cls := (hS1.1.alike.findClass _ _).trans hown
  rw [eT] at hgr
  exact Go.up (fun t q => hsteps.trans q) (k v U U.vm U.heap ⟨⟨_, _, X', ⟨hS.1.trans hS1 (Nat.le_trans hk hgr), fun q => State.WarmedH.trans (t := s.setVm vm0) (hS.2 q) (hNW q)⟩, Nat.le_refl _, N.app hF⟩, ⟨rfl, hZ', hown', C.trans hC⟩, hh⟩ hC hQ)
theorem s_init (W : Wk p l e R s m args below meth c Z a0 EL n0 own nm bytes maxL ret T vm0 h cells slots) {index : Nat} {y : MethodName} {bytes' : ByteArray} {maxL' : Nat} {rm : Room} {S : List Addr} {Q' : Option Value → Vm → Heap → Prop} (hy1 : y.name = "<init>") (w1 : (Cond.methodLink own index y).before a0 Z = true) (w2 : (Cond.instanceMethod y).before a0 Z = true) (wz : (Cond.initialized y.cls).before a0 Z = true) (wc : (Cond.code y bytes' maxL' none).before a0 Z = true) (hy : y.cls ≠ "java/lang/invoke/MethodHandle" ∧ y.cls ≠ "java/lang/invoke/VarHandle") {ps : List FieldType} {r : Option FieldType} (pd : parseMethodDescriptor y.desc = some ⟨ps, r⟩) (argsL : List Value) (hln : argsL.length = ps.length) {a : Addr} (hM : Con l Z EL n0 y bytes' maxL' none [] rm (.ref a :: argsL).toArray h S Q') (hSf : ∀ x ∈ S, x < h.size ∧ Safe Z EL vm0 h x) (hsz : Ls.size = maxL) (hd : decode bytes pc = .ok (.invokespecial index, 3)) (Wd : Nat) (hWd : (st.map fun v => v.category).sum ≤ Wd) (hf : rm.frames + 1 ≤ R.frames) (hlo : Wd + (maxL' + 11) + rm.locals ≤ R.locals) (hc : cells + rm.cells ≤ R.cells) (hl : slots + rm.slots ≤ R.slots) (hp : pc + 3 = pc')
    (k : ∀ v T' vm' h', Wk p l e R s m args below meth c Z a0 EL n0 own nm bytes maxL ret T' vm' h' (cells + rm.cells) (slots + rm.slots) → CHr Z EL vm0 h vm' h' → Q' v vm' h' → Go p e below s R Z EL n0 Q (T'.setTop (mkF m pc' Ls (v.toList ++ st)))) : Go p e below s R Z EL n0 Q (T.setTop (mkF m pc Ls (argsL.reverse ++ .ref a :: st))) := by
  obtain ⟨⟨k0, locs, X, hS, hk, N⟩, ⟨eT, hZ, hown, C⟩, hh⟩ := W
  obtain ⟨v, vm1, ⟨U, L1, c1, n1⟩, hW1, X', hS1, hgr, ⟨L, hQ, hF, hL, hcc, hnn, hC, hNW⟩, hsteps⟩ := X.specialBackS hh.2.1 (own := own) (index := index) (y := y) hy1 hown (mv (s := s.setVm vm0) hZ w1) (mv (s := s.setVm vm0) hZ w2) (bytes := bytes') (maxL := maxL') (mv (s := s.setVm vm0) hZ wc) hy (hM.back (p := p) (e := e) (below := below) (args := args) (len := 3) (R := R) (s := s) (W := Wd) hZ wc wz hf hlo hh.2.2.2.2.2.2.2 C.1 hSf) (g := mkF m pc Ls (argsL.reverse ++ .ref a :: st)) rfl (hsz.trans hh.2.2.2.1.symm) (Steps.refl _) (a := a) (argsL := argsL) (rest := st) (lenOf pd hln) rfl (by show 2 * 0 + _ ≤ _; omega) (hb hh.2.2.1 hd) (fun _ _ => ⟨rfl, eT, hc, hl⟩)
  dsimp only [Pt.U, Pt.locs, Pt.cells, Pt.slots] at X' hS1 hgr hQ hL hcc hnn hC hNW hsteps
  subst hL hcc hnn hp
  have hZ' : Z.Warmed39 U.vm := State.Warmed39.trans (t := s.setVm vm0) hZ hS1.1
  have hown' : U.vm.findClass own = some m.cls := (hS1.1.alike.findClass _ _).trans hown
  rw [eT] at hgr
  exact Go.up (fun t q => hsteps.trans q) (k v U U.vm U.heap ⟨⟨_, _, X', ⟨hS.1.trans hS1 (Nat.le_trans hk hgr), fun q => State.WarmedH.trans (t := s.setVm vm0) (hS.2 q) (hNW q)⟩, Nat.le_refl _, N.app hF⟩, ⟨rfl, hZ', hown', C.trans hC⟩, hh⟩ hC hQ)
theorem s_virt (W : Wk p l e R s m args below meth c Z a0 EL n0 own nm bytes maxL ret T vm0 h cells slots) {index : Nat} {C0 : String} {y z : MethodName} {bytes' : ByteArray} {maxL' : Nat} {ret' : Option FieldType} {rm : Room} {S : List Addr} {Q' : Option Value → Vm → Heap → Prop} (w1 : (Cond.methodLink own index y).before a0 Z = true) (w2 : (Cond.declares y).before a0 Z = true) (w3 : (Cond.selects C0 y z).before a0 Z = true) (w4 : (Cond.instanceMethod z).before a0 Z = true) (wz : (Cond.initialized z.cls).before a0 Z = true) (wc : (Cond.code z bytes' maxL' ret').before a0 Z = true) (wf : NotFace Z y) (hy : y.cls ≠ "java/lang/invoke/MethodHandle" ∧ y.cls ≠ "java/lang/invoke/VarHandle") {ps : List FieldType} {r : Option FieldType} (pd : parseMethodDescriptor y.desc = some ⟨ps, r⟩) (argsL : List Value) (hln : argsL.length = ps.length) {a : Addr} (E : Exa Z h a C0) (hM : Con l Z EL n0 z bytes' maxL' ret' [] rm (.ref a :: argsL).toArray h S Q') (hSf : ∀ x ∈ S, x < h.size ∧ Safe Z EL vm0 h x) (hsz : Ls.size = maxL) (hd : decode bytes pc = .ok (.invokevirtual index, 3)) (Wd : Nat) (hWd : (st.map fun v => v.category).sum ≤ Wd) (hf : rm.frames + 1 ≤ R.frames) (hlo : Wd + (maxL' + 11) + rm.locals ≤ R.locals) (hc : cells + rm.cells ≤ R.cells) (hl : slots + rm.slots ≤ R.slots) (hp : pc + 3 = pc')
    (k : ∀ v T' vm' h', Wk p l e R s m args below meth c Z a0 EL n0 own nm bytes maxL ret T' vm' h' (cells + rm.cells) (slots + rm.slots) → CHr Z EL vm0 h vm' h' → Q' v vm' h' → Go p e below s R Z EL n0 Q (T'.setTop (mkF m pc' Ls (v.toList ++ st)))) : Go p e below s R Z EL n0 Q (T.setTop (mkF m pc Ls (argsL.reverse ++ .ref a :: st))) := by
  obtain ⟨⟨k0, locs, X, hS, hk, N⟩, ⟨eT, hZ, hown, C⟩, hh⟩ := W
  obtain ⟨cq, kq, qa, qb, qc⟩ := isOf (show Z.Warmed39 (s.setVm vm0).vm from hZ) eT E
  have wf' : NotFace (s.setVm vm0) y := nf_mv hZ wf
  obtain ⟨v, vm1, ⟨U, L1, c1, n1⟩, hW1, X', hS1, hgr, ⟨L, hQ, hF, hL, hcc, hnn, hC, hNW⟩, hsteps⟩ := X.virtualBackS hh.2.1 (own := own) (C := C0) (index := index) (y := y) (z := z) hown (mv (s := s.setVm vm0) hZ w1) (mv (s := s.setVm vm0) hZ w2) wf' (mv (s := s.setVm vm0) hZ w3) (mv (s := s.setVm vm0) hZ w4) hy (hM.back (p := p) (e := e) (below := below) (args := args) (len := 3) (R := R) (s := s) (W := Wd) hZ wc wz hf hlo hh.2.2.2.2.2.2.2 C.1 hSf) qa qc (g := mkF m pc Ls (argsL.reverse ++ .ref a :: st)) rfl (hsz.trans hh.2.2.2.1.symm) (Steps.refl _) (argsL := argsL) (rest := st) (lenOf pd hln) rfl (by show 2 * 0 + _ ≤ _; omega) (hb hh.2.2.1 hd) (fun _ _ => ⟨rfl, eT, hc, hl⟩)
  dsimp only [Pt.U, Pt.locs, Pt.cells, Pt.slots] at X' hS1 hgr hQ hL hcc hnn hC hNW hsteps
  subst hL hcc hnn hp
  have hZ' : Z.Warmed39 U.vm := State.Warmed39.trans (t := s.setVm vm0) hZ hS1.1
  have hown' : U.vm.findClass own = some m.cls := (hS1.1.alike.findClass _ _).trans hown
  rw [eT] at hgr
  exact Go.up (fun t q => hsteps.trans q) (k v U U.vm U.heap ⟨⟨_, _, X', ⟨hS.1.trans hS1 (Nat.le_trans hk hgr), fun q => State.WarmedH.trans (t := s.setVm vm0) (hS.2 q) (hNW q)⟩, Nat.le_refl _, N.app hF⟩, ⟨rfl, hZ', hown', C.trans hC⟩, hh⟩ hC hQ)
theorem s_face (W : Wk p l e R s m args below meth c Z a0 EL n0 own nm bytes maxL ret T vm0 h cells slots) {index count : Nat} {C0 : String} {y z : MethodName} {bytes' : ByteArray} {maxL' : Nat} {ret' : Option FieldType} {rm : Room} {S : List Addr} {Q' : Option Value → Vm → Heap → Prop} (w1 : (Cond.methodLink own index y).before a0 Z = true) (w2 : (Cond.declares y).before a0 Z = true) (w5 : (Cond.interfaceMethod y.cls y.cls y.name y.desc).before a0 Z = true) (w3 : (Cond.selects C0 y z).before a0 Z = true) (w4 : (Cond.instanceMethod z).before a0 Z = true) (w6 : (Cond.publicMethod z).before a0 Z = true) (w7 : (Cond.unhidden C0 y.name y.desc).before a0 Z = true) (w8 : (Cond.castable C0 y.cls).before a0 Z = true) (wz : (Cond.initialized z.cls).before a0 Z = true) (wc : (Cond.code z bytes' maxL' ret').before a0 Z = true) (hy : y.cls ≠ "java/lang/invoke/MethodHandle" ∧ y.cls ≠ "java/lang/invoke/VarHandle") {ps : List FieldType} {r : Option FieldType} (pd : parseMethodDescriptor y.desc = some ⟨ps, r⟩) (argsL : List Value) (hln : argsL.length = ps.length) {a : Addr} (E : Exa Z h a C0) (hM : Con l Z EL n0 z bytes' maxL' ret' [] rm (.ref a :: argsL).toArray h S Q') (hSf : ∀ x ∈ S, x < h.size ∧ Safe Z EL vm0 h x) (hsz : Ls.size = maxL) (hd : decode bytes pc = .ok (.invokeinterface index count, 5)) (Wd : Nat) (hWd : (st.map fun v => v.category).sum ≤ Wd) (hf : rm.frames + 1 ≤ R.frames) (hlo : Wd + (maxL' + 11) + rm.locals ≤ R.locals) (hc : cells + rm.cells ≤ R.cells) (hl : slots + rm.slots ≤ R.slots) (hp : pc + 5 = pc')
    (k : ∀ v T' vm' h', Wk p l e R s m args below meth c Z a0 EL n0 own nm bytes maxL ret T' vm' h' (cells + rm.cells) (slots + rm.slots) → CHr Z EL vm0 h vm' h' → Q' v vm' h' → Go p e below s R Z EL n0 Q (T'.setTop (mkF m pc' Ls (v.toList ++ st)))) : Go p e below s R Z EL n0 Q (T.setTop (mkF m pc Ls (argsL.reverse ++ .ref a :: st))) := by
  obtain ⟨⟨k0, locs, X, hS, hk, N⟩, ⟨eT, hZ, hown, C⟩, hh⟩ := W
  obtain ⟨cq, kq, qa, qb, qc⟩ := isOf (show Z.Warmed39 (s.setVm vm0).vm from hZ) eT E
  obtain ⟨v, vm1, ⟨U, L1, c1, n1⟩, hW1, X', hS1, hgr, ⟨L, hQ, hF, hL, hcc, hnn, hC, hNW⟩, hsteps⟩ := X.interfaceBackS hh.2.1 (own := own) (C := C0) (index := index) (count := count) (xi := y) (y := z) hown (mv (s := s.setVm vm0) hZ w1) (mv (s := s.setVm vm0) hZ w2) (mv (s := s.setVm vm0) hZ w5 (by simp [Cond.onTables, Cond.keepsFace, Cond.faceAtom, Cond.keeps, Cond.steady]; exact hy)) (mv (s := s.setVm vm0) hZ w3) (mv (s := s.setVm vm0) hZ w4) (mv (s := s.setVm vm0) hZ w6) (mv (s := s.setVm vm0) hZ w7) (mv (s := s.setVm vm0) hZ w8) hy (hM.back (p := p) (e := e) (below := below) (args := args) (len := 5) (R := R) (s := s) (W := Wd) hZ wc wz hf hlo hh.2.2.2.2.2.2.2 C.1 hSf) qa qb qc (g := mkF m pc Ls (argsL.reverse ++ .ref a :: st)) rfl (hsz.trans hh.2.2.2.1.symm) (Steps.refl _) (argsL := argsL) (rest := st) (lenOf pd hln) rfl (by show 2 * 0 + _ ≤ _; omega) (hb hh.2.2.1 hd) (fun _ _ => ⟨rfl, eT, hc, hl⟩)
  dsimp only [Pt.U, Pt.locs, Pt.cells, Pt.slots] at X' hS1 hgr hQ hL hcc hnn hC hNW hsteps
  subst hL hcc hnn hp
  have hZ' : Z.Warmed39 U.vm := State.Warmed39.trans (t := s.setVm vm0) hZ hS1.1
  have hown' : U.vm.findClass own = some m.cls := (hS1.1.alike.findClass _ _).trans hown
  rw [eT] at hgr
  exact Go.up (fun t q => hsteps.trans q) (k v U U.vm U.heap ⟨⟨_, _, X', ⟨hS.1.trans hS1 (Nat.le_trans hk hgr), fun q => State.WarmedH.trans (t := s.setVm vm0) (hS.2 q) (hNW q)⟩, Nat.le_refl _, N.app hF⟩, ⟨rfl, hZ', hown', C.trans hC⟩, hh⟩ hC hQ)
theorem s_super (W : Wk p l e R s m args below meth c Z a0 EL n0 own nm bytes maxL ret T vm0 h cells slots) {index : Nat} {K : String} {y : MethodName} {bytes' : ByteArray} {maxL' : Nat} {ret' : Option FieldType} {rm : Room} {S : List Addr} {Q' : Option Value → Vm → Heap → Prop} (w1 : (Cond.methodLink own index y).before a0 Z = true) (w2 : (Cond.sameMethod y.cls y.cls y.name y.desc).before a0 Z = true) (w3 : (Cond.instanceMethod y).before a0 Z = true) (w4 : (Cond.superclass own y.cls).before a0 Z = true) (wz : (Cond.initialized y.cls).before a0 Z = true) (wc : (Cond.code y bytes' maxL' ret').before a0 Z = true) (hn0 : y.name ≠ "<init>") {ps : List FieldType} {r : Option FieldType} (pd : parseMethodDescriptor y.desc = some ⟨ps, r⟩) (argsL : List Value) (hln : argsL.length = ps.length) {a : Addr} (E : Ins Z h a K true) (hM : Con l Z EL n0 y bytes' maxL' ret' [] rm (.ref a :: argsL).toArray h S Q') (hSf : ∀ x ∈ S, x < h.size ∧ Safe Z EL vm0 h x) (hsz : Ls.size = maxL) (hd : decode bytes pc = .ok (.invokespecial index, 3)) (Wd : Nat) (hWd : (st.map fun v => v.category).sum ≤ Wd) (hf : rm.frames + 1 ≤ R.frames) (hlo : Wd + (maxL' + 11) + rm.locals ≤ R.locals) (hc : cells + rm.cells ≤ R.cells) (hl : slots + rm.slots ≤ R.slots) (hp : pc + 3 = pc')
    (k : ∀ v T' vm' h', Wk p l e R s m args below meth c Z a0 EL n0 own nm bytes maxL ret T' vm' h' (cells + rm.cells) (slots + rm.slots) → CHr Z EL vm0 h vm' h' → Q' v vm' h' → Go p e below s R Z EL n0 Q (T'.setTop (mkF m pc' Ls (v.toList ++ st)))) : Go p e below s R Z EL n0 Q (T.setTop (mkF m pc Ls (argsL.reverse ++ .ref a :: st))) := by
  obtain ⟨⟨k0, locs, X, hS, hk, N⟩, ⟨eT, hZ, hown, C⟩, hh⟩ := W
  obtain ⟨v, vm1, ⟨U, L1, c1, n1⟩, hW1, X', hS1, hgr, ⟨L, hQ, hF, hL, hcc, hnn, hC, hNW⟩, hsteps⟩ := superBackS X hh.2.1 (show Z.Warmed39 (s.setVm vm0).vm from hZ) (own := own) (K := K) (index := index) (y := y) hown w1 w2 w3 w4 hn0 (hM.back (p := p) (e := e) (below := below) (args := args) (len := 3) (R := R) (s := s) (W := Wd) hZ wc wz hf hlo hh.2.2.2.2.2.2.2 C.1 hSf) eT E (g := mkF m pc Ls (argsL.reverse ++ .ref a :: st)) rfl (hsz.trans hh.2.2.2.1.symm) (bytes := bytes') (maxL := maxL') (ret := ret') wc (argsL := argsL) (rest := st) (lenOf pd hln) rfl (by show 2 * 0 + _ ≤ _; omega) (hb hh.2.2.1 hd) (fun _ _ => ⟨rfl, eT, hc, hl⟩)
  dsimp only [Pt.U, Pt.locs, Pt.cells, Pt.slots] at X' hS1 hgr hQ hL hcc hnn hC hNW hsteps
  subst hL hcc hnn hp
  have hZ' : Z.Warmed39 U.vm := State.Warmed39.trans (t := s.setVm vm0) hZ hS1.1
  have hown' : U.vm.findClass own = some m.cls := (hS1.1.alike.findClass _ _).trans hown
  rw [eT] at hgr
  exact Go.up (fun t q => hsteps.trans q) (k v U U.vm U.heap ⟨⟨_, _, X', ⟨hS.1.trans hS1 (Nat.le_trans hk hgr), fun q => State.WarmedH.trans (t := s.setVm vm0) (hS.2 q) (hNW q)⟩, Nat.le_refl _, N.app hF⟩, ⟨rfl, hZ', hown', C.trans hC⟩, hh⟩ hC hQ)
theorem s_priv (W : Wk p l e R s m args below meth c Z a0 EL n0 own nm bytes maxL ret T vm0 h cells slots) {index : Nat} {C0 : String} {y : MethodName} {bytes' : ByteArray} {maxL' : Nat} {ret' : Option FieldType} {rm : Room} {S : List Addr} {Q' : Option Value → Vm → Heap → Prop} (w1 : (Cond.methodLink own index y).before a0 Z = true) (w2 : (Cond.instanceMethod y).before a0 Z = true) (w3 : (Cond.selects y.cls y y).before a0 Z = true) (w4 : (Cond.privateMethod y).before a0 Z = true) (wz : (Cond.initialized y.cls).before a0 Z = true) (wc : (Cond.code y bytes' maxL' ret').before a0 Z = true) (hy : y.cls ≠ "java/lang/invoke/MethodHandle" ∧ y.cls ≠ "java/lang/invoke/VarHandle") {ps : List FieldType} {r : Option FieldType} (pd : parseMethodDescriptor y.desc = some ⟨ps, r⟩) (argsL : List Value) (hln : argsL.length = ps.length) {a : Addr} (E : Exa Z h a C0) (hM : Con l Z EL n0 y bytes' maxL' ret' [] rm (.ref a :: argsL).toArray h S Q') (hSf : ∀ x ∈ S, x < h.size ∧ Safe Z EL vm0 h x) (hsz : Ls.size = maxL) (hd : decode bytes pc = .ok (.invokevirtual index, 3)) (Wd : Nat) (hWd : (st.map fun v => v.category).sum ≤ Wd) (hf : rm.frames + 1 ≤ R.frames) (hlo : Wd + (maxL' + 11) + rm.locals ≤ R.locals) (hc : cells + rm.cells ≤ R.cells) (hl : slots + rm.slots ≤ R.slots) (hp : pc + 3 = pc')
    (k : ∀ v T' vm' h', Wk p l e R s m args below meth c Z a0 EL n0 own nm bytes maxL ret T' vm' h' (cells + rm.cells) (slots + rm.slots) → CHr Z EL vm0 h vm' h' → Q' v vm' h' → Go p e below s R Z EL n0 Q (T'.setTop (mkF m pc' Ls (v.toList ++ st)))) : Go p e below s R Z EL n0 Q (T.setTop (mkF m pc Ls (argsL.reverse ++ .ref a :: st))) := by
  obtain ⟨⟨k0, locs, X, hS, hk, N⟩, ⟨eT, hZ, hown, C⟩, hh⟩ := W
  obtain ⟨cell, hcell, hobj⟩ := E.cell
  obtain ⟨v, vm1, ⟨U, L1, c1, n1⟩, hW1, X', hS1, hgr, ⟨L, hQ, hF, hL, hcc, hnn, hC, hNW⟩, hsteps⟩ := X.privateBackS hh.2.1 (own := own) (index := index) (y := y) (bytes := bytes') (maxL := maxL') (ret := ret') hown (mv (s := s.setVm vm0) hZ w1) (mv (s := s.setVm vm0) hZ w2) (mv (s := s.setVm vm0) hZ w3) (PrivateAt.of_word (mvP (s := s.setVm vm0) (args := args) hZ w4)) (mv (s := s.setVm vm0) hZ wc) hy (hM.back (p := p) (e := e) (below := below) (args := args) (len := 3) (R := R) (s := s) (W := Wd) hZ wc wz hf hlo hh.2.2.2.2.2.2.2 C.1 hSf) (g := mkF m pc Ls (argsL.reverse ++ .ref a :: st)) rfl (hsz.trans hh.2.2.2.1.symm) (Steps.refl _) (a := a) (cell := cell) (by rw [eT]; exact hcell) hobj (argsL := argsL) (rest := st) (lenOf pd hln) rfl (by show 2 * 0 + _ ≤ _; omega) (hb hh.2.2.1 hd) (fun _ _ => ⟨rfl, eT, hc, hl⟩)
  dsimp only [Pt.U, Pt.locs, Pt.cells, Pt.slots] at X' hS1 hgr hQ hL hcc hnn hC hNW hsteps
  subst hL hcc hnn hp
  have hZ' : Z.Warmed39 U.vm := State.Warmed39.trans (t := s.setVm vm0) hZ hS1.1
  have hown' : U.vm.findClass own = some m.cls := (hS1.1.alike.findClass _ _).trans hown
  rw [eT] at hgr
  exact Go.up (fun t q => hsteps.trans q) (k v U U.vm U.heap ⟨⟨_, _, X', ⟨hS.1.trans hS1 (Nat.le_trans hk hgr), fun q => State.WarmedH.trans (t := s.setVm vm0) (hS.2 q) (hNW q)⟩, Nat.le_refl _, N.app hF⟩, ⟨rfl, hZ', hown', C.trans hC⟩, hh⟩ hC hQ)
theorem s_copy (W : Wk p l e R s m args below meth c Z a0 EL n0 own nm bytes maxL ret T vm0 h cells slots) {index : Nat} (w1 : (Cond.methodLink own index Jvm.Stand.acN).before a0 Z = true) (w2 : (Cond.native Jvm.Stand.acN).before a0 Z = true) (w3 : (Cond.static Jvm.Stand.acN).before a0 Z = true) (w4 : (Cond.initialized "java/lang/System").before a0 Z = true) {a b : Addr} {k1 k2 : ClassId} {ty : FieldType} {z z' sp dp nn : Int32} {vs vd : List Value} {dv dd : Value} (A : Arv Z h a k1 ty z vs dv) (B : Arv Z h b k2 ty z' vd dd) (hty : refKind ty = false) (h1 : ¬ sp < 0) (h2 : ¬ dp < 0) (h3 : ¬ nn < 0) (h4 : sp.toNatClampNeg + nn.toNatClampNeg ≤ z.toNatClampNeg) (h5 : dp.toNatClampNeg + nn.toNatClampNeg ≤ z'.toNatClampNeg) (hlv : dp.toNatClampNeg + nn.toNatClampNeg ≤ vd.length) (M : Mine Z EL n0 vm0 h b) (hsz : Ls.size = maxL) (hd : decode bytes pc = .ok (.invokestatic index, 3)) (Wd : Nat) (hWd : (st.map fun v => v.category).sum ≤ Wd) (hf : 1 ≤ R.frames) (hlo : Wd + (nativeFrameWords "java/lang/System" "arraycopy" 5 + 11) ≤ R.locals) (hp : pc + 3 = pc')
    (k : ∀ T' h', Wk p l e R s m args below meth c Z a0 EL n0 own nm bytes maxL ret T' vm0 h' cells slots → Keep h h' [b] → CHr Z EL vm0 h vm0 h' → Arv Z h' b k2 ty z' (vd.take dp.toNatClampNeg ++ ((List.range nn.toNatClampNeg).map fun i => vs.getD (sp.toNatClampNeg + i) dv) ++ vd.drop (dp.toNatClampNeg + nn.toNatClampNeg)) dd → Go p e below s R Z EL n0 Q (T'.setTop (mkF m pc' Ls st))) : Go p e below s R Z EL n0 Q (T.setTop (mkF m pc Ls (.int nn :: .int dp :: .ref b :: .int sp :: .ref a :: st))) := by
  obtain ⟨⟨k0, locs, X, hS, hk, N⟩, ⟨eT, hZ, hown, C⟩, hh⟩ := W
  obtain ⟨T', h', L, X', e', N', K, V, st'⟩ := cpA X hh.2.1 (show Z.Warmed39 (s.setVm vm0).vm from hZ) (own := own) hown w1 w2 w3 w4 eT A B (Or.inl ⟨rfl, hty⟩) h1 h2 h3 h4 h5 rfl hlv N M.1 (g := mkF m pc Ls (.int nn :: .int dp :: .ref b :: .int sp :: .ref a :: st)) rfl (hsz.trans hh.2.2.2.1.symm) rfl (hb hh.2.2.1 hd) hf (W := Wd) (by show 2 * 0 + _ ≤ _; omega) hlo
  subst hp
  have Ch : CHr Z EL vm0 h vm0 h' := CHr.keep K (fun x hx => by cases List.mem_singleton.mp hx; exact M.2.2) C.1
  exact Go.up st' (k T' h' ⟨⟨k0, L, X', hS, Nat.le_trans hk Ch.2.1, N'⟩, ⟨e', hZ, hown, C.trans Ch⟩, hh⟩ K Ch V)
theorem s_ret (W : Wk p l e R s m args below meth c Z a0 EL n0 own nm bytes maxL ret T vm0 h cells slots) (hret : ret = none) (hd : decode bytes pc = .ok (.return_, 1)) (hc : cells ≤ R.cells) (hl : slots ≤ R.slots) (hq : ∀ vm', CHr Z EL vm0 h vm' h → Q (none) vm' h) : Go p e below s R Z EL n0 Q (T.setTop (mkF m pc Ls [])) := by
  have hrt := W.rt
  have hlk := W.lk
  obtain ⟨⟨k0, locs, X, hS, hk, N⟩, ⟨eT, hZ, hown, C⟩, hh⟩ := W
  obtain ⟨fs, hr, hrun, hended, hE⟩ := X.leaveW (v := none) hS.1 (eT ▸ hk) (fun _ => rfl) hlk
  have Ca := CHv.at X hZ hh.2.2.2.2.2.2.2 C.1
  refine ⟨T.setFrames fs, _, ?_, hrun, hended, _, locs, rfl, ?_, N, ?_, ⟨hE.1, hE.2.1, hE.2.2.1, hE.2.2.2.mono hc hl⟩, fun q => State.WarmedH.trans (t := s.setVm vm0) (hS.2 q) X.warmed⟩
  · exact X.returnOut hh.2.1 (hrt.trans hret) (hb hh.2.2.1 hd) hr
  · have : (T.setFrames fs).heap = h := eT
    rw [this]; exact hq _ Ca
  · have : (T.setFrames fs).heap = h := eT
    rw [this]; exact C.trans Ca
theorem s_ireturn (W : Wk p l e R s m args below meth c Z a0 EL n0 own nm bytes maxL ret T vm0 h cells slots) {z : Int32} (hret : ret = some .int) (hd : decode bytes pc = .ok (.ireturn, 1)) (hc : cells ≤ R.cells) (hl : slots ≤ R.slots) (hq : ∀ vm', CHr Z EL vm0 h vm' h → Q (some (.int z)) vm' h) : Go p e below s R Z EL n0 Q (T.setTop (mkF m pc Ls (.int z :: st))) := by
  have hrt := W.rt
  have hlk := W.lk
  obtain ⟨⟨k0, locs, X, hS, hk, N⟩, ⟨eT, hZ, hown, C⟩, hh⟩ := W
  obtain ⟨fs, hr, hrun, hended, hE⟩ := X.leaveW (v := some (.int z)) hS.1 (eT ▸ hk) (fun q => by rw [hrt, hret] at q; cases q) hlk
  have Ca := CHv.at X hZ hh.2.2.2.2.2.2.2 C.1
  refine ⟨T.setFrames fs, _, ?_, hrun, hended, _, locs, rfl, ?_, N, ?_, ⟨hE.1, hE.2.1, hE.2.2.1, hE.2.2.2.mono hc hl⟩, fun q => State.WarmedH.trans (t := s.setVm vm0) (hS.2 q) X.warmed⟩
  · exact retOut X hh.2.1 (t := .int) (i := .ireturn) (hrt.trans hret) rfl (Or.inl ⟨rfl, Or.inl rfl, _, rfl⟩) (hb hh.2.2.1 hd) hr
  · have : (T.setFrames fs).heap = h := eT
    rw [this]; exact hq _ Ca
  · have : (T.setFrames fs).heap = h := eT
    rw [this]; exact C.trans Ca
theorem s_nreturn (W : Wk p l e R s m args below meth c Z a0 EL n0 own nm bytes maxL ret T vm0 h cells slots) {z : Int32} {t : FieldType} (hret : ret = some t) (ht : t = .boolean ∨ t = .byte ∨ t = .char ∨ t = .short) (hd : decode bytes pc = .ok (.ireturn, 1)) (hc : cells ≤ R.cells) (hl : slots ≤ R.slots) (hq : ∀ vm', CHr Z EL vm0 h vm' h → Q (some (.int (nar t z))) vm' h) : Go p e below s R Z EL n0 Q (T.setTop (mkF m pc Ls (.int z :: st))) := by
  have hrt := W.rt
  have hlk := W.lk
  obtain ⟨⟨k0, locs, X, hS, hk, N⟩, ⟨eT, hZ, hown, C⟩, hh⟩ := W
  obtain ⟨fs, hr, hrun, hended, hE⟩ := X.leaveW (v := some (.int (nar t z))) hS.1 (eT ▸ hk) (fun q => by rw [hrt, hret] at q; cases q) hlk
  have Ca := CHv.at X hZ hh.2.2.2.2.2.2.2 C.1
  refine ⟨T.setFrames fs, _, ?_, hrun, hended, _, locs, rfl, ?_, N, ?_, ⟨hE.1, hE.2.1, hE.2.2.1, hE.2.2.2.mono hc hl⟩, fun q => State.WarmedH.trans (t := s.setVm vm0) (hS.2 q) X.warmed⟩
  · exact retN X hh.2.1 (t := t) (hrt.trans hret) ht (hb hh.2.2.1 hd) hr
  · have : (T.setFrames fs).heap = h := eT
    rw [this]; exact hq _ Ca
  · have : (T.setFrames fs).heap = h := eT
    rw [this]; exact C.trans Ca
theorem s_lreturn (W : Wk p l e R s m args below meth c Z a0 EL n0 own nm bytes maxL ret T vm0 h cells slots) {z : Int64} (hret : ret = some .long) (hd : decode bytes pc = .ok (.lreturn, 1)) (hc : cells ≤ R.cells) (hl : slots ≤ R.slots) (hq : ∀ vm', CHr Z EL vm0 h vm' h → Q (some (.long z)) vm' h) : Go p e below s R Z EL n0 Q (T.setTop (mkF m pc Ls (.long z :: st))) := by
  have hrt := W.rt
  have hlk := W.lk
  obtain ⟨⟨k0, locs, X, hS, hk, N⟩, ⟨eT, hZ, hown, C⟩, hh⟩ := W
  obtain ⟨fs, hr, hrun, hended, hE⟩ := X.leaveW (v := some (.long z)) hS.1 (eT ▸ hk) (fun q => by rw [hrt, hret] at q; cases q) hlk
  have Ca := CHv.at X hZ hh.2.2.2.2.2.2.2 C.1
  refine ⟨T.setFrames fs, _, ?_, hrun, hended, _, locs, rfl, ?_, N, ?_, ⟨hE.1, hE.2.1, hE.2.2.1, hE.2.2.2.mono hc hl⟩, fun q => State.WarmedH.trans (t := s.setVm vm0) (hS.2 q) X.warmed⟩
  · exact retOut X hh.2.1 (t := .long) (i := .lreturn) (hrt.trans hret) rfl (Or.inr (Or.inl ⟨rfl, rfl, _, rfl⟩)) (hb hh.2.2.1 hd) hr
  · have : (T.setFrames fs).heap = h := eT
    rw [this]; exact hq _ Ca
  · have : (T.setFrames fs).heap = h := eT
    rw [this]; exact C.trans Ca
theorem s_areturn (W : Wk p l e R s m args below meth c Z a0 EL n0 own nm bytes maxL ret T vm0 h cells slots) {z : Value} {t : FieldType} (hret : ret = some t) (ht : t.isReference = true) (hz : z.isRef = true) (hd : decode bytes pc = .ok (.areturn, 1)) (hc : cells ≤ R.cells) (hl : slots ≤ R.slots) (hq : ∀ vm', CHr Z EL vm0 h vm' h → Q (some z) vm' h) : Go p e below s R Z EL n0 Q (T.setTop (mkF m pc Ls (z :: st))) := by
  have hrt := W.rt
  have hlk := W.lk
  obtain ⟨⟨k0, locs, X, hS, hk, N⟩, ⟨eT, hZ, hown, C⟩, hh⟩ := W
  obtain ⟨fs, hr, hrun, hended, hE⟩ := X.leaveW (v := some z) hS.1 (eT ▸ hk) (fun q => by rw [hrt, hret] at q; cases q) hlk
  have Ca := CHv.at X hZ hh.2.2.2.2.2.2.2 C.1
  refine ⟨T.setFrames fs, _, ?_, hrun, hended, _, locs, rfl, ?_, N, ?_, ⟨hE.1, hE.2.1, hE.2.2.1, hE.2.2.2.mono hc hl⟩, fun q => State.WarmedH.trans (t := s.setVm vm0) (hS.2 q) X.warmed⟩
  · exact retOut X hh.2.1 (t := t) (i := .areturn) (hrt.trans hret) (by cases t <;> first | rfl | (cases ht; done) | (cases z <;> rfl)) (Or.inr (Or.inr (Or.inr (Or.inr ⟨rfl, ht, hz⟩)))) (hb hh.2.2.1 hd) hr
  · have : (T.setFrames fs).heap = h := eT
    rw [this]; exact hq _ Ca
  · have : (T.setFrames fs).heap = h := eT
    rw [this]; exact C.trans Ca
end
end Jvm.OwnK
namespace Jvm.OwnK
open Sem ClassFile Op Lib Bundle Jvm.Free Jvm.Stand Jvm.LawKit Jvm.RoadKit
section Nums
theorem n_toInt {i : Nat} (h : i < 2147483648) : (Int32.ofNat i).toInt = i := Int32.toInt_ofNat_small h
theorem n_clamp {i : Nat} (h : i < 2147483648) : (Int32.ofNat i).toNatClampNeg = i := by simp only [Int32.toNatClampNeg, n_toInt h]; rfl
theorem n_nn {i : Nat} (h : i < 2147483648) : ¬ Int32.ofNat i < 0 := by
  rw [Int32.lt_iff_toInt_lt, n_toInt h]; show ¬ (i : Int) < 0; omega
theorem n_lt {i n : Nat} (hi : i < n) (h : n < 2147483648) : Int32.ofNat i < Int32.ofNat n := by
  rw [Int32.lt_iff_toInt_lt, n_toInt h, n_toInt (by omega)]; omega
theorem n_ge {i n : Nat} (hi : n ≤ i) (h : i < 2147483648) : ¬ Int32.ofNat i < Int32.ofNat n := by
  rw [Int32.lt_iff_toInt_lt, n_toInt h, n_toInt (by omega)]; omega
theorem n_succ (i : Nat) : Int32.ofNat i + (1 : Int32) = Int32.ofNat (i + 1) := by
  rw [Int32.ofNat_add]; rfl
theorem n_inj {i j : Nat} (hi : i < 2147483648) (hj : j < 2147483648) (h : Int32.ofNat i = Int32.ofNat j) : i = j := by
  have := congrArg Int32.toInt h
  rw [n_toInt hi, n_toInt hj] at this; omega
theorem lt_iff (x y : Int32) : x < y ↔ x.toInt < y.toInt := Int32.lt_iff_toInt_lt
theorem nar_char {x : Int32} (h0 : ¬ x < 0) (h1 : ¬ 65535 < x) : nar .char x = x := by
  rw [lt_iff] at h0 h1
  have e0 : (0 : Int32).toInt = 0 := rfl
  have e1 : (65535 : Int32).toInt = 65535 := rfl
  have q := c_i2c x
  apply Int32.toInt_inj.mp
  show (x.toUInt32.toUInt16.toUInt32.toInt32).toInt = x.toInt
  omega
theorem nar_bool {x : Int32} (h : x = 0 ∨ x = 1) : nar .boolean x = x := by rcases h with rfl | rfl <;> decide
theorem nar_byte {x : Int32} (h0 : ¬ x < -128) (h1 : ¬ 127 < x) : nar .byte x = x := by
  rw [lt_iff] at h0 h1
  have e0 : (-128 : Int32).toInt = -128 := rfl
  have e1 : (127 : Int32).toInt = 127 := rfl
  have q := c_i2b x
  apply Int32.toInt_inj.mp
  show (x.toInt8.toInt32).toInt = x.toInt
  omega
/-- a Latin-1 char -/
def L1 (c : Int32) : Prop := ¬ c < 0 ∧ ¬ 255 < c
theorem L1.rng {c : Int32} (h : L1 c) : 0 ≤ c.toInt ∧ c.toInt ≤ 255 := by
  obtain ⟨h0, h1⟩ := h
  rw [lt_iff] at h0 h1
  have e0 : (0 : Int32).toInt = 0 := rfl
  have e1 : (255 : Int32).toInt = 255 := rfl
  omega
theorem L1.of {c : Int32} (h0 : 0 ≤ c.toInt) (h1 : c.toInt ≤ 255) : L1 c := by
  refine ⟨?_, ?_⟩ <;> rw [lt_iff]
  · show ¬ c.toInt < 0; omega
  · show ¬ (255 : Int) < c.toInt; omega
theorem L1.mask (x : Int32) : L1 (x &&& 255) := by
  have := c_and x 255 (by decide)
  exact L1.of this.1 this.2
theorem L1.nar {c : Int32} (h : L1 c) : nar .char c = c := nar_char h.1 (fun q => h.2 (by
  rw [lt_iff] at q ⊢
  have e0 : (65535 : Int32).toInt = 65535 := rfl
  have e1 : (255 : Int32).toInt = 255 := rfl
  omega))
theorem L1.i2c {c : Int32} (h : L1 c) : c.toUInt32.toUInt16.toUInt32.toInt32 = c := h.nar
theorem L1.char (x : Int32) : L1 ((x &&& 255).toUInt32.toUInt16.toUInt32.toInt32) := by rw [(L1.mask x).i2c]; exact L1.mask x
/-- the byte a char is kept as, and back -/
theorem L1.back {c : Int32} (h : L1 c) : c.toInt8.toInt32 &&& 255 = c := by
  have r := h.rng
  have q := c_i2b c
  have m := c_mask c.toInt8.toInt32 255 8 (by decide) (by decide)
  apply Int32.toInt_inj.mp
  rw [m]
  show c.toInt8.toInt32.toInt % 256 = c.toInt
  omega
theorem L1.inj {c d : Int32} (h : L1 c) (g : L1 d) (e : c.toInt8.toInt32 = d.toInt8.toInt32) : c = d := by rw [← h.back, ← g.back, e]
theorem bb (c : Int32) : c.toInt8.toInt32.toInt8.toInt32 = c.toInt8.toInt32 := by rw [Int8.toInt8_toInt32]
theorem shr0 (x : Int32) : x >>> ((0 : Int32) &&& 31) = x := Int32.toInt_inj.mp (by rw [c_ishr x 0 0 (by decide)]; show x.toInt / 1 = x.toInt; exact Int.ediv_one _)
theorem shl0 (x : Int32) : x <<< ((0 : Int32) &&& 31) = x := by
  apply Int32.toInt_inj.mp
  have q := c_ishl x 0 0 (by decide)
  have r1 := rng32 x
  have r2 := rng32 (x <<< ((0 : Int32) &&& 31))
  simp only [Nat.pow_zero, Int.natCast_one, Int.mul_one] at q
  omega
theorem sub_self32 (x : Int32) : x - x = 0 := by
  apply Int32.toInt_inj.mp
  have q := c_isub x x
  have r2 := rng32 (x - x)
  have e0 : (0 : Int32).toInt = 0 := rfl
  omega
end Nums
section Lists
def bv (c : Int32) : Value := .int c.toInt8.toInt32
def cv (c : Int32) : Value := .int c
theorem bv_getD (cs : List Int32) (i : Nat) : (cs.map bv).getD i (.int 0) = .int (cs.getD i 0).toInt8.toInt32 := by
  induction cs generalizing i with
  | nil => rfl
  | cons c cs ih => cases i with
    | zero => rfl
    | succ i => exact ih i
theorem cv_getD (cs : List Int32) (i : Nat) : (cs.map cv).getD i (.int 0) = .int (cs.getD i 0) := by
  induction cs generalizing i with
  | nil => rfl
  | cons c cs ih => cases i with
    | zero => rfl
    | succ i => exact ih i
theorem set_step {cs : List Int32} {n i : Nat} {x : Value} (hn : cs.length = n) (hi : i < n) (hx : x = bv (cs.getD i 0)) : ((cs.take i).map bv ++ List.replicate (n - i) (Value.int 0)).set i x = (cs.take (i + 1)).map bv ++ List.replicate (n - (i + 1)) (Value.int 0) := by
  subst hx
  have e1 : n - i = (n - (i + 1)) + 1 := by omega
  have e2 : ((cs.take i).map bv).length = i := by simp; omega
  rw [e1, List.replicate_succ, List.set_append_right _ _ (by omega), e2, Nat.sub_self, List.set_cons_zero]
  have e3 : cs.take (i + 1) = cs.take i ++ [cs.getD i 0] := by
    rw [List.take_add_one]
    congr 1
    rw [List.getD_eq_getElem?_getD, List.getElem?_eq_getElem (by omega)]; rfl
  rw [e3, List.map_append, List.append_assoc]; rfl
theorem mem_getD {cs : List Int32} {i : Nat} (hi : i < cs.length) : cs.getD i 0 ∈ cs := by
  rw [List.getD_eq_getElem?_getD, List.getElem?_eq_getElem hi]; exact List.getElem_mem hi
theorem mem_take_succ {cs : List Int32} {i : Nat} (hi : i < cs.length) {P : Int32 → Prop} (h : ∀ c ∈ cs.take i, P c) (hx : P (cs.getD i 0)) : ∀ c ∈ cs.take (i + 1), P c := by
  have e3 : cs.take (i + 1) = cs.take i ++ [cs.getD i 0] := by
    rw [List.take_add_one]
    congr 1
    rw [List.getD_eq_getElem?_getD, List.getElem?_eq_getElem (by omega)]; rfl
  intro c hc
  rw [e3] at hc
  rcases List.mem_append.mp hc with q | q
  · exact h c q
  · cases List.mem_singleton.mp q; exact hx
theorem len_mid {cs : List Int32} {n i : Nat} (hn : cs.length = n) (hi : i ≤ n) : ((cs.take i).map bv ++ List.replicate (n - i) (.int 0 : Value)).length = n := by
  simp; omega
end Lists
section Strs
/-- compact strings are on -/
def CS (Z : State) : Prop := ∃ v : Int32, Sta Z Z.heap "java/lang/String" "COMPACT_STRINGS" "Z" (.int v) ∧ ¬ v = 0
variable {Z : State} {h h' : Heap} {a b : Addr} {k : ClassId} {cs : List Int32}
/-- a Latin-1 String whose chars are cs; b its byte[] -/
def LatB (Z : State) (h : Heap) (a b : Addr) (k : ClassId) (cs : List Int32) : Prop :=
  Exa Z h a "java/lang/String" ∧ Fld Z h a "java/lang/String" "coder" "B" (.int 0) ∧ Fld Z h a "java/lang/String" "value" "[B" (.ref b) ∧ Arv Z h b k .byte (Int32.ofNat cs.length) (cs.map bv) (.int 0) ∧ (∀ c ∈ cs, L1 c) ∧ cs.length < 2147483648
def Lat (Z : State) (h : Heap) (a : Addr) (cs : List Int32) : Prop := ∃ b k, LatB Z h a b k cs
theorem LatB.keep {ws : List Addr} (F : LatB Z h a b k cs) (K : Keep h h' ws) (q1 : a ∉ ws) (q2 : b ∉ ws) : LatB Z h' a b k cs := ⟨F.1.keep K, F.2.1.keep K q1, F.2.2.1.keep K q1, F.2.2.2.1.keep K q2, F.2.2.2.2⟩
theorem LatB.kp (F : LatB Z h a b k cs) (K : Keep h h' []) (_ : a ∉ ([] : List Addr)) : LatB Z h' a b k cs := F.keep K nin0 nin0
theorem Lat.kp (F : Lat Z h a cs) (K : Keep h h' []) (_ : a ∉ ([] : List Addr)) : Lat Z h' a cs := by obtain ⟨b, k, F⟩ := F; exact ⟨b, k, F.keep K nin0 nin0⟩
theorem Lat.lt (F : Lat Z h a cs) : a < h.size := by obtain ⟨b, k, F⟩ := F; exact F.1.lt
theorem LatB.lt (F : LatB Z h a b k cs) : a < h.size := F.1.lt
theorem LatB.ltb (F : LatB Z h a b k cs) : b < h.size := F.2.2.2.1.lt
end Strs
section Words
variable {Z : State} {a0 : Array Value}
theorem decl_of {y : MethodName} {bytes : ByteArray} {maxL : Nat} {ret : Option FieldType} (wi : (Cond.instanceMethod y).before a0 Z = true) (wc : (Cond.code y bytes maxL ret).before a0 Z = true) : (Cond.declares y).before a0 Z = true := by
  obtain ⟨m, meth, h1, h2, h3, -⟩ := Cond.instanceMethod_spec wi
  obtain ⟨meth', c, g1, -, -, -, -, -, -, g2⟩ := Cond.code_spec h1 wc
  cases h2.symm.trans g1
  simp [Cond.before, Cond.holds, Cond.value, h1, h2, h3, g2]
theorem nf_of {C : String} {y y' : MethodName} (hc : y'.cls = y.cls) (w : (Cond.selects C y' y').before a0 Z = true) : NotFace Z y := fun r0 h0 => by
  obtain ⟨c2, r2, m2, q1, q2, q3, q4, kP, hkP, hkPi⟩ := Cond.selects_spec w
  have e1 := findClass_of_methodNamed h0
  have e2 := findClass_of_methodNamed q3
  rw [hc] at e2
  have e : r0.cls = m2.cls := Option.some.inj (e1.symm.trans e2)
  exact ⟨kP, by rw [e]; exact hkP, hkPi⟩
theorem same_of {y : MethodName} (hy : y.cls ≠ "java/lang/invoke/MethodHandle" ∧ y.cls ≠ "java/lang/invoke/VarHandle") (wi : (Cond.instanceMethod y).before a0 Z = true) (nf : NotFace Z y) : (Cond.sameMethod y.cls y.cls y.name y.desc).before a0 Z = true := by
  obtain ⟨m, meth, h1, h2, h3, -⟩ := Cond.instanceMethod_spec wi
  obtain ⟨k, hk, hn⟩ := nf m h1
  have e1 := findClass_of_methodNamed h1
  have e2 := State.methodFound?_of_named h1 hy
  have h1' : Z.methodNamed? ⟨y.cls, y.name, y.desc⟩ = some m := h1
  simp [Cond.before, Cond.holds, Cond.value, e1, e2, h1', hk, hn]
end Words
theorem nfw : nativeFrameWords "java/lang/System" "arraycopy" 5 = 7 := by decide +kernel
end Jvm.OwnK
namespace Jvm.OwnK
open Sem ClassFile Op Lib Bundle Jvm.Free Jvm.Stand Jvm.LawKit Jvm.RoadKit
section Sb
variable {Z : State} {h h' : Heap} {a b : Addr} {k : ClassId} {cap : Nat} {cs : List Int32}
/-- a StringBuilder whose chars are cs; b its byte[] of cap places -/
def SBd (Z : State) (h : Heap) (a b : Addr) (k : ClassId) (cap : Nat) (cs : List Int32) : Prop :=
  Exa Z h a "java/lang/StringBuilder" ∧ Fld Z h a "java/lang/AbstractStringBuilder" "coder" "B" (.int 0) ∧ Fld Z h a "java/lang/AbstractStringBuilder" "count" "I" (.int (Int32.ofNat cs.length)) ∧ Fld Z h a "java/lang/AbstractStringBuilder" "value" "[B" (.ref b) ∧
  (∃ rest : List Value, cs.length + rest.length = cap ∧ Arv Z h b k .byte (Int32.ofNat cap) (cs.map bv ++ rest) (.int 0)) ∧ (∀ c ∈ cs, L1 c) ∧ cap ≤ 4096 ∧ Exa Z h b "[B"
theorem SBd.keep {ws : List Addr} (F : SBd Z h a b k cap cs) (K : Keep h h' ws) (q1 : a ∉ ws) (q2 : b ∉ ws) : SBd Z h' a b k cap cs := by
  obtain ⟨f1, f2, f3, f4, ⟨r, hr, A⟩, f6⟩ := F
  exact ⟨f1.keep K, f2.keep K q1, f3.keep K q1, f4.keep K q1, ⟨r, hr, A.keep K q2⟩, f6.1, f6.2.1, f6.2.2.keep K⟩
theorem SBd.le (F : SBd Z h a b k cap cs) : cs.length ≤ cap := by obtain ⟨-, -, -, -, ⟨r, hr, -⟩, -⟩ := F; omega
theorem SBd.lt (F : SBd Z h a b k cap cs) : a < h.size := F.1.lt
theorem SBd.ltb (F : SBd Z h a b k cap cs) : b < h.size := by obtain ⟨-, -, -, -, ⟨r, hr, A⟩, -⟩ := F; exact A.lt
theorem range_getD (ds : List Int32) (n : Nat) (hn : ds.length = n) : ((List.range n).map fun i => (ds.map bv).getD (0 + i) (.int 0)) = ds.map bv := by
  subst hn
  apply List.ext_getElem
  · simp
  · intro i h1 h2
    simp only [List.length_map, List.length_range] at h1
    simp [List.getElem_map, List.getD_eq_getElem?_getD, h1]
theorem sub_le0 {m n : Nat} (h : m ≤ n) (hn : n ≤ 4096) : ¬ 0 < Int32.ofNat m - (Int32.ofNat n >>> ((0 : Int32) &&& 31)) := by
  rw [shr0, lt_iff]
  have q := c_isub (Int32.ofNat m) (Int32.ofNat n)
  rw [n_toInt (by omega), n_toInt (by omega)] at q
  have r := rng32 (Int32.ofNat m - Int32.ofNat n)
  have e0 : (0 : Int32).toInt = 0 := rfl
  omega
theorem n_add (i j : Nat) : Int32.ofNat i + Int32.ofNat j = Int32.ofNat (i + j) := by rw [Int32.ofNat_add]
end Sb
end Jvm.OwnK
namespace Jvm.OwnK
open Sem ClassFile Op Lib Bundle Jvm.Free Jvm.Stand Jvm.LawKit Jvm.RoadKit
theorem put_eq {cs ds : List Int32} {r : List Value} : (cs.map bv ++ r).take cs.length ++ ds.map bv ++ (cs.map bv ++ r).drop (cs.length + ds.length) = (cs ++ ds).map bv ++ r.drop ds.length := by
  have e : (cs.map bv).length = cs.length := by simp
  rw [← e, List.take_left, List.drop_append, List.map_append, List.drop_eq_nil_of_le (by omega), List.nil_append, Nat.add_sub_cancel_left]
end Jvm.OwnK
namespace Jvm.OwnK
open Sem ClassFile Op Lib Bundle Jvm.Free Jvm.Stand Jvm.LawKit Jvm.RoadKit
section U16
/-- a char -/
def C16 (c : Int32) : Prop := ¬ c < 0 ∧ ¬ 65535 < c
theorem C16.rng {c : Int32} (h : C16 c) : 0 ≤ c.toInt ∧ c.toInt ≤ 65535 := by
  obtain ⟨h0, h1⟩ := h
  rw [lt_iff] at h0 h1
  have e0 : (0 : Int32).toInt = 0 := rfl
  have e1 : (65535 : Int32).toInt = 65535 := rfl
  omega
theorem C16.of {c : Int32} (h0 : 0 ≤ c.toInt) (h1 : c.toInt ≤ 65535) : C16 c := by
  refine ⟨?_, ?_⟩ <;> rw [lt_iff]
  · show ¬ c.toInt < 0; omega
  · show ¬ (65535 : Int) < c.toInt; omega
theorem C16.i2c (x : Int32) : C16 x.toUInt32.toUInt16.toUInt32.toInt32 := by
  have q := c_i2c x
  exact C16.of q.2.1 (by omega)
theorem C16.nar {c : Int32} (h : C16 c) : nar .char c = c := nar_char h.1 h.2
def hb8 (c : Int32) : Int32 := (c >>> ((8 : Int32) &&& 31)).toInt8.toInt32
def u2b : List Int32 → List Value
  | [] => []
  | c :: cs => .int c.toInt8.toInt32 :: .int (hb8 c) :: u2b cs
theorem u2b_len (cs : List Int32) : (u2b cs).length = 2 * cs.length := by
  induction cs with
  | nil => rfl
  | cons c cs ih => simp only [u2b, List.length_cons, ih]; omega
theorem u2b_app (cs ds : List Int32) : u2b (cs ++ ds) = u2b cs ++ u2b ds := by
  induction cs with
  | nil => rfl
  | cons c cs ih => simp only [u2b, List.cons_append, ih]
theorem u2b_lo (cs : List Int32) (i : Nat) (hi : i < cs.length) : (u2b cs).getD (2 * i) (.int 0) = .int (cs.getD i 0).toInt8.toInt32 := by
  induction cs generalizing i with
  | nil => simp at hi
  | cons c cs ih => cases i with
    | zero => rfl
    | succ i =>
      have : 2 * (i + 1) = (2 * i) + 1 + 1 := by omega
      rw [this]; exact ih i (by simpa using hi)
theorem u2b_hi (cs : List Int32) (i : Nat) (hi : i < cs.length) : (u2b cs).getD (2 * i + 1) (.int 0) = .int (hb8 (cs.getD i 0)) := by
  induction cs generalizing i with
  | nil => simp at hi
  | cons c cs ih => cases i with
    | zero => rfl
    | succ i =>
      have : 2 * (i + 1) + 1 = (2 * i + 1) + 1 + 1 := by omega
      rw [this]; exact ih i (by simpa using hi)
theorem u2b_step {cs : List Int32} {n i : Nat} (hn : cs.length = n) (hi : i < n) : ((u2b (cs.take i) ++ List.replicate (2 * (n - i)) (Value.int 0)).set (2 * i) (Value.int (cs.getD i 0).toInt8.toInt32)).set (2 * i + 1) (Value.int (hb8 (cs.getD i 0))) = u2b (cs.take (i + 1)) ++ List.replicate (2 * (n - (i + 1))) (Value.int 0) := by
  have e1 : 2 * (n - i) = 2 * (n - (i + 1)) + 1 + 1 := by omega
  have e2 : (u2b (cs.take i)).length = 2 * i := by rw [u2b_len, List.length_take]; omega
  rw [e1, List.replicate_succ, List.replicate_succ, List.set_append_right _ _ (by omega), e2, Nat.sub_self, List.set_cons_zero, List.set_append_right _ _ (by omega), e2, show 2 * i + 1 - 2 * i = 0 + 1 by omega, List.set_cons_succ, List.set_cons_zero]
  have e3 : cs.take (i + 1) = cs.take i ++ [cs.getD i 0] := by
    rw [List.take_add_one]
    congr 1
    rw [List.getD_eq_getElem?_getD, List.getElem?_eq_getElem (by omega)]; rfl
  rw [e3, u2b_app, List.append_assoc]; rfl
theorem n_shl1 {n : Nat} (h : n ≤ 4096) : Int32.ofNat n <<< ((1 : Int32) &&& 31) = Int32.ofNat (2 * n) := by
  apply Int32.toInt_inj.mp
  have q := c_ishl (Int32.ofNat n) 1 1 (by decide)
  rw [n_toInt (by omega)] at q
  have r := rng32 (Int32.ofNat n <<< ((1 : Int32) &&& 31))
  rw [n_toInt (i := 2 * n) (by omega)]
  have e2 : ((2 ^ 1 : Nat) : Int) = 2 := rfl
  rw [e2] at q
  omega
theorem n_shr1 {n : Nat} (h : n ≤ 4096) : Int32.ofNat (2 * n) >>> ((1 : Int32) &&& 31) = Int32.ofNat n := by
  apply Int32.toInt_inj.mp
  rw [c_ishr _ 1 1 (by decide), n_toInt (by omega), n_toInt (by omega)]
  show ((2 * n : Nat) : Int) / 2 = n
  omega
theorem coder1 {n : Nat} (h : n ≤ 4096) (h0 : 0 < n) : (Jvm.Free.XT.ushr (Int32.ofNat n - Int32.ofNat (2 * n)) (31 : Int32)).toInt8.toInt32 = 1 := by
  have e : Jvm.Free.XT.ushr (Int32.ofNat n - Int32.ofNat (2 * n)) (31 : Int32) = 1 := by
    apply Int32.toInt_inj.mp
    have q := c_iushr (Int32.ofNat n - Int32.ofNat (2 * n)) 31 31 (by decide) (by decide)
    have s := c_isub (Int32.ofNat n) (Int32.ofNat (2 * n))
    rw [n_toInt (by omega), n_toInt (by omega)] at s
    have r := rng32 (Int32.ofNat n - Int32.ofNat (2 * n))
    show (Int32.toUInt32 (Int32.ofNat n - Int32.ofNat (2 * n)) >>> ((31 : Int32) &&& 31).toUInt32).toInt32.toInt = (1 : Int32).toInt
    rw [q]
    have e1 : (1 : Int32).toInt = 1 := rfl
    have e2 : ((2 ^ 31 : Nat) : Int) = 2147483648 := rfl
    rw [e1, e2]
    omega
  rw [e]; rfl
theorem u16back {c : Int32} (h : C16 c) : (((c.toInt8.toInt32 &&& 255) <<< ((0 : Int32) &&& 31)) ||| ((hb8 c &&& 255) <<< ((8 : Int32) &&& 31))).toUInt32.toUInt16.toUInt32.toInt32 = c := by
  rw [shl0]
  have r := h.rng
  have b0 := c_i2b c
  have m0 : (c.toInt8.toInt32 &&& 255).toInt = c.toInt8.toInt32.toInt % 256 := c_mask c.toInt8.toInt32 255 8 (by decide) (by decide)
  have s1 : (c >>> ((8 : Int32) &&& 31)).toInt = c.toInt / 256 := c_ishr c 8 8 (by decide)
  have b1 := c_i2b (c >>> ((8 : Int32) &&& 31))
  have m1 : (hb8 c &&& 255).toInt = (hb8 c).toInt % 256 := c_mask (hb8 c) 255 8 (by decide) (by decide)
  have b1' : ((hb8 c).toInt - c.toInt / 256) % 256 = 0 := by rw [← s1]; exact b1.1
  have sh := c_ishl (hb8 c &&& 255) 8 8 (by decide)
  have e256 : ((2 ^ 8 : Nat) : Int) = 256 := rfl
  rw [e256] at sh
  have rs := rng32 ((hb8 c &&& 255) <<< ((8 : Int32) &&& 31))
  have o := c_or' (c.toInt8.toInt32 &&& 255) ((hb8 c &&& 255) <<< ((8 : Int32) &&& 31)) 8 (by decide) 256 (by decide) (by omega) (by omega) (by omega)
  have ic := c_i2c ((c.toInt8.toInt32 &&& 255) ||| ((hb8 c &&& 255) <<< ((8 : Int32) &&& 31)))
  apply Int32.toInt_inj.mp
  omega
variable {Z : State} {h h' : Heap} {a b : Addr} {k : ClassId} {cs : List Int32}
/-- a UTF-16 String whose chars are cs; b its byte[] -/
def U16B (Z : State) (h : Heap) (a b : Addr) (k : ClassId) (cs : List Int32) : Prop :=
  Exa Z h a "java/lang/String" ∧ Fld Z h a "java/lang/String" "coder" "B" (.int 1) ∧ Fld Z h a "java/lang/String" "value" "[B" (.ref b) ∧ Arv Z h b k .byte (Int32.ofNat (2 * cs.length)) (u2b cs) (.int 0) ∧ (∀ c ∈ cs, C16 c) ∧ cs.length ≤ 4096 ∧ 0 < cs.length
theorem U16B.kp (F : U16B Z h a b k cs) (K : Keep h h' []) (_ : a ∉ ([] : List Addr)) : U16B Z h' a b k cs := ⟨F.1.keep K, F.2.1.keep K nin0, F.2.2.1.keep K nin0, F.2.2.2.1.keep K nin0, F.2.2.2.2⟩
/-- StringUTF16's statics -/
def U16S (Z : State) : Prop := Sta Z Z.heap "java/lang/StringUTF16" "$assertionsDisabled" "Z" (.int 1) ∧ Sta Z Z.heap "java/lang/StringUTF16" "HI_BYTE_SHIFT" "I" (.int 0) ∧ Sta Z Z.heap "java/lang/StringUTF16" "LO_BYTE_SHIFT" "I" (.int 8)
/-- the formatter that checkIndex is handed -/
def Fmt (Z : State) : Prop := ∃ v : Value, Sta Z Z.heap "jdk/internal/util/Preconditions" "SIOOBE_FORMATTER" "Ljava/util/function/BiFunction;" v ∧ v.isRef = true
end U16
end Jvm.OwnK
namespace Jvm.OwnK
open Sem ClassFile Op Lib Bundle Jvm.Free Jvm.Stand Jvm.LawKit Jvm.RoadKit
section Dec
/-- n has d decimal digits -/
def isDig (n d : Nat) : Prop := 1 ≤ d ∧ n < 10 ^ d ∧ (d = 1 ∨ 10 ^ (d - 1) ≤ n)
theorem isDig.unique {n d d' : Nat} (h : isDig n d) (g : isDig n d') : d = d' := by
  obtain ⟨h1, h2, h3⟩ := h
  obtain ⟨g1, g2, g3⟩ := g
  rcases Nat.lt_trichotomy d d' with q | q | q
  · rcases g3 with g3 | g3
    · omega
    · have := Nat.pow_le_pow_right (n := 10) (by decide) (show d ≤ d' - 1 by omega)
      omega
  · exact q
  · rcases h3 with h3 | h3
    · omega
    · have := Nat.pow_le_pow_right (n := 10) (by decide) (show d' ≤ d - 1 by omega)
      omega
theorem isDig.down {n d : Nat} (h : isDig n d) (hn : 100 ≤ n) : 3 ≤ d ∧ isDig (n / 100) (d - 2) := by
  obtain ⟨h1, h2, h3⟩ := h
  have hd : 3 ≤ d := by
    rcases Nat.lt_or_ge d 3 with q | q
    · have : d = 1 ∨ d = 2 := by omega
      rcases this with rfl | rfl <;> simp at h2 <;> omega
    · exact q
  refine ⟨hd, by omega, ?_, ?_⟩
  · have e : 10 ^ d = 10 ^ (d - 2) * 100 := by rw [show d = (d - 2) + 2 by omega, Nat.pow_add]; simp
    rw [e] at h2
    exact Nat.div_lt_of_lt_mul (by rw [Nat.mul_comm]; exact h2)
  · rcases Nat.eq_or_lt_of_le hd with q | q
    · exact Or.inl (by omega)
    · refine Or.inr ?_
      have h3' : 10 ^ (d - 1) ≤ n := by rcases h3 with h3 | h3; omega; exact h3
      have e : 10 ^ (d - 1) = 10 ^ (d - 2 - 1) * 100 := by rw [show d - 1 = (d - 2 - 1) + 2 by omega, Nat.pow_add]
      rw [e] at h3'
      exact (Nat.le_div_iff_mul_le (by decide)).mpr h3'
theorem ltN {y p : Int32} {n P : Nat} (hy : y.toInt = -(n : Int)) (hp : p.toInt = -(P : Int)) : p < y ↔ n < P := by
  rw [lt_iff, hy, hp]; omega
def dch (n j : Nat) : Int32 := Int32.ofNat (48 + n / 10 ^ j % 10)
def decs (n d : Nat) : List Int32 := (List.range d).map fun k => dch n (d - 1 - k)
theorem decs_len (n d : Nat) : (decs n d).length = d := by simp [decs]
theorem decs_getD {n d k : Nat} (hk : k < d) : (decs n d).getD k 0 = dch n (d - 1 - k) := by
  rw [List.getD_eq_getElem?_getD, List.getElem?_eq_getElem (by rw [decs_len]; exact hk)]
  simp [decs]
theorem dch_L1 (n j : Nat) : L1 (dch n j) := by
  have : n / 10 ^ j % 10 < 10 := Nat.mod_lt _ (by decide)
  refine L1.of ?_ ?_ <;> rw [dch, n_toInt (by omega)] <;> omega
theorem nb {m : Nat} (h : m < 128) : (Int32.ofNat m).toInt8.toInt32 = Int32.ofNat m := by
  apply Int32.toInt_inj.mp
  have q := c_i2b (Int32.ofNat m)
  rw [n_toInt (by omega)] at q ⊢
  omega
theorem dch_b (n j : Nat) : (dch n j).toInt8.toInt32 = dch n j := nb (by have : n / 10 ^ j % 10 < 10 := Nat.mod_lt _ (by decide); omega)
theorem getD_set_eq {vs : List Value} {i : Nat} {x d : Value} (h : i < vs.length) : (vs.set i x).getD i d = x := by
  rw [List.getD_eq_getElem?_getD, List.getElem?_set_self h]; rfl
theorem getD_set_ne {vs : List Value} {i j : Nat} {x d : Value} (h : i ≠ j) : (vs.set i x).getD j d = vs.getD j d := by
  rw [List.getD_eq_getElem?_getD, List.getElem?_set_ne h, List.getD_eq_getElem?_getD]
/-- the digits of n stand behind p, the sign ahead of them -/
def Wrote (vs vs' : List Value) (p n d sg : Nat) : Prop :=
  vs'.length = vs.length ∧ (∀ j, j < d → vs'.getD (p - 1 - j) (.int 0) = .int (dch n j)) ∧ (sg = 1 → vs'.getD (p - 1 - d) (.int 0) = .int 45) ∧ ∀ i, i < p - (d + sg) ∨ p ≤ i → vs'.getD i (.int 0) = vs.getD i (.int 0)
theorem Wrote.two {vs vs' : List Value} {p n d sg : Nat} {x y : Value} (hx : x = .int (dch n 0)) (hy : y = .int (dch n 1)) (h3 : 3 ≤ d) (hp : d + sg ≤ p) (hl : p ≤ vs.length) (W : Wrote ((vs.set (p - 1) x).set (p - 2) y) vs' (p - 2) (n / 100) (d - 2) sg) : Wrote vs vs' p n d sg := by
  subst hx hy
  obtain ⟨w1, w2, w3, w4⟩ := W
  refine ⟨by rw [w1]; simp, fun j hj => ?_, fun hs => ?_, fun i hi => ?_⟩
  · rcases Nat.lt_or_ge j 2 with q | q
    · have e : j = 0 ∨ j = 1 := by omega
      rcases e with rfl | rfl
      · rw [w4 _ (Or.inr (by omega)), getD_set_ne (by omega), show p - 1 - 0 = p - 1 by omega, getD_set_eq (by omega)]
      · rw [w4 _ (Or.inr (by omega)), show p - 1 - 1 = p - 2 by omega, getD_set_eq (by rw [List.length_set]; omega)]
    · have e := w2 (j - 2) (by omega)
      rw [show p - 2 - 1 - (j - 2) = p - 1 - j by omega] at e
      rw [e]
      have e2 : n / 100 / 10 ^ (j - 2) = n / 10 ^ j := by
        rw [Nat.div_div_eq_div_mul, show (100 : Nat) = 10 ^ 2 by decide, ← Nat.pow_add, show 2 + (j - 2) = j by omega]
      rw [dch, dch, e2]
  · have e := w3 hs
    rw [show p - 2 - 1 - (d - 2) = p - 1 - d by omega] at e
    exact e
  · rw [w4 i (by omega), getD_set_ne (by omega), getD_set_ne (by omega)]
theorem Wrote.list {cs : List Int32} {rest vs' : List Value} {n d sg cap : Nat} (hr : cs.length + rest.length = cap) (hs : sg = 0 ∨ sg = 1) (hd : cs.length + (d + sg) ≤ cap) (W : Wrote (cs.map bv ++ rest) vs' (cs.length + (d + sg)) n d sg) : vs' = (cs ++ ((if sg = 1 then [45] else []) ++ decs n d)).map bv ++ vs'.drop (cs.length + (d + sg)) := by
  obtain ⟨w1, w2, w3, w4⟩ := W
  have hl : vs'.length = cap := by rw [w1]; simp; omega
  have hlen : (cs ++ ((if sg = 1 then [45] else []) ++ decs n d)).length = cs.length + (d + sg) := by
    rcases hs with rfl | rfl <;> simp [decs_len] <;> omega
  have key : ∀ i, i < cs.length + (d + sg) → vs'.getD i (.int 0) = .int ((cs ++ ((if sg = 1 then [45] else []) ++ decs n d)).getD i 0).toInt8.toInt32 := by
    intro i hi
    rcases Nat.lt_or_ge i cs.length with q | q
    · rw [w4 i (Or.inl (by omega))]
      have e1 : (cs.map bv ++ rest).getD i (.int 0) = (cs.map bv).getD i (.int 0) := by
        rw [List.getD_eq_getElem?_getD, List.getElem?_append_left (by simpa using q), List.getD_eq_getElem?_getD]
      have e2 : (cs ++ ((if sg = 1 then [45] else []) ++ decs n d)).getD i 0 = cs.getD i 0 := by
        rw [List.getD_eq_getElem?_getD, List.getElem?_append_left q, List.getD_eq_getElem?_getD]
      rw [e1, e2, bv_getD]
    · have e2 : (cs ++ ((if sg = 1 then [45] else []) ++ decs n d)).getD i 0 = ((if sg = 1 then [45] else []) ++ decs n d).getD (i - cs.length) 0 := by
        rw [List.getD_eq_getElem?_getD, List.getElem?_append_right q, List.getD_eq_getElem?_getD]
      rw [e2]
      rcases hs with rfl | rfl
      · simp only [show ¬ (0 : Nat) = 1 by decide, if_false, List.nil_append]
        rw [decs_getD (by omega), dch_b]
        have := w2 (d - 1 - (i - cs.length)) (by omega)
        rw [show cs.length + (d + 0) - 1 - (d - 1 - (i - cs.length)) = i by omega] at this
        exact this
      · simp only [if_true]
        rcases Nat.eq_or_lt_of_le q with q | q
        · rw [← q, Nat.sub_self]
          have := w3 rfl
          rw [show cs.length + (d + 1) - 1 - d = cs.length by omega] at this
          exact this
        · have e3 : ([45] ++ decs n d : List Int32).getD (i - cs.length) 0 = (decs n d).getD (i - cs.length - 1) 0 := by
            rw [List.getD_eq_getElem?_getD, List.getElem?_append_right (by simp; omega), List.getD_eq_getElem?_getD]; rfl
          rw [e3, decs_getD (by omega), dch_b]
          have := w2 (d - 1 - (i - cs.length - 1)) (by omega)
          rw [show cs.length + (d + 1) - 1 - (d - 1 - (i - cs.length - 1)) = i by omega] at this
          exact this
  apply List.ext_getElem
  · rw [List.length_append, List.length_map, hlen, List.length_drop, hl]; omega
  · intro i h1 h2
    rcases Nat.lt_or_ge i (cs.length + (d + sg)) with q | q
    · rw [List.getElem_append_left (by rw [List.length_map, hlen]; exact q), List.getElem_map]
      have := key i q
      rw [List.getD_eq_getElem?_getD, List.getElem?_eq_getElem h1, List.getD_eq_getElem?_getD, List.getElem?_eq_getElem (by rw [hlen]; exact q)] at this
      exact this
    · rw [List.getElem_append_right (by rw [List.length_map, hlen]; exact q), List.getElem_drop]
      congr 1
      rw [List.length_map, hlen]; omega
theorem Wrote.b10 {vs : List Value} {p n : Nat} (hp : 1 ≤ p) (hl : p ≤ vs.length) : Wrote vs (vs.set (p - 1) (.int (dch n 0))) p n 1 0 := by
  refine ⟨by simp, fun j hj => ?_, fun hs => by omega, fun i hi => getD_set_ne (by omega)⟩
  obtain rfl : j = 0 := by omega
  exact getD_set_eq (by omega)
theorem Wrote.b11 {vs : List Value} {p n : Nat} (hp : 2 ≤ p) (hl : p ≤ vs.length) : Wrote vs ((vs.set (p - 1) (.int (dch n 0))).set (p - 2) (.int 45)) p n 1 1 := by
  refine ⟨by simp, fun j hj => ?_, fun _ => ?_, fun i hi => by rw [getD_set_ne (by omega), getD_set_ne (by omega)]⟩
  · obtain rfl : j = 0 := by omega
    rw [getD_set_ne (by omega)]
    exact getD_set_eq (by omega)
  · rw [show p - 1 - 1 = p - 2 by omega]
    exact getD_set_eq (by rw [List.length_set]; omega)
theorem Wrote.b20 {vs : List Value} {p n : Nat} (hp : 2 ≤ p) (hl : p ≤ vs.length) : Wrote vs ((vs.set (p - 1) (.int (dch n 0))).set (p - 2) (.int (dch n 1))) p n 2 0 := by
  refine ⟨by simp, fun j hj => ?_, fun hs => by omega, fun i hi => by rw [getD_set_ne (by omega), getD_set_ne (by omega)]⟩
  have e : j = 0 ∨ j = 1 := by omega
  rcases e with rfl | rfl
  · rw [getD_set_ne (by omega)]
    exact getD_set_eq (by omega)
  · rw [show p - 1 - 1 = p - 2 by omega]
    exact getD_set_eq (by rw [List.length_set]; omega)
theorem Wrote.b21 {vs : List Value} {p n : Nat} (hp : 3 ≤ p) (hl : p ≤ vs.length) : Wrote vs (((vs.set (p - 1) (.int (dch n 0))).set (p - 2) (.int (dch n 1))).set (p - 3) (.int 45)) p n 2 1 := by
  refine ⟨by simp, fun j hj => ?_, fun _ => ?_, fun i hi => by rw [getD_set_ne (by omega), getD_set_ne (by omega), getD_set_ne (by omega)]⟩
  · rw [getD_set_ne (by omega)]
    have e : j = 0 ∨ j = 1 := by omega
    rcases e with rfl | rfl
    · rw [getD_set_ne (by omega)]
      exact getD_set_eq (by omega)
    · rw [show p - 1 - 1 = p - 2 by omega]
      exact getD_set_eq (by rw [List.length_set]; omega)
  · rw [show p - 1 - 2 = p - 3 by omega]
    exact getD_set_eq (by rw [List.length_set, List.length_set]; omega)
theorem ones_eq (n : Nat) : Int32.ofNat (48 + n % 100 % 10) = dch n 0 := by
  unfold dch; rw [Nat.pow_zero, Nat.div_one]; congr 1; omega
theorem tens_eq (n : Nat) : Int32.ofNat (48 + n % 100 / 10) = dch n 1 := by
  unfold dch; rw [Nat.pow_one]; congr 1; omega
/-- Integer's two tables -/
def Dg (Z : State) : Prop := ∃ (a1 a2 : Addr) (k1 k2 : ClassId), Sta Z Z.heap "java/lang/Integer" "DigitOnes" "[B" (.ref a1) ∧ Sta Z Z.heap "java/lang/Integer" "DigitTens" "[B" (.ref a2) ∧
  Arv Z Z.heap a1 k1 .byte 100 ((List.range 100).map fun i => .int (Int32.ofNat (48 + i % 10))) (.int 0) ∧ Arv Z Z.heap a2 k2 .byte 100 ((List.range 100).map fun i => .int (Int32.ofNat (48 + i / 10))) (.int 0)
theorem tab_getD (f : Nat → Value) {i : Nat} (hi : i < 100) : ((List.range 100).map f).getD i (.int 0) = f i := by
  rw [List.getD_eq_getElem?_getD, List.getElem?_eq_getElem (by simpa using hi)]; simp
theorem neg_toInt {x : Int32} {n : Nat} (hx : x.toInt = -(n : Int)) (hn : n < 2147483648) : -x = Int32.ofNat n := by
  apply Int32.toInt_inj.mp
  have q := c_ineg x
  have r := rng32 (-x)
  rw [n_toInt hn]
  omega
theorem pos_neg {x : Int32} {n : Nat} (hx : x.toInt = (n : Int)) : (-x).toInt = -(n : Int) := by
  have q := c_ineg x
  have r := rng32 (-x)
  have r2 := rng32 x
  omega
theorem gc_q {y : Int32} {n : Nat} (hy : y.toInt = -(n : Int)) : (y / (100 : Int32)).toInt = -((n / 100 : Nat) : Int) := by
  have q := c_idiv y 100 100 rfl (by decide)
  rcases Nat.eq_zero_or_pos n with z | z
  · subst z
    rw [q.1 (by omega)]; rw [hy]; rfl
  · rw [q.2 (by omega), hy]; omega
theorem gc_r {y : Int32} {n : Nat} (hy : y.toInt = -(n : Int)) : (y / (100 : Int32)) * (100 : Int32) - y = Int32.ofNat (n % 100) := by
  apply Int32.toInt_inj.mp
  have hq := gc_q hy
  have m := c_imul (y / (100 : Int32)) 100
  have e100 : (100 : Int32).toInt = 100 := rfl
  have s := c_isub ((y / (100 : Int32)) * (100 : Int32)) y
  have r1 := rng32 ((y / (100 : Int32)) * (100 : Int32))
  have r2 := rng32 ((y / (100 : Int32)) * (100 : Int32) - y)
  have ry := rng32 y
  rw [n_toInt (by omega)]
  rw [hq, e100] at m
  omega
theorem n_pred {p : Nat} (h : 0 < p) : Int32.ofNat p + (-1 : Int32) = Int32.ofNat (p - 1) := by
  apply Int32.toInt_inj.mp
  have e : Int32.ofNat p = Int32.ofNat (p - 1) + 1 := by rw [n_succ]; congr 1; omega
  rw [e]
  have q := c_iadd (Int32.ofNat (p - 1)) 1
  have q2 := c_iadd (Int32.ofNat (p - 1) + 1) (-1)
  have e1 : (1 : Int32).toInt = 1 := rfl
  have e2 : (-1 : Int32).toInt = -1 := rfl
  have r1 := rng32 (Int32.ofNat (p - 1))
  have r2 := rng32 (Int32.ofNat (p - 1) + 1 + -1)
  omega
end Dec
end Jvm.OwnK
namespace Jvm.OwnK
open Sem ClassFile Op Lib Bundle Jvm.Free Jvm.Stand Jvm.LawKit Jvm.RoadKit
section Dec2
theorem sub0 (x : Int32) : x - (0 : Int32) = x := by
  apply Int32.toInt_inj.mp
  have q := c_isub x 0
  have r := rng32 (x - 0)
  have r2 := rng32 x
  have e0 : (0 : Int32).toInt = 0 := rfl
  omega
theorem range_getD' (cs : List Int32) (rest : List Value) (n : Nat) (hn : cs.length = n) : ((List.range n).map fun i => (cs.map bv ++ rest).getD (0 + i) (.int 0)) = cs.map bv := by
  subst hn
  apply List.ext_getElem
  · simp
  · intro i h1 h2
    simp only [List.length_map, List.length_range] at h1
    simp [List.getElem_map, List.getD_eq_getElem?_getD, h1, List.getElem?_append_left]
theorem j_toInt {i : Nat} (h : i < 9223372036854775808) : (Int64.ofNat i).toInt = i := Int64.toInt_ofNat_of_lt h
/-- (char) ('0' + (int) ((v / p) % 10)) -/
theorem digit_eq {v p : Int64} {n e : Nat} (hv : v.toInt = (n : Int)) (hp : p.toInt = ((10 ^ e : Nat) : Int)) (h1 : p ≠ -1) : (((48 : Int32) + ((v / p) % (10 : Int64)).toInt32).toUInt32.toUInt16.toUInt32.toInt32) = dch n e := by
  have q := (c_ldiv v p _ hp h1).1 (by omega)
  rw [hv] at q
  have q2 : (v / p).toInt = ((n / 10 ^ e : Nat) : Int) := by rw [q]; exact (Int.natCast_ediv _ _).symm ▸ rfl
  have m := (c_lrem (v / p) 10 10 rfl).1 (by rw [q2]; exact Int.natCast_nonneg _)
  rw [lrem_mod, q2] at m
  have hm : n / 10 ^ e % 10 < 10 := Nat.mod_lt _ (by decide)
  have m2 : ((v / p) % (10 : Int64)).toInt = ((n / 10 ^ e % 10 : Nat) : Int) := by rw [m]; exact (Int.natCast_emod _ _).symm ▸ rfl
  have l := c_l2i ((v / p) % (10 : Int64))
  have rl := rng32 ((v / p) % (10 : Int64)).toInt32
  rw [m2] at l
  have a := c_iadd (48 : Int32) ((v / p) % (10 : Int64)).toInt32
  have e48 : (48 : Int32).toInt = 48 := rfl
  have ra := rng32 ((48 : Int32) + ((v / p) % (10 : Int64)).toInt32)
  have c := c_i2c ((48 : Int32) + ((v / p) % (10 : Int64)).toInt32)
  apply Int32.toInt_inj.mp
  rw [dch, n_toInt (by omega)]
  omega
end Dec2
end Jvm.OwnK
namespace Jvm.OwnK
open Sem ClassFile Op Lib Bundle Jvm.Free Jvm.Stand Jvm.LawKit Jvm.RoadKit
theorem ltJ {v p : Int64} {n P : Nat} (hv : v.toInt = (n : Int)) (hp : p.toInt = (P : Int)) : v < p ↔ n < P := by
  rw [Int64.lt_iff_toInt_lt, hv, hp]; omega
theorem n_sub {i j : Nat} (h : j ≤ i) : Int32.ofNat i - Int32.ofNat j = Int32.ofNat (i - j) := by
  apply Int32.toInt_inj.mp
  have e : Int32.ofNat i = Int32.ofNat (i - j) + Int32.ofNat j := by rw [n_add]; congr 1; omega
  rw [e]
  have q := c_iadd (Int32.ofNat (i - j)) (Int32.ofNat j)
  have q2 := c_isub (Int32.ofNat (i - j) + Int32.ofNat j) (Int32.ofNat j)
  have r1 := rng32 (Int32.ofNat (i - j))
  have r2 := rng32 (Int32.ofNat (i - j) + Int32.ofNat j - Int32.ofNat j)
  omega
theorem arrayAt_cell {Z : State} {a : Addr} {SA : Cell} (h : Z.arrayAt? a = some SA) : Z.heap[a]? = some SA ∧ SA.vm ≠ .unknown := by
  simp only [State.arrayAt?, Option.bind_eq_bind, Option.bind_eq_some_iff] at h
  obtain ⟨c, h1, k, h2, h3⟩ := h
  split at h3
  · cases h3
  · rename_i hn
    split at h3
    · cases h3; exact ⟨h1, fun q => hn (Or.inl q)⟩
    · cases h3
/-- a table of bytes that stood at the start -/
theorem tab_of {Z : State} {args a0 : Array Value} {t F : Term} {f : Nat → Int32} (wa : (Cond.arrayClass .byte).before a0 Z = true) (ht : ∀ idx, t.eval args Z none idx Z = t.eval args Z none [] Z)
    (wx : (Cond.exactly t "[B").value args Z none Z [] = some true) (wl : (Cond.eq (.length t) (.int 100)).value args Z none Z [] = some true) (wt : (Cond.all t (.eq (.elem t (.index 0)) F)).value args Z none Z [] = some true)
    (hF : ∀ j, j < 100 → F.eval args Z none [j] Z = some (.int (f j))) (hf : ∀ j, j < 100 → fits .byte (.int (f j)) = true) :
    ∃ a k, t.eval args Z none [] Z = some (.ref a) ∧ Arv Z Z.heap a k .byte 100 ((List.range 100).map fun i => .int (f i)) (.int 0) := by
  obtain ⟨a3, c3, cell3, k3, e1, e2, e3, e4, e5, e6, -⟩ := Cond.exactly_spec (Cond.before_iff.mpr wx)
  have hlen := eqv_i (Term.int_eval 100) wl
  obtain ⟨sd, SA, hev, harrAt, -⟩ := Term.length_spec hlen
  cases hev.symm.trans e1
  have h31 := SBG.length_lt hev harrAt hlen
  have hsz : SA.slots.size = 100 := by
    have e : (Term.length t).eval args Z none [] Z = some (.int (Int32.ofNat SA.slots.size)) := by simp [Term.eval, hev, harrAt, h31]
    have h2 : Int32.ofNat SA.slots.size = (100 : Int32) := by simpa using Option.some.inj (e.symm.trans hlen)
    have := congrArg Int32.toInt h2
    rw [Int32.toInt_ofNat_small h31] at this
    have e100 : (100 : Int32).toInt = 100 := rfl
    omega
  have hcell := arrayAt_cell harrAt
  have hSA : SA = cell3 := Option.some.inj (hcell.1.symm.trans e3)
  subst hSA
  obtain ⟨c4, k4, comp, f1, f2, f3⟩ := Cond.arrayClass_spec wa
  cases (show Z.vm.findClass "[B" = some c4 from f1).symm.trans e2
  have hA : Z.isArrayOf SA .byte := ⟨(fun q r => by rw [r] at e5; cases e5), k4, by rw [e6]; exact f2, comp, f3⟩
  have A : Arr Z Z.heap a3 SA .byte := ⟨hcell.1, hA, hcell.2⟩
  have el : ∀ j, j < 100 → SA.slots[j]? = some (.int (f j)) := fun j hj => by
    have u := Cond.all_elim hev (A.fin (Vm.Alike.refl _)) wt j (by omega)
    have v := eqv_i (hF j hj) u
    have hj31 : j < 2147483648 := by omega
    have nn := n_nn hj31
    have cl := n_clamp hj31
    have ix : (Term.index 0).eval args Z none [(Int32.ofNat j).toNatClampNeg] Z = some (.int (Int32.ofNat j)) := idx_at nn
    have w := elem_f (t := t) ((ht _).trans hev) ix (A.fin (Vm.Alike.refl _)) nn
    rw [cl] at w
    exact w.symm.trans v
  refine ⟨a3, SA.cls, hev, SA, A, rfl, by rw [hsz]; rfl, by decide, fun j hj => ?_, fun j hj => ?_⟩
  · rw [hsz] at hj
    rw [el j hj, tab_getD _ hj]
  · rw [hsz] at hj
    rw [tab_getD _ hj]; exact hf j hj
end Jvm.OwnK
namespace Jvm.OwnK
open Sem ClassFile Op Lib Bundle Jvm.Free Jvm.Stand Jvm.LawKit Jvm.RoadKit
/-- what a StringBuilder of cap places holds after it was asked for m -/
def gcap (cap m : Nat) : Nat := if m ≤ cap then cap else cap + max (m - cap) (cap + 2)
theorem gcap_le {cap m : Nat} (h : m ≤ cap) : gcap cap m = cap := if_pos h
theorem gcap_gt {cap m : Nat} (h : cap < m) : gcap cap m = cap + max (m - cap) (cap + 2) := if_neg (by omega)
theorem gcap_ge (cap m : Nat) : m ≤ gcap cap m ∧ cap ≤ gcap cap m := by unfold gcap; split <;> omega
theorem gcap_dbl {cap m : Nat} (h : m ≤ 2 * cap + 2) : gcap cap m = cap ∨ gcap cap m = 2 * cap + 2 := by unfold gcap; split <;> omega
theorem gcap_mono (cap : Nat) {m m' : Nat} (h : m ≤ m') : gcap cap m ≤ gcap cap m' := by unfold gcap; split <;> split <;> omega
theorem n_max {g p : Nat} (hg : g < 2147483648) (hp : p < 2147483648) : (if Int32.ofNat g < Int32.ofNat p then Int32.ofNat p else Int32.ofNat g) = Int32.ofNat (max g p) := by
  rcases Nat.lt_or_ge g p with q | q
  · rw [if_pos (n_lt q hp)]; congr 1; omega
  · rw [if_neg (n_ge q hg)]; congr 1; omega
theorem range_vs (vs : List Value) (n : Nat) (hn : vs.length = n) : ((List.range n).map fun i => vs.getD (0 + i) (.int 0)) = vs := by
  subst hn
  apply List.ext_getElem
  · simp
  · intro i h1 h2
    simp only [List.length_map, List.length_range] at h1
    simp [List.getD_eq_getElem?_getD, h1]
theorem sub_gt0 {m n : Nat} (h : n < m) (hm : m ≤ 4096) : 0 < Int32.ofNat m - Int32.ofNat n := by
  rw [n_sub (by omega)]; exact n_lt (i := 0) (by omega) (by omega)
theorem sub_le0' {m n : Nat} (h : m ≤ n) (hn : n ≤ 4096) : ¬ 0 < Int32.ofNat m - Int32.ofNat n := by
  have q := sub_le0 h hn
  rw [shr0] at q; exact q
theorem mid_getD {A B C : List Int32} {j : Nat} (hj : j < B.length) : (A ++ (B ++ C)).getD (A.length + j) 0 = B.getD j 0 := by
  rw [List.getD_eq_getElem?_getD, List.getElem?_append_right (by omega), show A.length + j - A.length = j by omega, List.getElem?_append_left hj, List.getD_eq_getElem?_getD]
theorem gcap_set {cp m : Nat} (h : cp = 16 ∨ cp = 34) (hm : m ≤ 34) : gcap cp m = 16 ∨ gcap cp m = 34 := by
  unfold gcap; rcases h with rfl | rfl <;> split <;> omega
theorem seg {cs A B C : List Int32} {o : Nat} (e : cs = A ++ (B ++ C)) (ho : A.length = o) : ∀ j, j < B.length → cs.getD (o + j) 0 = B.getD j 0 := by
  subst e ho; intro j hj; exact mid_getD hj
theorem seg_len {cs A B C : List Int32} {o : Nat} (e : cs = A ++ (B ++ C)) (ho : A.length = o) : o + B.length ≤ cs.length := by
  subst e ho; simp only [List.length_append]; omega
end Jvm.OwnK
namespace Jvm.Pilot.@@N@@
open Jvm Jvm.ClassFile Sem Op Lib Jvm.Free Jvm.Stand Jvm.LawKit Jvm.RoadKit Bundle Jvm.OwnK Jvm.Pilot.@@N@@.Jvm.D
abbrev Hw (Z : State) (a0 : Array Value) : Prop := ∀ d ∈ tables_1, d.before a0 Z = true
theorem w0 {Z : State} {a0 : Array Value} (hw : Hw Z a0) : (Jvm.Cond.classLink "com/example/tynwald/tynwald/complaints/CommentParseTextPinLaw" (7 : Nat) "java/lang/String").before a0 Z = true := hw _ (List.mem_of_getElem? (i := 0) rfl)
theorem w1 {Z : State} {a0 : Array Value} (hw : Hw Z a0) : (Jvm.Cond.instantiable "java/lang/String" (4 : Nat)).before a0 Z = true := hw _ (List.mem_of_getElem? (i := 1) rfl)
theorem w2 {Z : State} {a0 : Array Value} (hw : Hw Z a0) : (Jvm.Cond.initialized "java/lang/String").before a0 Z = true := hw _ (List.mem_of_getElem? (i := 2) rfl)
theorem w3 {Z : State} {a0 : Array Value} (hw : Hw Z a0) : (Jvm.Cond.arrayClass Jvm.ClassFile.FieldType.char).before a0 Z = true := hw _ (List.mem_of_getElem? (i := 3) rfl)
theorem w4 {Z : State} {a0 : Array Value} (hw : Hw Z a0) : (Jvm.Cond.methodLink "com/example/tynwald/tynwald/complaints/CommentParseTextPinLaw" (9 : Nat) ({ cls := "java/lang/String", name := "<init>", desc := "([C)V" } : Jvm.MethodName)).before a0 Z = true := hw _ (List.mem_of_getElem? (i := 4) rfl)
theorem w5 {Z : State} {a0 : Array Value} (hw : Hw Z a0) : (Jvm.Cond.instanceMethod ({ cls := "java/lang/String", name := "<init>", desc := "([C)V" } : Jvm.MethodName)).before a0 Z = true := hw _ (List.mem_of_getElem? (i := 5) rfl)
theorem w6 {Z : State} {a0 : Array Value} (hw : Hw Z a0) : (Jvm.Cond.code ({ cls := "java/lang/String", name := "<init>", desc := "([C)V" } : Jvm.MethodName) jdk_42_method_3_code (2 : Nat) (Option.none : Option Jvm.ClassFile.FieldType)).before a0 Z = true := hw _ (List.mem_of_getElem? (i := 6) rfl)
theorem w7 {Z : State} {a0 : Array Value} (hw : Hw Z a0) : (Jvm.Cond.methodLink "java/lang/String" (27 : Nat) ({ cls := "java/lang/String", name := "<init>", desc := "([CIILjava/lang/Void;)V" } : Jvm.MethodName)).before a0 Z = true := hw _ (List.mem_of_getElem? (i := 7) rfl)
theorem w8 {Z : State} {a0 : Array Value} (hw : Hw Z a0) : (Jvm.Cond.instanceMethod ({ cls := "java/lang/String", name := "<init>", desc := "([CIILjava/lang/Void;)V" } : Jvm.MethodName)).before a0 Z = true := hw _ (List.mem_of_getElem? (i := 8) rfl)
theorem w10 {Z : State} {a0 : Array Value} (hw : Hw Z a0) : (Jvm.Cond.code ({ cls := "java/lang/String", name := "<init>", desc := "([CIILjava/lang/Void;)V" } : Jvm.MethodName) jdk_42_method_149_code (6 : Nat) (Option.none : Option Jvm.ClassFile.FieldType)).before a0 Z = true := hw _ (List.mem_of_getElem? (i := 10) rfl)
theorem w11 {Z : State} {a0 : Array Value} (hw : Hw Z a0) : (Jvm.Cond.methodLink "java/lang/String" (1 : Nat) ({ cls := "java/lang/Object", name := "<init>", desc := "()V" } : Jvm.MethodName)).before a0 Z = true := hw _ (List.mem_of_getElem? (i := 11) rfl)
theorem w12 {Z : State} {a0 : Array Value} (hw : Hw Z a0) : (Jvm.Cond.instanceMethod ({ cls := "java/lang/Object", name := "<init>", desc := "()V" } : Jvm.MethodName)).before a0 Z = true := hw _ (List.mem_of_getElem? (i := 12) rfl)
theorem w13 {Z : State} {a0 : Array Value} (hw : Hw Z a0) : (Jvm.Cond.code ({ cls := "java/lang/Object", name := "<init>", desc := "()V" } : Jvm.MethodName) object_method_1_code (1 : Nat) (Option.none : Option Jvm.ClassFile.FieldType)).before a0 Z = true := hw _ (List.mem_of_getElem? (i := 13) rfl)
theorem w14 {Z : State} {a0 : Array Value} (hw : Hw Z a0) : (Jvm.Cond.fieldLink "java/lang/String" (38 : Nat) "java/lang/String" "COMPACT_STRINGS" "Z").before a0 Z = true := hw _ (List.mem_of_getElem? (i := 14) rfl)
theorem w15 {Z : State} {a0 : Array Value} (hw : Hw Z a0) : (Jvm.Cond.methodLink "java/lang/String" (177 : Nat) ({ cls := "java/lang/StringUTF16", name := "compress", desc := "([CII)[B" } : Jvm.MethodName)).before a0 Z = true := hw _ (List.mem_of_getElem? (i := 15) rfl)
theorem w16 {Z : State} {a0 : Array Value} (hw : Hw Z a0) : (Jvm.Cond.static ({ cls := "java/lang/StringUTF16", name := "compress", desc := "([CII)[B" } : Jvm.MethodName)).before a0 Z = true := hw _ (List.mem_of_getElem? (i := 16) rfl)
theorem w17 {Z : State} {a0 : Array Value} (hw : Hw Z a0) : (Jvm.Cond.initialized "java/lang/StringUTF16").before a0 Z = true := hw _ (List.mem_of_getElem? (i := 17) rfl)
theorem w18 {Z : State} {a0 : Array Value} (hw : Hw Z a0) : (Jvm.Cond.code ({ cls := "java/lang/StringUTF16", name := "compress", desc := "([CII)[B" } : Jvm.MethodName) jdk_52_method_16_code (6 : Nat) (Option.some (Jvm.ClassFile.FieldType.array Jvm.ClassFile.FieldType.byte))).before a0 Z = true := hw _ (List.mem_of_getElem? (i := 18) rfl)
theorem w19 {Z : State} {a0 : Array Value} (hw : Hw Z a0) : (Jvm.Cond.arrayClass Jvm.ClassFile.FieldType.byte).before a0 Z = true := hw _ (List.mem_of_getElem? (i := 19) rfl)
theorem w20 {Z : State} {a0 : Array Value} (hw : Hw Z a0) : (Jvm.Cond.methodLink "java/lang/StringUTF16" (115 : Nat) ({ cls := "java/lang/StringUTF16", name := "compress", desc := "([CI[BII)I" } : Jvm.MethodName)).before a0 Z = true := hw _ (List.mem_of_getElem? (i := 20) rfl)
theorem w21 {Z : State} {a0 : Array Value} (hw : Hw Z a0) : (Jvm.Cond.static ({ cls := "java/lang/StringUTF16", name := "compress", desc := "([CI[BII)I" } : Jvm.MethodName)).before a0 Z = true := hw _ (List.mem_of_getElem? (i := 21) rfl)
theorem w22 {Z : State} {a0 : Array Value} (hw : Hw Z a0) : (Jvm.Cond.code ({ cls := "java/lang/StringUTF16", name := "compress", desc := "([CI[BII)I" } : Jvm.MethodName) jdk_52_method_21_code (7 : Nat) (Option.some Jvm.ClassFile.FieldType.int)).before a0 Z = true := hw _ (List.mem_of_getElem? (i := 22) rfl)
theorem w23 {Z : State} {a0 : Array Value} (hw : Hw Z a0) : (Jvm.Cond.methodLink "java/lang/String" (47 : Nat) ({ cls := "java/lang/StringUTF16", name := "coderFromArrayLen", desc := "([BI)B" } : Jvm.MethodName)).before a0 Z = true := hw _ (List.mem_of_getElem? (i := 23) rfl)
theorem w24 {Z : State} {a0 : Array Value} (hw : Hw Z a0) : (Jvm.Cond.static ({ cls := "java/lang/StringUTF16", name := "coderFromArrayLen", desc := "([BI)B" } : Jvm.MethodName)).before a0 Z = true := hw _ (List.mem_of_getElem? (i := 24) rfl)
theorem w25 {Z : State} {a0 : Array Value} (hw : Hw Z a0) : (Jvm.Cond.code ({ cls := "java/lang/StringUTF16", name := "coderFromArrayLen", desc := "([BI)B" } : Jvm.MethodName) jdk_52_method_15_code (2 : Nat) (Option.some Jvm.ClassFile.FieldType.byte)).before a0 Z = true := hw _ (List.mem_of_getElem? (i := 25) rfl)
theorem w26 {Z : State} {a0 : Array Value} (hw : Hw Z a0) : (Jvm.Cond.fieldLink "java/lang/String" (15 : Nat) "java/lang/String" "coder" "B").before a0 Z = true := hw _ (List.mem_of_getElem? (i := 26) rfl)
theorem w27 {Z : State} {a0 : Array Value} (hw : Hw Z a0) : (Jvm.Cond.laysFinal "java/lang/String" "java/lang/String" "coder" "B").before a0 Z = true := hw _ (List.mem_of_getElem? (i := 27) rfl)
theorem w28 {Z : State} {a0 : Array Value} (hw : Hw Z a0) : (Jvm.Cond.fieldLink "java/lang/String" (9 : Nat) "java/lang/String" "value" "[B").before a0 Z = true := hw _ (List.mem_of_getElem? (i := 28) rfl)
theorem w29 {Z : State} {a0 : Array Value} (hw : Hw Z a0) : (Jvm.Cond.laysFinal "java/lang/String" "java/lang/String" "value" "[B").before a0 Z = true := hw _ (List.mem_of_getElem? (i := 29) rfl)
theorem w30 {Z : State} {a0 : Array Value} (hw : Hw Z a0) : (Jvm.Cond.methodLink "com/example/tynwald/tynwald/complaints/CommentParseTextPinLaw" (12 : Nat) ({ cls := "com/example/tynwald/tynwald/complaints/Comment", name := "parseText", desc := "(Ljava/lang/String;)Ljava/lang/String;" } : Jvm.MethodName)).before a0 Z = true := hw _ (List.mem_of_getElem? (i := 30) rfl)
theorem w31 {Z : State} {a0 : Array Value} (hw : Hw Z a0) : (Jvm.Cond.static ({ cls := "com/example/tynwald/tynwald/complaints/Comment", name := "parseText", desc := "(Ljava/lang/String;)Ljava/lang/String;" } : Jvm.MethodName)).before a0 Z = true := hw _ (List.mem_of_getElem? (i := 31) rfl)
theorem w32 {Z : State} {a0 : Array Value} (hw : Hw Z a0) : (Jvm.Cond.initialized "com/example/tynwald/tynwald/complaints/Comment").before a0 Z = true := hw _ (List.mem_of_getElem? (i := 32) rfl)
theorem w33 {Z : State} {a0 : Array Value} (hw : Hw Z a0) : (Jvm.Cond.code ({ cls := "com/example/tynwald/tynwald/complaints/Comment", name := "parseText", desc := "(Ljava/lang/String;)Ljava/lang/String;" } : Jvm.MethodName) prog_31_method_2_code (1 : Nat) (Option.some (Jvm.ClassFile.FieldType.object "java/lang/String"))).before a0 Z = true := hw _ (List.mem_of_getElem? (i := 33) rfl)
theorem w34 {Z : State} {a0 : Array Value} (hw : Hw Z a0) : (Jvm.Cond.stringLink "com/example/tynwald/tynwald/complaints/Comment" (19 : Nat) "text").before a0 Z = true := hw _ (List.mem_of_getElem? (i := 34) rfl)
theorem w35 {Z : State} {a0 : Array Value} (hw : Hw Z a0) : (Jvm.Cond.soleField "java/lang/String" "value").before a0 Z = true := hw _ (List.mem_of_getElem? (i := 35) rfl)
theorem w36 {Z : State} {a0 : Array Value} (hw : Hw Z a0) : (Jvm.Cond.soleField "java/lang/String" "coder").before a0 Z = true := hw _ (List.mem_of_getElem? (i := 36) rfl)
theorem w37 {Z : State} {a0 : Array Value} (hw : Hw Z a0) : (Jvm.Cond.methodLink "com/example/tynwald/tynwald/complaints/Comment" (11 : Nat) ({ cls := "java/util/Objects", name := "requireNonNull", desc := "(Ljava/lang/Object;Ljava/lang/String;)Ljava/lang/Object;" } : Jvm.MethodName)).before a0 Z = true := hw _ (List.mem_of_getElem? (i := 37) rfl)
theorem w38 {Z : State} {a0 : Array Value} (hw : Hw Z a0) : (Jvm.Cond.static ({ cls := "java/util/Objects", name := "requireNonNull", desc := "(Ljava/lang/Object;Ljava/lang/String;)Ljava/lang/Object;" } : Jvm.MethodName)).before a0 Z = true := hw _ (List.mem_of_getElem? (i := 38) rfl)
theorem w39 {Z : State} {a0 : Array Value} (hw : Hw Z a0) : (Jvm.Cond.initialized "java/util/Objects").before a0 Z = true := hw _ (List.mem_of_getElem? (i := 39) rfl)
theorem w40 {Z : State} {a0 : Array Value} (hw : Hw Z a0) : (Jvm.Cond.code ({ cls := "java/util/Objects", name := "requireNonNull", desc := "(Ljava/lang/Object;Ljava/lang/String;)Ljava/lang/Object;" } : Jvm.MethodName) jdk_31_method_11_code (2 : Nat) (Option.some (Jvm.ClassFile.FieldType.object "java/lang/Object"))).before a0 Z = true := hw _ (List.mem_of_getElem? (i := 40) rfl)
theorem w41 {Z : State} {a0 : Array Value} (hw : Hw Z a0) : (Jvm.Cond.methodLink "com/example/tynwald/tynwald/complaints/Comment" (65 : Nat) ({ cls := "java/lang/String", name := "isEmpty", desc := "()Z" } : Jvm.MethodName)).before a0 Z = true := hw _ (List.mem_of_getElem? (i := 41) rfl)
theorem w42 {Z : State} {a0 : Array Value} (hw : Hw Z a0) : (Jvm.Cond.declares ({ cls := "java/lang/String", name := "isEmpty", desc := "()Z" } : Jvm.MethodName)).before a0 Z = true := hw _ (List.mem_of_getElem? (i := 42) rfl)
theorem w43 {Z : State} {a0 : Array Value} (hw : Hw Z a0) : (Jvm.Cond.instanceMethod ({ cls := "java/lang/String", name := "isEmpty", desc := "()Z" } : Jvm.MethodName)).before a0 Z = true := hw _ (List.mem_of_getElem? (i := 43) rfl)
theorem w44 {Z : State} {a0 : Array Value} (hw : Hw Z a0) : (Jvm.Cond.selects "java/lang/String" ({ cls := "java/lang/String", name := "isEmpty", desc := "()Z" } : Jvm.MethodName) ({ cls := "java/lang/String", name := "isEmpty", desc := "()Z" } : Jvm.MethodName)).before a0 Z = true := hw _ (List.mem_of_getElem? (i := 44) rfl)
theorem w45 {Z : State} {a0 : Array Value} (hw : Hw Z a0) : (Jvm.Cond.code ({ cls := "java/lang/String", name := "isEmpty", desc := "()Z" } : Jvm.MethodName) jdk_42_method_55_code (1 : Nat) (Option.some Jvm.ClassFile.FieldType.boolean)).before a0 Z = true := hw _ (List.mem_of_getElem? (i := 45) rfl)
theorem w46 {Z : State} {a0 : Array Value} (hw : Hw Z a0) : (Jvm.Cond.methodLink "com/example/tynwald/tynwald/complaints/CommentParseTextPinLaw" (18 : Nat) ({ cls := "java/lang/String", name := "length", desc := "()I" } : Jvm.MethodName)).before a0 Z = true := hw _ (List.mem_of_getElem? (i := 46) rfl)
theorem w47 {Z : State} {a0 : Array Value} (hw : Hw Z a0) : (Jvm.Cond.declares ({ cls := "java/lang/String", name := "length", desc := "()I" } : Jvm.MethodName)).before a0 Z = true := hw _ (List.mem_of_getElem? (i := 47) rfl)
theorem w48 {Z : State} {a0 : Array Value} (hw : Hw Z a0) : (Jvm.Cond.instanceMethod ({ cls := "java/lang/String", name := "length", desc := "()I" } : Jvm.MethodName)).before a0 Z = true := hw _ (List.mem_of_getElem? (i := 48) rfl)
theorem w49 {Z : State} {a0 : Array Value} (hw : Hw Z a0) : (Jvm.Cond.selects "java/lang/String" ({ cls := "java/lang/String", name := "length", desc := "()I" } : Jvm.MethodName) ({ cls := "java/lang/String", name := "length", desc := "()I" } : Jvm.MethodName)).before a0 Z = true := hw _ (List.mem_of_getElem? (i := 49) rfl)
theorem w50 {Z : State} {a0 : Array Value} (hw : Hw Z a0) : (Jvm.Cond.code ({ cls := "java/lang/String", name := "length", desc := "()I" } : Jvm.MethodName) jdk_42_method_54_code (1 : Nat) (Option.some Jvm.ClassFile.FieldType.int)).before a0 Z = true := hw _ (List.mem_of_getElem? (i := 50) rfl)
theorem w51 {Z : State} {a0 : Array Value} (hw : Hw Z a0) : (Jvm.Cond.methodLink "java/lang/String" (335 : Nat) ({ cls := "java/lang/String", name := "coder", desc := "()B" } : Jvm.MethodName)).before a0 Z = true := hw _ (List.mem_of_getElem? (i := 51) rfl)
theorem w52 {Z : State} {a0 : Array Value} (hw : Hw Z a0) : (Jvm.Cond.declares ({ cls := "java/lang/String", name := "coder", desc := "()B" } : Jvm.MethodName)).before a0 Z = true := hw _ (List.mem_of_getElem? (i := 52) rfl)
theorem w53 {Z : State} {a0 : Array Value} (hw : Hw Z a0) : (Jvm.Cond.instanceMethod ({ cls := "java/lang/String", name := "coder", desc := "()B" } : Jvm.MethodName)).before a0 Z = true := hw _ (List.mem_of_getElem? (i := 53) rfl)
theorem w54 {Z : State} {a0 : Array Value} (hw : Hw Z a0) : (Jvm.Cond.selects "java/lang/String" ({ cls := "java/lang/String", name := "coder", desc := "()B" } : Jvm.MethodName) ({ cls := "java/lang/String", name := "coder", desc := "()B" } : Jvm.MethodName)).before a0 Z = true := hw _ (List.mem_of_getElem? (i := 54) rfl)
theorem w55 {Z : State} {a0 : Array Value} (hw : Hw Z a0) : (Jvm.Cond.code ({ cls := "java/lang/String", name := "coder", desc := "()B" } : Jvm.MethodName) jdk_42_method_152_code (1 : Nat) (Option.some Jvm.ClassFile.FieldType.byte)).before a0 Z = true := hw _ (List.mem_of_getElem? (i := 55) rfl)
theorem w56 {Z : State} {a0 : Array Value} (hw : Hw Z a0) : (Jvm.Cond.methodLink "com/example/tynwald/tynwald/complaints/CommentParseTextPinLaw" (22 : Nat) ({ cls := "java/lang/String", name := "charAt", desc := "(I)C" } : Jvm.MethodName)).before a0 Z = true := hw _ (List.mem_of_getElem? (i := 56) rfl)
theorem w57 {Z : State} {a0 : Array Value} (hw : Hw Z a0) : (Jvm.Cond.declares ({ cls := "java/lang/String", name := "charAt", desc := "(I)C" } : Jvm.MethodName)).before a0 Z = true := hw _ (List.mem_of_getElem? (i := 57) rfl)
theorem w58 {Z : State} {a0 : Array Value} (hw : Hw Z a0) : (Jvm.Cond.instanceMethod ({ cls := "java/lang/String", name := "charAt", desc := "(I)C" } : Jvm.MethodName)).before a0 Z = true := hw _ (List.mem_of_getElem? (i := 58) rfl)
theorem w59 {Z : State} {a0 : Array Value} (hw : Hw Z a0) : (Jvm.Cond.selects "java/lang/String" ({ cls := "java/lang/String", name := "charAt", desc := "(I)C" } : Jvm.MethodName) ({ cls := "java/lang/String", name := "charAt", desc := "(I)C" } : Jvm.MethodName)).before a0 Z = true := hw _ (List.mem_of_getElem? (i := 59) rfl)
theorem w60 {Z : State} {a0 : Array Value} (hw : Hw Z a0) : (Jvm.Cond.code ({ cls := "java/lang/String", name := "charAt", desc := "(I)C" } : Jvm.MethodName) jdk_42_method_56_code (2 : Nat) (Option.some Jvm.ClassFile.FieldType.char)).before a0 Z = true := hw _ (List.mem_of_getElem? (i := 60) rfl)
theorem w61 {Z : State} {a0 : Array Value} (hw : Hw Z a0) : (Jvm.Cond.methodLink "java/lang/String" (492 : Nat) ({ cls := "java/lang/String", name := "isLatin1", desc := "()Z" } : Jvm.MethodName)).before a0 Z = true := hw _ (List.mem_of_getElem? (i := 61) rfl)
theorem w62 {Z : State} {a0 : Array Value} (hw : Hw Z a0) : (Jvm.Cond.declares ({ cls := "java/lang/String", name := "isLatin1", desc := "()Z" } : Jvm.MethodName)).before a0 Z = true := hw _ (List.mem_of_getElem? (i := 62) rfl)
theorem w63 {Z : State} {a0 : Array Value} (hw : Hw Z a0) : (Jvm.Cond.instanceMethod ({ cls := "java/lang/String", name := "isLatin1", desc := "()Z" } : Jvm.MethodName)).before a0 Z = true := hw _ (List.mem_of_getElem? (i := 63) rfl)
theorem w64 {Z : State} {a0 : Array Value} (hw : Hw Z a0) : (Jvm.Cond.selects "java/lang/String" ({ cls := "java/lang/String", name := "isLatin1", desc := "()Z" } : Jvm.MethodName) ({ cls := "java/lang/String", name := "isLatin1", desc := "()Z" } : Jvm.MethodName)).before a0 Z = true := hw _ (List.mem_of_getElem? (i := 64) rfl)
theorem w65 {Z : State} {a0 : Array Value} (hw : Hw Z a0) : (Jvm.Cond.code ({ cls := "java/lang/String", name := "isLatin1", desc := "()Z" } : Jvm.MethodName) jdk_42_method_154_code (1 : Nat) (Option.some Jvm.ClassFile.FieldType.boolean)).before a0 Z = true := hw _ (List.mem_of_getElem? (i := 65) rfl)
theorem w66 {Z : State} {a0 : Array Value} (hw : Hw Z a0) : (Jvm.Cond.methodLink "java/lang/String" (495 : Nat) ({ cls := "java/lang/StringLatin1", name := "charAt", desc := "([BI)C" } : Jvm.MethodName)).before a0 Z = true := hw _ (List.mem_of_getElem? (i := 66) rfl)
theorem w67 {Z : State} {a0 : Array Value} (hw : Hw Z a0) : (Jvm.Cond.static ({ cls := "java/lang/StringLatin1", name := "charAt", desc := "([BI)C" } : Jvm.MethodName)).before a0 Z = true := hw _ (List.mem_of_getElem? (i := 67) rfl)
theorem w68 {Z : State} {a0 : Array Value} (hw : Hw Z a0) : (Jvm.Cond.initialized "java/lang/StringLatin1").before a0 Z = true := hw _ (List.mem_of_getElem? (i := 68) rfl)
theorem w69 {Z : State} {a0 : Array Value} (hw : Hw Z a0) : (Jvm.Cond.code ({ cls := "java/lang/StringLatin1", name := "charAt", desc := "([BI)C" } : Jvm.MethodName) jdk_43_method_2_code (2 : Nat) (Option.some Jvm.ClassFile.FieldType.char)).before a0 Z = true := hw _ (List.mem_of_getElem? (i := 69) rfl)
theorem w70 {Z : State} {a0 : Array Value} (hw : Hw Z a0) : (Jvm.Cond.methodLink "java/lang/StringLatin1" (9 : Nat) ({ cls := "java/lang/String", name := "checkIndex", desc := "(II)V" } : Jvm.MethodName)).before a0 Z = true := hw _ (List.mem_of_getElem? (i := 70) rfl)
theorem w71 {Z : State} {a0 : Array Value} (hw : Hw Z a0) : (Jvm.Cond.static ({ cls := "java/lang/String", name := "checkIndex", desc := "(II)V" } : Jvm.MethodName)).before a0 Z = true := hw _ (List.mem_of_getElem? (i := 71) rfl)
theorem w72 {Z : State} {a0 : Array Value} (hw : Hw Z a0) : (Jvm.Cond.code ({ cls := "java/lang/String", name := "checkIndex", desc := "(II)V" } : Jvm.MethodName) jdk_42_method_155_code (2 : Nat) (Option.none : Option Jvm.ClassFile.FieldType)).before a0 Z = true := hw _ (List.mem_of_getElem? (i := 72) rfl)
theorem w73 {Z : State} {a0 : Array Value} (hw : Hw Z a0) : (Jvm.Cond.fieldLink "java/lang/String" (1053 : Nat) "jdk/internal/util/Preconditions" "SIOOBE_FORMATTER" "Ljava/util/function/BiFunction;").before a0 Z = true := hw _ (List.mem_of_getElem? (i := 73) rfl)
theorem w74 {Z : State} {a0 : Array Value} (hw : Hw Z a0) : (Jvm.Cond.initialized "jdk/internal/util/Preconditions").before a0 Z = true := hw _ (List.mem_of_getElem? (i := 74) rfl)
theorem w75 {Z : State} {a0 : Array Value} (hw : Hw Z a0) : (Jvm.Cond.methodLink "java/lang/String" (1059 : Nat) ({ cls := "jdk/internal/util/Preconditions", name := "checkIndex", desc := "(IILjava/util/function/BiFunction;)I" } : Jvm.MethodName)).before a0 Z = true := hw _ (List.mem_of_getElem? (i := 75) rfl)
theorem w76 {Z : State} {a0 : Array Value} (hw : Hw Z a0) : (Jvm.Cond.static ({ cls := "jdk/internal/util/Preconditions", name := "checkIndex", desc := "(IILjava/util/function/BiFunction;)I" } : Jvm.MethodName)).before a0 Z = true := hw _ (List.mem_of_getElem? (i := 76) rfl)
theorem w77 {Z : State} {a0 : Array Value} (hw : Hw Z a0) : (Jvm.Cond.code ({ cls := "jdk/internal/util/Preconditions", name := "checkIndex", desc := "(IILjava/util/function/BiFunction;)I" } : Jvm.MethodName) jdk_41_method_11_code (3 : Nat) (Option.some Jvm.ClassFile.FieldType.int)).before a0 Z = true := hw _ (List.mem_of_getElem? (i := 77) rfl)
theorem w78 {Z : State} {a0 : Array Value} (hw : Hw Z a0) : (Jvm.Cond.methodLink "java/lang/StringUTF16" (119 : Nat) ({ cls := "java/lang/StringUTF16", name := "toBytes", desc := "([CII)[B" } : Jvm.MethodName)).before a0 Z = true := hw _ (List.mem_of_getElem? (i := 78) rfl)
theorem w79 {Z : State} {a0 : Array Value} (hw : Hw Z a0) : (Jvm.Cond.static ({ cls := "java/lang/StringUTF16", name := "toBytes", desc := "([CII)[B" } : Jvm.MethodName)).before a0 Z = true := hw _ (List.mem_of_getElem? (i := 79) rfl)
theorem w80 {Z : State} {a0 : Array Value} (hw : Hw Z a0) : (Jvm.Cond.code ({ cls := "java/lang/StringUTF16", name := "toBytes", desc := "([CII)[B" } : Jvm.MethodName) jdk_52_method_14_code (5 : Nat) (Option.some (Jvm.ClassFile.FieldType.array Jvm.ClassFile.FieldType.byte))).before a0 Z = true := hw _ (List.mem_of_getElem? (i := 80) rfl)
theorem w81 {Z : State} {a0 : Array Value} (hw : Hw Z a0) : (Jvm.Cond.methodLink "java/lang/StringUTF16" (107 : Nat) ({ cls := "java/lang/StringUTF16", name := "newBytesFor", desc := "(I)[B" } : Jvm.MethodName)).before a0 Z = true := hw _ (List.mem_of_getElem? (i := 81) rfl)
theorem w82 {Z : State} {a0 : Array Value} (hw : Hw Z a0) : (Jvm.Cond.static ({ cls := "java/lang/StringUTF16", name := "newBytesFor", desc := "(I)[B" } : Jvm.MethodName)).before a0 Z = true := hw _ (List.mem_of_getElem? (i := 82) rfl)
theorem w83 {Z : State} {a0 : Array Value} (hw : Hw Z a0) : (Jvm.Cond.code ({ cls := "java/lang/StringUTF16", name := "newBytesFor", desc := "(I)[B" } : Jvm.MethodName) jdk_52_method_2_code (1 : Nat) (Option.some (Jvm.ClassFile.FieldType.array Jvm.ClassFile.FieldType.byte))).before a0 Z = true := hw _ (List.mem_of_getElem? (i := 83) rfl)
theorem w84 {Z : State} {a0 : Array Value} (hw : Hw Z a0) : (Jvm.Cond.methodLink "java/lang/StringUTF16" (11 : Nat) ({ cls := "java/lang/StringUTF16", name := "newBytesLength", desc := "(I)I" } : Jvm.MethodName)).before a0 Z = true := hw _ (List.mem_of_getElem? (i := 84) rfl)
theorem w85 {Z : State} {a0 : Array Value} (hw : Hw Z a0) : (Jvm.Cond.static ({ cls := "java/lang/StringUTF16", name := "newBytesLength", desc := "(I)I" } : Jvm.MethodName)).before a0 Z = true := hw _ (List.mem_of_getElem? (i := 85) rfl)
theorem w86 {Z : State} {a0 : Array Value} (hw : Hw Z a0) : (Jvm.Cond.code ({ cls := "java/lang/StringUTF16", name := "newBytesLength", desc := "(I)I" } : Jvm.MethodName) jdk_52_method_3_code (1 : Nat) (Option.some Jvm.ClassFile.FieldType.int)).before a0 Z = true := hw _ (List.mem_of_getElem? (i := 86) rfl)
theorem w87 {Z : State} {a0 : Array Value} (hw : Hw Z a0) : (Jvm.Cond.constant "java/lang/StringUTF16" (20 : Nat) (1073741823 : Int32)).before a0 Z = true := hw _ (List.mem_of_getElem? (i := 87) rfl)
theorem w88 {Z : State} {a0 : Array Value} (hw : Hw Z a0) : (Jvm.Cond.methodLink "java/lang/StringUTF16" (111 : Nat) ({ cls := "java/lang/StringUTF16", name := "putChar", desc := "([BII)V" } : Jvm.MethodName)).before a0 Z = true := hw _ (List.mem_of_getElem? (i := 88) rfl)
theorem w89 {Z : State} {a0 : Array Value} (hw : Hw Z a0) : (Jvm.Cond.static ({ cls := "java/lang/StringUTF16", name := "putChar", desc := "([BII)V" } : Jvm.MethodName)).before a0 Z = true := hw _ (List.mem_of_getElem? (i := 89) rfl)
theorem w90 {Z : State} {a0 : Array Value} (hw : Hw Z a0) : (Jvm.Cond.code ({ cls := "java/lang/StringUTF16", name := "putChar", desc := "([BII)V" } : Jvm.MethodName) jdk_52_method_4_code (3 : Nat) (Option.none : Option Jvm.ClassFile.FieldType)).before a0 Z = true := hw _ (List.mem_of_getElem? (i := 90) rfl)
theorem w91 {Z : State} {a0 : Array Value} (hw : Hw Z a0) : (Jvm.Cond.fieldLink "java/lang/StringUTF16" (44 : Nat) "java/lang/StringUTF16" "$assertionsDisabled" "Z").before a0 Z = true := hw _ (List.mem_of_getElem? (i := 91) rfl)
theorem w92 {Z : State} {a0 : Array Value} (hw : Hw Z a0) : (Jvm.Cond.fieldLink "java/lang/StringUTF16" (59 : Nat) "java/lang/StringUTF16" "HI_BYTE_SHIFT" "I").before a0 Z = true := hw _ (List.mem_of_getElem? (i := 92) rfl)
theorem w93 {Z : State} {a0 : Array Value} (hw : Hw Z a0) : (Jvm.Cond.fieldLink "java/lang/StringUTF16" (63 : Nat) "java/lang/StringUTF16" "LO_BYTE_SHIFT" "I").before a0 Z = true := hw _ (List.mem_of_getElem? (i := 93) rfl)
theorem w94 {Z : State} {a0 : Array Value} (hw : Hw Z a0) : (Jvm.Cond.methodLink "java/lang/StringUTF16" (71 : Nat) ({ cls := "java/lang/StringUTF16", name := "getChar", desc := "([BI)C" } : Jvm.MethodName)).before a0 Z = true := hw _ (List.mem_of_getElem? (i := 94) rfl)
theorem w95 {Z : State} {a0 : Array Value} (hw : Hw Z a0) : (Jvm.Cond.static ({ cls := "java/lang/StringUTF16", name := "getChar", desc := "([BI)C" } : Jvm.MethodName)).before a0 Z = true := hw _ (List.mem_of_getElem? (i := 95) rfl)
theorem w96 {Z : State} {a0 : Array Value} (hw : Hw Z a0) : (Jvm.Cond.code ({ cls := "java/lang/StringUTF16", name := "getChar", desc := "([BI)C" } : Jvm.MethodName) jdk_52_method_5_code (2 : Nat) (Option.some Jvm.ClassFile.FieldType.char)).before a0 Z = true := hw _ (List.mem_of_getElem? (i := 96) rfl)
theorem w97 {Z : State} {a0 : Array Value} (hw : Hw Z a0) : (Jvm.Cond.methodLink "java/lang/String" (498 : Nat) ({ cls := "java/lang/StringUTF16", name := "charAt", desc := "([BI)C" } : Jvm.MethodName)).before a0 Z = true := hw _ (List.mem_of_getElem? (i := 97) rfl)
theorem w98 {Z : State} {a0 : Array Value} (hw : Hw Z a0) : (Jvm.Cond.static ({ cls := "java/lang/StringUTF16", name := "charAt", desc := "([BI)C" } : Jvm.MethodName)).before a0 Z = true := hw _ (List.mem_of_getElem? (i := 98) rfl)
theorem w99 {Z : State} {a0 : Array Value} (hw : Hw Z a0) : (Jvm.Cond.code ({ cls := "java/lang/StringUTF16", name := "charAt", desc := "([BI)C" } : Jvm.MethodName) jdk_52_method_83_code (2 : Nat) (Option.some Jvm.ClassFile.FieldType.char)).before a0 Z = true := hw _ (List.mem_of_getElem? (i := 99) rfl)
theorem w100 {Z : State} {a0 : Array Value} (hw : Hw Z a0) : (Jvm.Cond.methodLink "java/lang/StringUTF16" (67 : Nat) ({ cls := "java/lang/StringUTF16", name := "checkIndex", desc := "(I[B)V" } : Jvm.MethodName)).before a0 Z = true := hw _ (List.mem_of_getElem? (i := 100) rfl)
theorem w101 {Z : State} {a0 : Array Value} (hw : Hw Z a0) : (Jvm.Cond.static ({ cls := "java/lang/StringUTF16", name := "checkIndex", desc := "(I[B)V" } : Jvm.MethodName)).before a0 Z = true := hw _ (List.mem_of_getElem? (i := 101) rfl)
theorem w102 {Z : State} {a0 : Array Value} (hw : Hw Z a0) : (Jvm.Cond.code ({ cls := "java/lang/StringUTF16", name := "checkIndex", desc := "(I[B)V" } : Jvm.MethodName) jdk_52_method_91_code (2 : Nat) (Option.none : Option Jvm.ClassFile.FieldType)).before a0 Z = true := hw _ (List.mem_of_getElem? (i := 102) rfl)
theorem w103 {Z : State} {a0 : Array Value} (hw : Hw Z a0) : (Jvm.Cond.methodLink "java/lang/StringUTF16" (48 : Nat) ({ cls := "java/lang/StringUTF16", name := "length", desc := "([B)I" } : Jvm.MethodName)).before a0 Z = true := hw _ (List.mem_of_getElem? (i := 103) rfl)
theorem w104 {Z : State} {a0 : Array Value} (hw : Hw Z a0) : (Jvm.Cond.static ({ cls := "java/lang/StringUTF16", name := "length", desc := "([B)I" } : Jvm.MethodName)).before a0 Z = true := hw _ (List.mem_of_getElem? (i := 104) rfl)
theorem w105 {Z : State} {a0 : Array Value} (hw : Hw Z a0) : (Jvm.Cond.code ({ cls := "java/lang/StringUTF16", name := "length", desc := "([B)I" } : Jvm.MethodName) jdk_52_method_6_code (1 : Nat) (Option.some Jvm.ClassFile.FieldType.int)).before a0 Z = true := hw _ (List.mem_of_getElem? (i := 105) rfl)
theorem w106 {Z : State} {a0 : Array Value} (hw : Hw Z a0) : (Jvm.Cond.methodLink "java/lang/StringUTF16" (414 : Nat) ({ cls := "java/lang/String", name := "checkIndex", desc := "(II)V" } : Jvm.MethodName)).before a0 Z = true := hw _ (List.mem_of_getElem? (i := 106) rfl)
theorem pd0 : parseMethodDescriptor "(I)I" = some ⟨[.int], some .int⟩ := by decide +kernel
theorem pd1 : parseMethodDescriptor "([BII)V" = some ⟨[(.array .byte), .int, .int], none⟩ := by decide +kernel
theorem pd2 : parseMethodDescriptor "(I)[B" = some ⟨[.int], some (.array .byte)⟩ := by decide +kernel
theorem pd3 : parseMethodDescriptor "([CI[BII)I" = some ⟨[(.array .char), .int, (.array .byte), .int, .int], some .int⟩ := by decide +kernel
theorem pd4 : parseMethodDescriptor "([CII)[B" = some ⟨[(.array .char), .int, .int], some (.array .byte)⟩ := by decide +kernel
theorem pd5 : parseMethodDescriptor "([BI)C" = some ⟨[(.array .byte), .int], some .char⟩ := by decide +kernel
theorem pd6 : parseMethodDescriptor "([BI)B" = some ⟨[(.array .byte), .int], some .byte⟩ := by decide +kernel
theorem pd7 : parseMethodDescriptor "([CIILjava/lang/Void;)V" = some ⟨[(.array .char), .int, .int, (.object "java/lang/Void")], none⟩ := by decide +kernel
theorem pd8 : parseMethodDescriptor "()B" = some ⟨[], some .byte⟩ := by decide +kernel
theorem pd9 : parseMethodDescriptor "(IILjava/util/function/BiFunction;)I" = some ⟨[.int, .int, (.object "java/util/function/BiFunction")], some .int⟩ := by decide +kernel
theorem pd10 : parseMethodDescriptor "(II)V" = some ⟨[.int, .int], none⟩ := by decide +kernel
theorem pd11 : parseMethodDescriptor "()Z" = some ⟨[], some .boolean⟩ := by decide +kernel
theorem pd12 : parseMethodDescriptor "([B)I" = some ⟨[(.array .byte)], some .int⟩ := by decide +kernel
theorem pd13 : parseMethodDescriptor "(I[B)V" = some ⟨[.int, (.array .byte)], none⟩ := by decide +kernel
theorem pd14 : parseMethodDescriptor "(Ljava/lang/Object;Ljava/lang/String;)Ljava/lang/Object;" = some ⟨[(.object "java/lang/Object"), (.object "java/lang/String")], some (.object "java/lang/Object")⟩ := by decide +kernel
theorem pd15 : parseMethodDescriptor "([C)V" = some ⟨[(.array .char)], none⟩ := by decide +kernel
theorem pd16 : parseMethodDescriptor "(Ljava/lang/String;)Ljava/lang/String;" = some ⟨[(.object "java/lang/String")], some (.object "java/lang/String")⟩ := by decide +kernel
theorem pd17 : parseMethodDescriptor "()I" = some ⟨[], some .int⟩ := by decide +kernel
theorem pd18 : parseMethodDescriptor "(I)C" = some ⟨[.int], some .char⟩ := by decide +kernel
theorem pn0 : plainFor (⟨"java/lang/StringUTF16", "compress", "([CI[BII)I"⟩ : MethodName) = true := by first | exact plainFor_of_name (by first | (simp [plainName, overriddenIn]; done) | decide +kernel) | decide +kernel
theorem pn1 : plainFor (⟨"java/lang/StringUTF16", "coderFromArrayLen", "([BI)B"⟩ : MethodName) = true := by first | exact plainFor_of_name (by first | (simp [plainName, overriddenIn]; done) | decide +kernel) | decide +kernel
theorem pn2 : plainFor (⟨"java/lang/StringUTF16", "newBytesLength", "(I)I"⟩ : MethodName) = true := by first | exact plainFor_of_name (by first | (simp [plainName, overriddenIn]; done) | decide +kernel) | decide +kernel
theorem pn3 : plainFor (⟨"java/lang/StringUTF16", "newBytesFor", "(I)[B"⟩ : MethodName) = true := by first | exact plainFor_of_name (by first | (simp [plainName, overriddenIn]; done) | decide +kernel) | decide +kernel
theorem pn4 : plainFor (⟨"java/lang/StringUTF16", "putChar", "([BII)V"⟩ : MethodName) = true := by first | exact plainFor_of_name (by first | (simp [plainName, overriddenIn]; done) | decide +kernel) | decide +kernel
theorem pn5 : plainFor (⟨"java/lang/StringUTF16", "toBytes", "([CII)[B"⟩ : MethodName) = true := by first | exact plainFor_of_name (by first | (simp [plainName, overriddenIn]; done) | decide +kernel) | decide +kernel
theorem pn6 : plainFor (⟨"java/lang/StringUTF16", "getChar", "([BI)C"⟩ : MethodName) = true := by first | exact plainFor_of_name (by first | (simp [plainName, overriddenIn]; done) | decide +kernel) | decide +kernel
theorem pn7 : plainFor (⟨"java/lang/StringUTF16", "compress", "([CII)[B"⟩ : MethodName) = true := by first | exact plainFor_of_name (by first | (simp [plainName, overriddenIn]; done) | decide +kernel) | decide +kernel
theorem pn8 : plainFor (⟨"java/lang/String", "<init>", "([CIILjava/lang/Void;)V"⟩ : MethodName) = true := by first | exact plainFor_of_name (by first | (simp [plainName, overriddenIn]; done) | decide +kernel) | decide +kernel
theorem pn9 : plainFor (⟨"java/lang/String", "<init>", "([C)V"⟩ : MethodName) = true := by first | exact plainFor_of_name (by first | (simp [plainName, overriddenIn]; done) | decide +kernel) | decide +kernel
theorem pn10 : plainFor (⟨"java/lang/String", "isEmpty", "()Z"⟩ : MethodName) = true := by first | exact plainFor_of_name (by first | (simp [plainName, overriddenIn]; done) | decide +kernel) | decide +kernel
theorem pn11 : plainFor (⟨"java/lang/String", "coder", "()B"⟩ : MethodName) = true := by first | exact plainFor_of_name (by first | (simp [plainName, overriddenIn]; done) | decide +kernel) | decide +kernel
theorem pn12 : plainFor (⟨"java/lang/String", "length", "()I"⟩ : MethodName) = true := by first | exact plainFor_of_name (by first | (simp [plainName, overriddenIn]; done) | decide +kernel) | decide +kernel
theorem pn13 : plainFor (⟨"java/lang/String", "isLatin1", "()Z"⟩ : MethodName) = true := by first | exact plainFor_of_name (by first | (simp [plainName, overriddenIn]; done) | decide +kernel) | decide +kernel
theorem pn14 : plainFor (⟨"jdk/internal/util/Preconditions", "checkIndex", "(IILjava/util/function/BiFunction;)I"⟩ : MethodName) = true := by first | exact plainFor_of_name (by first | (simp [plainName, overriddenIn]; done) | decide +kernel) | decide +kernel
theorem pn15 : plainFor (⟨"java/lang/String", "checkIndex", "(II)V"⟩ : MethodName) = true := by first | exact plainFor_of_name (by first | (simp [plainName, overriddenIn]; done) | decide +kernel) | decide +kernel
theorem pn16 : plainFor (⟨"java/lang/StringLatin1", "charAt", "([BI)C"⟩ : MethodName) = true := by first | exact plainFor_of_name (by first | (simp [plainName, overriddenIn]; done) | decide +kernel) | decide +kernel
theorem pn17 : plainFor (⟨"java/lang/String", "charAt", "(I)C"⟩ : MethodName) = true := by first | exact plainFor_of_name (by first | (simp [plainName, overriddenIn]; done) | decide +kernel) | decide +kernel
theorem pn18 : plainFor (⟨"java/lang/StringUTF16", "length", "([B)I"⟩ : MethodName) = true := by first | exact plainFor_of_name (by first | (simp [plainName, overriddenIn]; done) | decide +kernel) | decide +kernel
theorem pn19 : plainFor (⟨"java/lang/StringUTF16", "checkIndex", "(I[B)V"⟩ : MethodName) = true := by first | exact plainFor_of_name (by first | (simp [plainName, overriddenIn]; done) | decide +kernel) | decide +kernel
theorem pn20 : plainFor (⟨"java/lang/StringUTF16", "charAt", "([BI)C"⟩ : MethodName) = true := by first | exact plainFor_of_name (by first | (simp [plainName, overriddenIn]; done) | decide +kernel) | decide +kernel
theorem pn21 : plainFor (⟨"java/util/Objects", "requireNonNull", "(Ljava/lang/Object;Ljava/lang/String;)Ljava/lang/Object;"⟩ : MethodName) = true := by first | exact plainFor_of_name (by first | (simp [plainName, overriddenIn]; done) | decide +kernel) | decide +kernel
theorem pn22 : plainFor (⟨"com/example/tynwald/tynwald/complaints/Comment", "parseText", "(Ljava/lang/String;)Ljava/lang/String;"⟩ : MethodName) = true := by first | exact plainFor_of_name (by first | (simp [plainName, overriddenIn]; done) | decide +kernel) | decide +kernel
theorem pn23 : plainFor (⟨"com/example/tynwald/tynwald/complaints/CommentParseTextPinLaw", "law", "(IIII)Z"⟩ : MethodName) = true := by first | exact plainFor_of_name (by first | (simp [plainName, overriddenIn]; done) | decide +kernel) | decide +kernel
theorem d_jdk_52_method_21_3 : decode jdk_52_method_21_code 3 = .ok (.iload 5, 2) := by decide +kernel
theorem d_jdk_52_method_21_5 : decode jdk_52_method_21_code 5 = .ok (.iload 4, 2) := by decide +kernel
theorem d_jdk_52_method_21_7 : decode jdk_52_method_21_code 7 = .ok (.if_icmp .ge 37, 3) := by decide +kernel
theorem d_jdk_52_method_21_44 : decode jdk_52_method_21_code 44 = .ok (.iload 4, 2) := by decide +kernel
theorem d_jdk_52_method_21_46 : decode jdk_52_method_21_code 46 = .ok (.ireturn, 1) := by decide +kernel
theorem d_jdk_52_method_21_10 : decode jdk_52_method_21_code 10 = .ok (.aload_n 0, 1) := by decide +kernel
theorem d_jdk_52_method_21_11 : decode jdk_52_method_21_code 11 = .ok (.iload_n 1, 1) := by decide +kernel
theorem d_jdk_52_method_21_12 : decode jdk_52_method_21_code 12 = .ok (.caload, 1) := by decide +kernel
theorem d_jdk_52_method_21_13 : decode jdk_52_method_21_code 13 = .ok (.istore 6, 2) := by decide +kernel
theorem d_jdk_52_method_21_15 : decode jdk_52_method_21_code 15 = .ok (.iload 6, 2) := by decide +kernel
theorem d_jdk_52_method_21_17 : decode jdk_52_method_21_code 17 = .ok (.sipush 255, 3) := by decide +kernel
theorem d_jdk_52_method_21_20 : decode jdk_52_method_21_code 20 = .ok (.if_icmp .le 6, 3) := by decide +kernel
theorem d_jdk_52_method_21_23 : decode jdk_52_method_21_code 23 = .ok (.iload 5, 2) := by decide +kernel
theorem d_jdk_52_method_21_25 : decode jdk_52_method_21_code 25 = .ok (.ireturn, 1) := by decide +kernel
theorem d_jdk_52_method_21_26 : decode jdk_52_method_21_code 26 = .ok (.aload_n 2, 1) := by decide +kernel
theorem d_jdk_52_method_21_27 : decode jdk_52_method_21_code 27 = .ok (.iload_n 3, 1) := by decide +kernel
theorem d_jdk_52_method_21_28 : decode jdk_52_method_21_code 28 = .ok (.iload 6, 2) := by decide +kernel
theorem d_jdk_52_method_21_30 : decode jdk_52_method_21_code 30 = .ok (.i2b, 1) := by decide +kernel
theorem d_jdk_52_method_21_31 : decode jdk_52_method_21_code 31 = .ok (.bastore, 1) := by decide +kernel
theorem d_jdk_52_method_21_32 : decode jdk_52_method_21_code 32 = .ok (.iinc 1 1, 3) := by decide +kernel
theorem d_jdk_52_method_21_35 : decode jdk_52_method_21_code 35 = .ok (.iinc 3 1, 3) := by decide +kernel
theorem d_jdk_52_method_21_38 : decode jdk_52_method_21_code 38 = .ok (.iinc 5 1, 3) := by decide +kernel
theorem d_jdk_52_method_21_41 : decode jdk_52_method_21_code 41 = .ok (.goto (-38), 3) := by decide +kernel
theorem d_jdk_52_method_21_0 : decode jdk_52_method_21_code 0 = .ok (.iconst 0, 1) := by decide +kernel
theorem d_jdk_52_method_21_1 : decode jdk_52_method_21_code 1 = .ok (.istore 5, 2) := by decide +kernel
theorem d_jdk_52_method_15_0 : decode jdk_52_method_15_code 0 = .ok (.iload_n 1, 1) := by decide +kernel
theorem d_jdk_52_method_15_1 : decode jdk_52_method_15_code 1 = .ok (.aload_n 0, 1) := by decide +kernel
theorem d_jdk_52_method_15_2 : decode jdk_52_method_15_code 2 = .ok (.arraylength, 1) := by decide +kernel
theorem d_jdk_52_method_15_3 : decode jdk_52_method_15_code 3 = .ok (.isub, 1) := by decide +kernel
theorem d_jdk_52_method_15_4 : decode jdk_52_method_15_code 4 = .ok (.bipush 31, 2) := by decide +kernel
theorem d_jdk_52_method_15_6 : decode jdk_52_method_15_code 6 = .ok (.iushr, 1) := by decide +kernel
theorem d_jdk_52_method_15_7 : decode jdk_52_method_15_code 7 = .ok (.i2b, 1) := by decide +kernel
theorem d_jdk_52_method_15_8 : decode jdk_52_method_15_code 8 = .ok (.ireturn, 1) := by decide +kernel
theorem d_jdk_52_method_3_0 : decode jdk_52_method_3_code 0 = .ok (.iload_n 0, 1) := by decide +kernel
theorem d_jdk_52_method_3_1 : decode jdk_52_method_3_code 1 = .ok (.ifCond .ge 11, 3) := by decide +kernel
theorem d_jdk_52_method_3_12 : decode jdk_52_method_3_code 12 = .ok (.iload_n 0, 1) := by decide +kernel
theorem d_jdk_52_method_3_13 : decode jdk_52_method_3_code 13 = .ok (.ldc 20, 2) := by decide +kernel
theorem d_jdk_52_method_3_15 : decode jdk_52_method_3_code 15 = .ok (.if_icmp .lt 40, 3) := by decide +kernel
theorem d_jdk_52_method_3_55 : decode jdk_52_method_3_code 55 = .ok (.iload_n 0, 1) := by decide +kernel
theorem d_jdk_52_method_3_56 : decode jdk_52_method_3_code 56 = .ok (.iconst 1, 1) := by decide +kernel
theorem d_jdk_52_method_3_57 : decode jdk_52_method_3_code 57 = .ok (.ishl, 1) := by decide +kernel
theorem d_jdk_52_method_3_58 : decode jdk_52_method_3_code 58 = .ok (.ireturn, 1) := by decide +kernel
theorem d_jdk_52_method_2_0 : decode jdk_52_method_2_code 0 = .ok (.iload_n 0, 1) := by decide +kernel
theorem d_jdk_52_method_2_1 : decode jdk_52_method_2_code 1 = .ok (.invokestatic 11, 3) := by decide +kernel
theorem d_jdk_52_method_2_4 : decode jdk_52_method_2_code 4 = .ok (.newarray .byte, 2) := by decide +kernel
theorem d_jdk_52_method_2_6 : decode jdk_52_method_2_code 6 = .ok (.areturn, 1) := by decide +kernel
theorem d_jdk_52_method_4_0 : decode jdk_52_method_4_code 0 = .ok (.getstatic 44, 3) := by decide +kernel
theorem d_jdk_52_method_4_3 : decode jdk_52_method_4_code 3 = .ok (.ifCond .ne 25, 3) := by decide +kernel
theorem d_jdk_52_method_4_28 : decode jdk_52_method_4_code 28 = .ok (.iload_n 1, 1) := by decide +kernel
theorem d_jdk_52_method_4_29 : decode jdk_52_method_4_code 29 = .ok (.iconst 1, 1) := by decide +kernel
theorem d_jdk_52_method_4_30 : decode jdk_52_method_4_code 30 = .ok (.ishl, 1) := by decide +kernel
theorem d_jdk_52_method_4_31 : decode jdk_52_method_4_code 31 = .ok (.istore_n 1, 1) := by decide +kernel
theorem d_jdk_52_method_4_32 : decode jdk_52_method_4_code 32 = .ok (.aload_n 0, 1) := by decide +kernel
theorem d_jdk_52_method_4_33 : decode jdk_52_method_4_code 33 = .ok (.iload_n 1, 1) := by decide +kernel
theorem d_jdk_52_method_4_34 : decode jdk_52_method_4_code 34 = .ok (.iinc 1 1, 3) := by decide +kernel
theorem d_jdk_52_method_4_37 : decode jdk_52_method_4_code 37 = .ok (.iload_n 2, 1) := by decide +kernel
theorem d_jdk_52_method_4_38 : decode jdk_52_method_4_code 38 = .ok (.getstatic 59, 3) := by decide +kernel
theorem d_jdk_52_method_4_41 : decode jdk_52_method_4_code 41 = .ok (.ishr, 1) := by decide +kernel
theorem d_jdk_52_method_4_42 : decode jdk_52_method_4_code 42 = .ok (.i2b, 1) := by decide +kernel
theorem d_jdk_52_method_4_43 : decode jdk_52_method_4_code 43 = .ok (.bastore, 1) := by decide +kernel
theorem d_jdk_52_method_4_44 : decode jdk_52_method_4_code 44 = .ok (.aload_n 0, 1) := by decide +kernel
theorem d_jdk_52_method_4_45 : decode jdk_52_method_4_code 45 = .ok (.iload_n 1, 1) := by decide +kernel
theorem d_jdk_52_method_4_46 : decode jdk_52_method_4_code 46 = .ok (.iload_n 2, 1) := by decide +kernel
theorem d_jdk_52_method_4_47 : decode jdk_52_method_4_code 47 = .ok (.getstatic 63, 3) := by decide +kernel
theorem d_jdk_52_method_4_50 : decode jdk_52_method_4_code 50 = .ok (.ishr, 1) := by decide +kernel
theorem d_jdk_52_method_4_51 : decode jdk_52_method_4_code 51 = .ok (.i2b, 1) := by decide +kernel
theorem d_jdk_52_method_4_52 : decode jdk_52_method_4_code 52 = .ok (.bastore, 1) := by decide +kernel
theorem d_jdk_52_method_4_53 : decode jdk_52_method_4_code 53 = .ok (.return_, 1) := by decide +kernel
theorem d_jdk_52_method_14_8 : decode jdk_52_method_14_code 8 = .ok (.iload 4, 2) := by decide +kernel
theorem d_jdk_52_method_14_10 : decode jdk_52_method_14_code 10 = .ok (.iload_n 2, 1) := by decide +kernel
theorem d_jdk_52_method_14_11 : decode jdk_52_method_14_code 11 = .ok (.if_icmp .ge 21, 3) := by decide +kernel
theorem d_jdk_52_method_14_32 : decode jdk_52_method_14_code 32 = .ok (.aload_n 3, 1) := by decide +kernel
theorem d_jdk_52_method_14_33 : decode jdk_52_method_14_code 33 = .ok (.areturn, 1) := by decide +kernel
theorem d_jdk_52_method_14_14 : decode jdk_52_method_14_code 14 = .ok (.aload_n 3, 1) := by decide +kernel
theorem d_jdk_52_method_14_15 : decode jdk_52_method_14_code 15 = .ok (.iload 4, 2) := by decide +kernel
theorem d_jdk_52_method_14_17 : decode jdk_52_method_14_code 17 = .ok (.aload_n 0, 1) := by decide +kernel
theorem d_jdk_52_method_14_18 : decode jdk_52_method_14_code 18 = .ok (.iload_n 1, 1) := by decide +kernel
theorem d_jdk_52_method_14_19 : decode jdk_52_method_14_code 19 = .ok (.caload, 1) := by decide +kernel
theorem d_jdk_52_method_14_20 : decode jdk_52_method_14_code 20 = .ok (.invokestatic 111, 3) := by decide +kernel
theorem d_jdk_52_method_14_23 : decode jdk_52_method_14_code 23 = .ok (.iinc 1 1, 3) := by decide +kernel
theorem d_jdk_52_method_14_26 : decode jdk_52_method_14_code 26 = .ok (.iinc 4 1, 3) := by decide +kernel
theorem d_jdk_52_method_14_29 : decode jdk_52_method_14_code 29 = .ok (.goto (-21), 3) := by decide +kernel
theorem d_jdk_52_method_14_0 : decode jdk_52_method_14_code 0 = .ok (.iload_n 2, 1) := by decide +kernel
theorem d_jdk_52_method_14_1 : decode jdk_52_method_14_code 1 = .ok (.invokestatic 107, 3) := by decide +kernel
theorem d_jdk_52_method_14_4 : decode jdk_52_method_14_code 4 = .ok (.astore_n 3, 1) := by decide +kernel
theorem d_jdk_52_method_14_5 : decode jdk_52_method_14_code 5 = .ok (.iconst 0, 1) := by decide +kernel
theorem d_jdk_52_method_14_6 : decode jdk_52_method_14_code 6 = .ok (.istore 4, 2) := by decide +kernel
theorem d_jdk_52_method_5_0 : decode jdk_52_method_5_code 0 = .ok (.getstatic 44, 3) := by decide +kernel
theorem d_jdk_52_method_5_3 : decode jdk_52_method_5_code 3 = .ok (.ifCond .ne 25, 3) := by decide +kernel
theorem d_jdk_52_method_5_28 : decode jdk_52_method_5_code 28 = .ok (.iload_n 1, 1) := by decide +kernel
theorem d_jdk_52_method_5_29 : decode jdk_52_method_5_code 29 = .ok (.iconst 1, 1) := by decide +kernel
theorem d_jdk_52_method_5_30 : decode jdk_52_method_5_code 30 = .ok (.ishl, 1) := by decide +kernel
theorem d_jdk_52_method_5_31 : decode jdk_52_method_5_code 31 = .ok (.istore_n 1, 1) := by decide +kernel
theorem d_jdk_52_method_5_32 : decode jdk_52_method_5_code 32 = .ok (.aload_n 0, 1) := by decide +kernel
theorem d_jdk_52_method_5_33 : decode jdk_52_method_5_code 33 = .ok (.iload_n 1, 1) := by decide +kernel
theorem d_jdk_52_method_5_34 : decode jdk_52_method_5_code 34 = .ok (.iinc 1 1, 3) := by decide +kernel
theorem d_jdk_52_method_5_37 : decode jdk_52_method_5_code 37 = .ok (.baload, 1) := by decide +kernel
theorem d_jdk_52_method_5_38 : decode jdk_52_method_5_code 38 = .ok (.sipush 255, 3) := by decide +kernel
theorem d_jdk_52_method_5_41 : decode jdk_52_method_5_code 41 = .ok (.iand, 1) := by decide +kernel
theorem d_jdk_52_method_5_42 : decode jdk_52_method_5_code 42 = .ok (.getstatic 59, 3) := by decide +kernel
theorem d_jdk_52_method_5_45 : decode jdk_52_method_5_code 45 = .ok (.ishl, 1) := by decide +kernel
theorem d_jdk_52_method_5_46 : decode jdk_52_method_5_code 46 = .ok (.aload_n 0, 1) := by decide +kernel
theorem d_jdk_52_method_5_47 : decode jdk_52_method_5_code 47 = .ok (.iload_n 1, 1) := by decide +kernel
theorem d_jdk_52_method_5_48 : decode jdk_52_method_5_code 48 = .ok (.baload, 1) := by decide +kernel
theorem d_jdk_52_method_5_49 : decode jdk_52_method_5_code 49 = .ok (.sipush 255, 3) := by decide +kernel
theorem d_jdk_52_method_5_52 : decode jdk_52_method_5_code 52 = .ok (.iand, 1) := by decide +kernel
theorem d_jdk_52_method_5_53 : decode jdk_52_method_5_code 53 = .ok (.getstatic 63, 3) := by decide +kernel
theorem d_jdk_52_method_5_56 : decode jdk_52_method_5_code 56 = .ok (.ishl, 1) := by decide +kernel
theorem d_jdk_52_method_5_57 : decode jdk_52_method_5_code 57 = .ok (.ior, 1) := by decide +kernel
theorem d_jdk_52_method_5_58 : decode jdk_52_method_5_code 58 = .ok (.i2c, 1) := by decide +kernel
theorem d_jdk_52_method_5_59 : decode jdk_52_method_5_code 59 = .ok (.ireturn, 1) := by decide +kernel
theorem d_jdk_52_method_16_0 : decode jdk_52_method_16_code 0 = .ok (.iload_n 2, 1) := by decide +kernel
theorem d_jdk_52_method_16_1 : decode jdk_52_method_16_code 1 = .ok (.newarray .byte, 2) := by decide +kernel
theorem d_jdk_52_method_16_3 : decode jdk_52_method_16_code 3 = .ok (.astore_n 3, 1) := by decide +kernel
theorem d_jdk_52_method_16_4 : decode jdk_52_method_16_code 4 = .ok (.aload_n 0, 1) := by decide +kernel
theorem d_jdk_52_method_16_5 : decode jdk_52_method_16_code 5 = .ok (.iload_n 1, 1) := by decide +kernel
theorem d_jdk_52_method_16_6 : decode jdk_52_method_16_code 6 = .ok (.aload_n 3, 1) := by decide +kernel
theorem d_jdk_52_method_16_7 : decode jdk_52_method_16_code 7 = .ok (.iconst 0, 1) := by decide +kernel
theorem d_jdk_52_method_16_8 : decode jdk_52_method_16_code 8 = .ok (.iload_n 2, 1) := by decide +kernel
theorem d_jdk_52_method_16_9 : decode jdk_52_method_16_code 9 = .ok (.invokestatic 115, 3) := by decide +kernel
theorem d_jdk_52_method_16_12 : decode jdk_52_method_16_code 12 = .ok (.istore 4, 2) := by decide +kernel
theorem d_jdk_52_method_16_14 : decode jdk_52_method_16_code 14 = .ok (.iload 4, 2) := by decide +kernel
theorem d_jdk_52_method_16_16 : decode jdk_52_method_16_code 16 = .ok (.iload_n 2, 1) := by decide +kernel
theorem d_jdk_52_method_16_17 : decode jdk_52_method_16_code 17 = .ok (.if_icmp .eq 40, 3) := by decide +kernel
theorem d_jdk_52_method_16_57 : decode jdk_52_method_16_code 57 = .ok (.aload_n 3, 1) := by decide +kernel
theorem d_jdk_52_method_16_58 : decode jdk_52_method_16_code 58 = .ok (.areturn, 1) := by decide +kernel
theorem d_jdk_52_method_16_20 : decode jdk_52_method_16_code 20 = .ok (.aload_n 0, 1) := by decide +kernel
theorem d_jdk_52_method_16_21 : decode jdk_52_method_16_code 21 = .ok (.iload_n 1, 1) := by decide +kernel
theorem d_jdk_52_method_16_22 : decode jdk_52_method_16_code 22 = .ok (.iload_n 2, 1) := by decide +kernel
theorem d_jdk_52_method_16_23 : decode jdk_52_method_16_code 23 = .ok (.invokestatic 119, 3) := by decide +kernel
theorem d_jdk_52_method_16_26 : decode jdk_52_method_16_code 26 = .ok (.astore 5, 2) := by decide +kernel
theorem d_jdk_52_method_16_28 : decode jdk_52_method_16_code 28 = .ok (.aload 5, 2) := by decide +kernel
theorem d_jdk_52_method_16_30 : decode jdk_52_method_16_code 30 = .ok (.iload 4, 2) := by decide +kernel
theorem d_jdk_52_method_16_32 : decode jdk_52_method_16_code 32 = .ok (.invokestatic 71, 3) := by decide +kernel
theorem d_jdk_52_method_16_35 : decode jdk_52_method_16_code 35 = .ok (.sipush 255, 3) := by decide +kernel
theorem d_jdk_52_method_16_38 : decode jdk_52_method_16_code 38 = .ok (.if_icmp .gt 16, 3) := by decide +kernel
theorem d_jdk_52_method_16_54 : decode jdk_52_method_16_code 54 = .ok (.aload 5, 2) := by decide +kernel
theorem d_jdk_52_method_16_56 : decode jdk_52_method_16_code 56 = .ok (.areturn, 1) := by decide +kernel
theorem d_jdk_42_method_149_0 : decode jdk_42_method_149_code 0 = .ok (.aload_n 0, 1) := by decide +kernel
theorem d_jdk_42_method_149_1 : decode jdk_42_method_149_code 1 = .ok (.invokespecial 1, 3) := by decide +kernel
theorem d_jdk_42_method_149_4 : decode jdk_42_method_149_code 4 = .ok (.iload_n 3, 1) := by decide +kernel
theorem d_jdk_42_method_149_5 : decode jdk_42_method_149_code 5 = .ok (.ifCond .ne 22, 3) := by decide +kernel
theorem d_jdk_42_method_149_27 : decode jdk_42_method_149_code 27 = .ok (.getstatic 38, 3) := by decide +kernel
theorem d_jdk_42_method_149_30 : decode jdk_42_method_149_code 30 = .ok (.ifCond .eq 28, 3) := by decide +kernel
theorem d_jdk_42_method_149_33 : decode jdk_42_method_149_code 33 = .ok (.aload_n 1, 1) := by decide +kernel
theorem d_jdk_42_method_149_34 : decode jdk_42_method_149_code 34 = .ok (.iload_n 2, 1) := by decide +kernel
theorem d_jdk_42_method_149_35 : decode jdk_42_method_149_code 35 = .ok (.iload_n 3, 1) := by decide +kernel
theorem d_jdk_42_method_149_36 : decode jdk_42_method_149_code 36 = .ok (.invokestatic 177, 3) := by decide +kernel
theorem d_jdk_42_method_149_39 : decode jdk_42_method_149_code 39 = .ok (.astore 5, 2) := by decide +kernel
theorem d_jdk_42_method_149_41 : decode jdk_42_method_149_code 41 = .ok (.aload_n 0, 1) := by decide +kernel
theorem d_jdk_42_method_149_42 : decode jdk_42_method_149_code 42 = .ok (.aload 5, 2) := by decide +kernel
theorem d_jdk_42_method_149_44 : decode jdk_42_method_149_code 44 = .ok (.iload_n 3, 1) := by decide +kernel
theorem d_jdk_42_method_149_45 : decode jdk_42_method_149_code 45 = .ok (.invokestatic 47, 3) := by decide +kernel
theorem d_jdk_42_method_149_48 : decode jdk_42_method_149_code 48 = .ok (.putfield 15, 3) := by decide +kernel
theorem d_jdk_42_method_149_51 : decode jdk_42_method_149_code 51 = .ok (.aload_n 0, 1) := by decide +kernel
theorem d_jdk_42_method_149_52 : decode jdk_42_method_149_code 52 = .ok (.aload 5, 2) := by decide +kernel
theorem d_jdk_42_method_149_54 : decode jdk_42_method_149_code 54 = .ok (.putfield 9, 3) := by decide +kernel
theorem d_jdk_42_method_149_57 : decode jdk_42_method_149_code 57 = .ok (.return_, 1) := by decide +kernel
theorem d_jdk_42_method_3_0 : decode jdk_42_method_3_code 0 = .ok (.aload_n 0, 1) := by decide +kernel
theorem d_jdk_42_method_3_1 : decode jdk_42_method_3_code 1 = .ok (.aload_n 1, 1) := by decide +kernel
theorem d_jdk_42_method_3_2 : decode jdk_42_method_3_code 2 = .ok (.iconst 0, 1) := by decide +kernel
theorem d_jdk_42_method_3_3 : decode jdk_42_method_3_code 3 = .ok (.aload_n 1, 1) := by decide +kernel
theorem d_jdk_42_method_3_4 : decode jdk_42_method_3_code 4 = .ok (.arraylength, 1) := by decide +kernel
theorem d_jdk_42_method_3_5 : decode jdk_42_method_3_code 5 = .ok (.aconst_null, 1) := by decide +kernel
theorem d_jdk_42_method_3_6 : decode jdk_42_method_3_code 6 = .ok (.invokespecial 27, 3) := by decide +kernel
theorem d_jdk_42_method_3_9 : decode jdk_42_method_3_code 9 = .ok (.return_, 1) := by decide +kernel
theorem d_jdk_42_method_55_0 : decode jdk_42_method_55_code 0 = .ok (.aload_n 0, 1) := by decide +kernel
theorem d_jdk_42_method_55_1 : decode jdk_42_method_55_code 1 = .ok (.getfield 9, 3) := by decide +kernel
theorem d_jdk_42_method_55_4 : decode jdk_42_method_55_code 4 = .ok (.arraylength, 1) := by decide +kernel
theorem d_jdk_42_method_55_5 : decode jdk_42_method_55_code 5 = .ok (.ifCond .ne 7, 3) := by decide +kernel
theorem d_jdk_42_method_55_12 : decode jdk_42_method_55_code 12 = .ok (.iconst 0, 1) := by decide +kernel
theorem d_jdk_42_method_55_13 : decode jdk_42_method_55_code 13 = .ok (.ireturn, 1) := by decide +kernel
theorem d_jdk_42_method_55_8 : decode jdk_42_method_55_code 8 = .ok (.iconst 1, 1) := by decide +kernel
theorem d_jdk_42_method_55_9 : decode jdk_42_method_55_code 9 = .ok (.goto 4, 3) := by decide +kernel
theorem d_jdk_42_method_152_0 : decode jdk_42_method_152_code 0 = .ok (.getstatic 38, 3) := by decide +kernel
theorem d_jdk_42_method_152_3 : decode jdk_42_method_152_code 3 = .ok (.ifCond .eq 10, 3) := by decide +kernel
theorem d_jdk_42_method_152_6 : decode jdk_42_method_152_code 6 = .ok (.aload_n 0, 1) := by decide +kernel
theorem d_jdk_42_method_152_7 : decode jdk_42_method_152_code 7 = .ok (.getfield 15, 3) := by decide +kernel
theorem d_jdk_42_method_152_10 : decode jdk_42_method_152_code 10 = .ok (.goto 4, 3) := by decide +kernel
theorem d_jdk_42_method_152_14 : decode jdk_42_method_152_code 14 = .ok (.ireturn, 1) := by decide +kernel
theorem d_jdk_42_method_54_0 : decode jdk_42_method_54_code 0 = .ok (.aload_n 0, 1) := by decide +kernel
theorem d_jdk_42_method_54_1 : decode jdk_42_method_54_code 1 = .ok (.getfield 9, 3) := by decide +kernel
theorem d_jdk_42_method_54_4 : decode jdk_42_method_54_code 4 = .ok (.arraylength, 1) := by decide +kernel
theorem d_jdk_42_method_54_5 : decode jdk_42_method_54_code 5 = .ok (.aload_n 0, 1) := by decide +kernel
theorem d_jdk_42_method_54_6 : decode jdk_42_method_54_code 6 = .ok (.invokevirtual 335, 3) := by decide +kernel
theorem d_jdk_42_method_54_9 : decode jdk_42_method_54_code 9 = .ok (.ishr, 1) := by decide +kernel
theorem d_jdk_42_method_54_10 : decode jdk_42_method_54_code 10 = .ok (.ireturn, 1) := by decide +kernel
theorem d_jdk_42_method_154_0 : decode jdk_42_method_154_code 0 = .ok (.getstatic 38, 3) := by decide +kernel
theorem d_jdk_42_method_154_3 : decode jdk_42_method_154_code 3 = .ok (.ifCond .eq 14, 3) := by decide +kernel
theorem d_jdk_42_method_154_6 : decode jdk_42_method_154_code 6 = .ok (.aload_n 0, 1) := by decide +kernel
theorem d_jdk_42_method_154_7 : decode jdk_42_method_154_code 7 = .ok (.getfield 15, 3) := by decide +kernel
theorem d_jdk_42_method_154_10 : decode jdk_42_method_154_code 10 = .ok (.ifCond .ne 7, 3) := by decide +kernel
theorem d_jdk_42_method_154_13 : decode jdk_42_method_154_code 13 = .ok (.iconst 1, 1) := by decide +kernel
theorem d_jdk_42_method_154_14 : decode jdk_42_method_154_code 14 = .ok (.goto 4, 3) := by decide +kernel
theorem d_jdk_42_method_154_18 : decode jdk_42_method_154_code 18 = .ok (.ireturn, 1) := by decide +kernel
theorem d_jdk_42_method_154_17 : decode jdk_42_method_154_code 17 = .ok (.iconst 0, 1) := by decide +kernel
theorem d_jdk_41_method_11_0 : decode jdk_41_method_11_code 0 = .ok (.iload_n 0, 1) := by decide +kernel
theorem d_jdk_41_method_11_1 : decode jdk_41_method_11_code 1 = .ok (.ifCond .lt 8, 3) := by decide +kernel
theorem d_jdk_41_method_11_4 : decode jdk_41_method_11_code 4 = .ok (.iload_n 0, 1) := by decide +kernel
theorem d_jdk_41_method_11_5 : decode jdk_41_method_11_code 5 = .ok (.iload_n 1, 1) := by decide +kernel
theorem d_jdk_41_method_11_6 : decode jdk_41_method_11_code 6 = .ok (.if_icmp .lt 10, 3) := by decide +kernel
theorem d_jdk_41_method_11_16 : decode jdk_41_method_11_code 16 = .ok (.iload_n 0, 1) := by decide +kernel
theorem d_jdk_41_method_11_17 : decode jdk_41_method_11_code 17 = .ok (.ireturn, 1) := by decide +kernel
theorem d_jdk_42_method_155_0 : decode jdk_42_method_155_code 0 = .ok (.iload_n 0, 1) := by decide +kernel
theorem d_jdk_42_method_155_1 : decode jdk_42_method_155_code 1 = .ok (.iload_n 1, 1) := by decide +kernel
theorem d_jdk_42_method_155_2 : decode jdk_42_method_155_code 2 = .ok (.getstatic 1053, 3) := by decide +kernel
theorem d_jdk_42_method_155_5 : decode jdk_42_method_155_code 5 = .ok (.invokestatic 1059, 3) := by decide +kernel
theorem d_jdk_42_method_155_8 : decode jdk_42_method_155_code 8 = .ok (.pop, 1) := by decide +kernel
theorem d_jdk_42_method_155_9 : decode jdk_42_method_155_code 9 = .ok (.return_, 1) := by decide +kernel
theorem d_jdk_43_method_2_0 : decode jdk_43_method_2_code 0 = .ok (.iload_n 1, 1) := by decide +kernel
theorem d_jdk_43_method_2_1 : decode jdk_43_method_2_code 1 = .ok (.aload_n 0, 1) := by decide +kernel
theorem d_jdk_43_method_2_2 : decode jdk_43_method_2_code 2 = .ok (.arraylength, 1) := by decide +kernel
theorem d_jdk_43_method_2_3 : decode jdk_43_method_2_code 3 = .ok (.invokestatic 9, 3) := by decide +kernel
theorem d_jdk_43_method_2_6 : decode jdk_43_method_2_code 6 = .ok (.aload_n 0, 1) := by decide +kernel
theorem d_jdk_43_method_2_7 : decode jdk_43_method_2_code 7 = .ok (.iload_n 1, 1) := by decide +kernel
theorem d_jdk_43_method_2_8 : decode jdk_43_method_2_code 8 = .ok (.baload, 1) := by decide +kernel
theorem d_jdk_43_method_2_9 : decode jdk_43_method_2_code 9 = .ok (.sipush 255, 3) := by decide +kernel
theorem d_jdk_43_method_2_12 : decode jdk_43_method_2_code 12 = .ok (.iand, 1) := by decide +kernel
theorem d_jdk_43_method_2_13 : decode jdk_43_method_2_code 13 = .ok (.i2c, 1) := by decide +kernel
theorem d_jdk_43_method_2_14 : decode jdk_43_method_2_code 14 = .ok (.ireturn, 1) := by decide +kernel
theorem d_jdk_42_method_56_0 : decode jdk_42_method_56_code 0 = .ok (.aload_n 0, 1) := by decide +kernel
theorem d_jdk_42_method_56_1 : decode jdk_42_method_56_code 1 = .ok (.invokevirtual 492, 3) := by decide +kernel
theorem d_jdk_42_method_56_4 : decode jdk_42_method_56_code 4 = .ok (.ifCond .eq 12, 3) := by decide +kernel
theorem d_jdk_42_method_56_7 : decode jdk_42_method_56_code 7 = .ok (.aload_n 0, 1) := by decide +kernel
theorem d_jdk_42_method_56_8 : decode jdk_42_method_56_code 8 = .ok (.getfield 9, 3) := by decide +kernel
theorem d_jdk_42_method_56_11 : decode jdk_42_method_56_code 11 = .ok (.iload_n 1, 1) := by decide +kernel
theorem d_jdk_42_method_56_12 : decode jdk_42_method_56_code 12 = .ok (.invokestatic 495, 3) := by decide +kernel
theorem d_jdk_42_method_56_15 : decode jdk_42_method_56_code 15 = .ok (.ireturn, 1) := by decide +kernel
theorem d_jdk_52_method_6_0 : decode jdk_52_method_6_code 0 = .ok (.aload_n 0, 1) := by decide +kernel
theorem d_jdk_52_method_6_1 : decode jdk_52_method_6_code 1 = .ok (.arraylength, 1) := by decide +kernel
theorem d_jdk_52_method_6_2 : decode jdk_52_method_6_code 2 = .ok (.iconst 1, 1) := by decide +kernel
theorem d_jdk_52_method_6_3 : decode jdk_52_method_6_code 3 = .ok (.ishr, 1) := by decide +kernel
theorem d_jdk_52_method_6_4 : decode jdk_52_method_6_code 4 = .ok (.ireturn, 1) := by decide +kernel
theorem d_jdk_52_method_91_0 : decode jdk_52_method_91_code 0 = .ok (.iload_n 0, 1) := by decide +kernel
theorem d_jdk_52_method_91_1 : decode jdk_52_method_91_code 1 = .ok (.aload_n 1, 1) := by decide +kernel
theorem d_jdk_52_method_91_2 : decode jdk_52_method_91_code 2 = .ok (.invokestatic 48, 3) := by decide +kernel
theorem d_jdk_52_method_91_5 : decode jdk_52_method_91_code 5 = .ok (.invokestatic 414, 3) := by decide +kernel
theorem d_jdk_52_method_91_8 : decode jdk_52_method_91_code 8 = .ok (.return_, 1) := by decide +kernel
theorem d_jdk_52_method_83_0 : decode jdk_52_method_83_code 0 = .ok (.iload_n 1, 1) := by decide +kernel
theorem d_jdk_52_method_83_1 : decode jdk_52_method_83_code 1 = .ok (.aload_n 0, 1) := by decide +kernel
theorem d_jdk_52_method_83_2 : decode jdk_52_method_83_code 2 = .ok (.invokestatic 67, 3) := by decide +kernel
theorem d_jdk_52_method_83_5 : decode jdk_52_method_83_code 5 = .ok (.aload_n 0, 1) := by decide +kernel
theorem d_jdk_52_method_83_6 : decode jdk_52_method_83_code 6 = .ok (.iload_n 1, 1) := by decide +kernel
theorem d_jdk_52_method_83_7 : decode jdk_52_method_83_code 7 = .ok (.invokestatic 71, 3) := by decide +kernel
theorem d_jdk_52_method_83_10 : decode jdk_52_method_83_code 10 = .ok (.ireturn, 1) := by decide +kernel
theorem d_jdk_42_method_56_16 : decode jdk_42_method_56_code 16 = .ok (.aload_n 0, 1) := by decide +kernel
theorem d_jdk_42_method_56_17 : decode jdk_42_method_56_code 17 = .ok (.getfield 9, 3) := by decide +kernel
theorem d_jdk_42_method_56_20 : decode jdk_42_method_56_code 20 = .ok (.iload_n 1, 1) := by decide +kernel
theorem d_jdk_42_method_56_21 : decode jdk_42_method_56_code 21 = .ok (.invokestatic 498, 3) := by decide +kernel
theorem d_jdk_42_method_56_24 : decode jdk_42_method_56_code 24 = .ok (.ireturn, 1) := by decide +kernel
theorem d_jdk_31_method_11_0 : decode jdk_31_method_11_code 0 = .ok (.aload_n 0, 1) := by decide +kernel
theorem d_jdk_31_method_11_1 : decode jdk_31_method_11_code 1 = .ok (.ifnonnull 12, 3) := by decide +kernel
theorem d_jdk_31_method_11_13 : decode jdk_31_method_11_code 13 = .ok (.aload_n 0, 1) := by decide +kernel
theorem d_jdk_31_method_11_14 : decode jdk_31_method_11_code 14 = .ok (.areturn, 1) := by decide +kernel
theorem d_prog_31_method_2_0 : decode prog_31_method_2_code 0 = .ok (.aload_n 0, 1) := by decide +kernel
theorem d_prog_31_method_2_1 : decode prog_31_method_2_code 1 = .ok (.ldc 19, 2) := by decide +kernel
theorem d_prog_31_method_2_3 : decode prog_31_method_2_code 3 = .ok (.invokestatic 11, 3) := by decide +kernel
theorem d_prog_31_method_2_6 : decode prog_31_method_2_code 6 = .ok (.pop, 1) := by decide +kernel
theorem d_prog_31_method_2_7 : decode prog_31_method_2_code 7 = .ok (.aload_n 0, 1) := by decide +kernel
theorem d_prog_31_method_2_8 : decode prog_31_method_2_code 8 = .ok (.invokevirtual 65, 3) := by decide +kernel
theorem d_prog_31_method_2_11 : decode prog_31_method_2_code 11 = .ok (.ifCond .eq 13, 3) := by decide +kernel
theorem d_prog_31_method_2_24 : decode prog_31_method_2_code 24 = .ok (.aload_n 0, 1) := by decide +kernel
theorem d_prog_31_method_2_25 : decode prog_31_method_2_code 25 = .ok (.areturn, 1) := by decide +kernel
abbrev EL1 : List (String × Nat) := []
theorem wS {Z : State} {a0 : Array Value} (hw : Hw Z a0) : ∀ a ∈ Bundle.stringAtoms, a.before a0 Z = true := by
  intro a ha
  simp only [Bundle.stringAtoms, List.mem_cons, List.not_mem_nil, or_false] at ha
  rcases ha with rfl | rfl | rfl | rfl | rfl | rfl | rfl
  · exact (w2 hw)
  · exact (w1 hw)
  · exact (w19 hw)
  · exact (w29 hw)
  · exact (w27 hw)
  · exact (w35 hw)
  · exact (w36 hw)
theorem el {Z : State} {a0 : Array Value} (hw : Hw Z a0) : EW Z a0 EL1 := EW.nil
set_option maxRecDepth 65536 in
set_option maxHeartbeats 40000000 in
theorem lp_compress {p : Program} {l : Launch} {e : Env} {R : Room} {s : State} {m : MethodId} {args : Array Value} {below : List Frame} {meth : Method} {c : Code} {Z : State} {a0 : Array Value} (hw : Hw Z a0) {n0 : Nat} {cells slots : Nat} (hc : cells ≤ R.cells) (hl : slots ≤ R.slots) {a d : Addr} {ka kd : ClassId} {cs : List Int32} {n : Nat} (hn : cs.length = n) (hbig : n < 2147483648) {hh : Heap} (hne : a ≠ d) : ∀ (r i : Nat), i + r = n → ∀ (T : State) (vm : Vm) (h : Heap) (o : Slot), One o → (∀ c ∈ cs.take i, ¬ 255 < c) → Wk p l e R s m args below meth c Z a0 EL1 n0 "java/lang/StringUTF16" "compress" jdk_52_method_21_code 7 (some .int) T vm h cells slots → Arv Z h a ka .char (Int32.ofNat n) (cs.map cv) (.int 0) → Arv Z h d kd .byte (Int32.ofNat n) ((cs.take i).map bv ++ List.replicate (n - i) (.int 0)) (.int 0) → Mine Z EL1 n0 vm h d → Keep hh h [d] → Go p e below s R Z EL1 n0 (fun v vm' h' => ∃ k, k ≤ n ∧ v = some (.int (Int32.ofNat k)) ∧ (∀ c ∈ cs.take k, ¬ 255 < c) ∧ (k < n → 255 < cs.getD k 0) ∧ Keep hh h' [d] ∧ Arv Z h' d kd .byte (Int32.ofNat n) ((cs.take k).map bv ++ List.replicate (n - k) (.int 0)) (.int 0)) (T.setTop (mkF m 3 #[rv a, iv (Int32.ofNat i), rv d, iv (Int32.ofNat i), iv (Int32.ofNat n), iv (Int32.ofNat i), o] [])) := by
  intro r
  induction r with
  | zero =>
    intro i hi T vm h o ho hle W A D M K
    obtain rfl : i = n := by omega
    refine s_iload (pc' := 5) W d_jdk_52_method_21_3 rfl rfl ?_
    refine s_iload (pc' := 7) W d_jdk_52_method_21_5 rfl rfl ?_
    refine s_icmpge (pc' := 10) (pcT := 44) W d_jdk_52_method_21_7 (by decide) rfl rfl (fun _ => ?_) (fun hq => absurd hq (n_ge (Nat.le_refl _) hbig))
    refine s_iload (pc' := 46) W d_jdk_52_method_21_44 rfl rfl ?_
    refine s_ireturn W rfl d_jdk_52_method_21_46 hc hl ?_
    intro vm' C'
    exact ⟨i, Nat.le_refl _, rfl, hle, fun q => absurd q (Nat.lt_irrefl _), K, D⟩
  | succ r ih =>
    intro i hi T vm h o ho hle W A D M K
    have hin : i < n := by omega
    have hi31 : i < 2147483648 := by omega
    refine s_iload (pc' := 5) W d_jdk_52_method_21_3 rfl rfl ?_
    refine s_iload (pc' := 7) W d_jdk_52_method_21_5 rfl rfl ?_
    refine s_icmpge (pc' := 10) (pcT := 44) W d_jdk_52_method_21_7 (by decide) rfl rfl (fun hq => absurd (n_lt hin hbig) hq) (fun _ => ?_)
    refine s_aload_n (pc' := 11) W d_jdk_52_method_21_10 rfl rfl rfl ?_
    refine s_iload_n (pc' := 12) W d_jdk_52_method_21_11 rfl rfl ?_
    refine s_caload (pc' := 13) W (.int (cs.getD i 0)) A (n_nn hi31) (n_lt hin hbig) (by rw [n_clamp hi31]; exact cv_getD cs i) d_jdk_52_method_21_12 rfl ?_
    refine s_istore (pc' := 15) W #[rv a, iv (Int32.ofNat i), rv d, iv (Int32.ofNat i), iv (Int32.ofNat n), iv (Int32.ofNat i), iv (cs.getD i 0)] d_jdk_52_method_21_13 (Jvm.Free.XS.store1 (i := 6) rfl ho rfl) rfl ?_
    refine s_iload (pc' := 17) W d_jdk_52_method_21_15 rfl rfl ?_
    refine s_sipush (pc' := 20) W (255 : Int32) d_jdk_52_method_21_17 rfl rfl ?_
    refine s_icmple (pc' := 23) (pcT := 26) W d_jdk_52_method_21_20 (by decide) rfl rfl (fun hx => ?_) (fun hx => ?_)
    · refine s_aload_n (pc' := 27) W d_jdk_52_method_21_26 rfl rfl rfl ?_
      refine s_iload_n (pc' := 28) W d_jdk_52_method_21_27 rfl rfl ?_
      refine s_iload (pc' := 30) W d_jdk_52_method_21_28 rfl rfl ?_
      refine s_i2b (pc' := 31) W d_jdk_52_method_21_30 rfl ?_
      refine s_bastore (pc' := 32) W i D M (n_clamp hi31) (n_nn hi31) (n_lt hin hbig) (by rw [len_mid hn (Nat.le_of_lt hin)]; exact hin) d_jdk_52_method_21_31 rfl ?_
      intro T h W K1 C1 Vn1
      replace A := A.keep K1 (ninS hne nin0)
      replace M := M.mv C1
      have D := Vn1
      clear Vn1
      replace K := K.trans K1 (fun x hx => Or.inl hx)
      rw [bb, set_step hn hin (x := .int (cs.getD i 0).toInt8.toInt32) rfl] at D
      refine s_iinc (pc' := 35) W (1 : Int32) #[rv a, iv ((Int32.ofNat i) + (1 : Int32)), rv d, iv (Int32.ofNat i), iv (Int32.ofNat n), iv (Int32.ofNat i), iv (cs.getD i 0)] d_jdk_52_method_21_32 rfl rfl rfl rfl ?_
      refine s_iinc (pc' := 38) W (1 : Int32) #[rv a, iv ((Int32.ofNat i) + (1 : Int32)), rv d, iv ((Int32.ofNat i) + (1 : Int32)), iv (Int32.ofNat n), iv (Int32.ofNat i), iv (cs.getD i 0)] d_jdk_52_method_21_35 rfl rfl rfl rfl ?_
      refine s_iinc (pc' := 41) W (1 : Int32) #[rv a, iv ((Int32.ofNat i) + (1 : Int32)), rv d, iv ((Int32.ofNat i) + (1 : Int32)), iv (Int32.ofNat n), iv ((Int32.ofNat i) + (1 : Int32)), iv (cs.getD i 0)] d_jdk_52_method_21_38 rfl rfl rfl rfl ?_
      refine s_goto (pc' := 3) W d_jdk_52_method_21_41 (by decide) rfl ?_
      simp only [n_succ]
      exact ih (i + 1) (by omega) T _ h _ (One.val rfl) (mem_take_succ (by omega) hle hx) W A D M K
    · refine s_iload (pc' := 25) W d_jdk_52_method_21_23 rfl rfl ?_
      refine s_ireturn W rfl d_jdk_52_method_21_25 hc hl ?_
      intro vm' C'
      exact ⟨i, Nat.le_of_lt hin, rfl, hle, fun _ => hx, K, D⟩
theorem ef_compress5 (m : MethodId) (x0 : Addr) (x1 : Int32) (x2 : Addr) (x3 : Int32) (x4 : Int32) : entryFrame m #[(.ref x0), (.int x1), (.ref x2), (.int x3), (.int x4)] 7 = mkF m 0 #[.val (.ref x0), .val (.int x1), .val (.ref x2), .val (.int x3), .val (.int x4), .unset, .unset] [] := by first | (simp [entryFrame, mkF, argsToLocals, Value.category]; done) | rfl
set_option maxRecDepth 65536 in
set_option maxHeartbeats 40000000 in
theorem c_compress5 (l : Launch) {Z : State} {a0 : Array Value} (hw : Hw Z a0) {n0 : Nat} {h : Heap} (O : Old Z n0 h) {a d : Nat} {ka kd : ClassId} {cs : List Int32} {n : Nat} (hn : cs.length = n) (hbig : n < 2147483648) (hne : a ≠ d) (A : Arv Z h a ka .char (Int32.ofNat n) (cs.map cv) (.int 0)) (D : Arv Z h d kd .byte (Int32.ofNat n) (List.replicate n (.int 0)) (.int 0)) (M0 : n0 ≤ d) (Md : d < h.size) :
    Con l Z EL1 n0 (⟨"java/lang/StringUTF16", "compress", "([CI[BII)I"⟩ : MethodName) jdk_52_method_21_code 7 (some .int) [] ({ frames := 0, cells := 0, slots := 0, locals := 0 } : Room) #[(.ref a), (.int (0 : Int32)), (.ref d), (.int (0 : Int32)), (.int (Int32.ofNat n))] h [d] (fun v vm' h' => ∃ k, k ≤ n ∧ v = some (.int (Int32.ofNat k)) ∧ (∀ c ∈ cs.take k, ¬ 255 < c) ∧ (k < n → 255 < cs.getD k 0) ∧ Keep h h' [d] ∧ Arv Z h' d kd .byte (Int32.ofNat n) ((cs.take k).map bv ++ List.replicate (n - k) (.int 0)) (.int 0)) := by
  refine Con.of pn0 O (el hw) ?_
  intro p e s m below meth c T W hs hSf
  rw [ef_compress5]
  refine s_iconst (pc' := 1) W (0 : Int32) d_jdk_52_method_21_0 rfl rfl ?_
  refine s_istore (pc' := 3) W #[rv a, iv (0 : Int32), rv d, iv (0 : Int32), iv (Int32.ofNat n), iv (0 : Int32), .unset] d_jdk_52_method_21_1 rfl rfl ?_
  have Qs := lp_compress (e := e) (R := ({ frames := 0, cells := 0, slots := 0, locals := 0 } : Room)) hw (Nat.le_refl _) (Nat.le_refl _) (cs := cs) (n := n) hn hbig (hh := h) hne n 0 (Nat.zero_add n) T s.vm h .unset One.u (fun c hc => by simp at hc) W A (by simpa using D) ⟨M0, Md, hSf d (by simp)⟩ (Keep.refl _ _)
  exact Qs
theorem ef_coderfrom (m : MethodId) (x0 : Addr) (x1 : Int32) : entryFrame m #[(.ref x0), (.int x1)] 2 = mkF m 0 #[.val (.ref x0), .val (.int x1)] [] := by first | (simp [entryFrame, mkF, argsToLocals, Value.category]; done) | rfl
set_option maxRecDepth 65536 in
set_option maxHeartbeats 40000000 in
theorem c_coderfrom (l : Launch) {Z : State} {a0 : Array Value} (hw : Hw Z a0) {n0 : Nat} {h : Heap} (O : Old Z n0 h) {a : Nat} {ka : ClassId} {z : Int32} {vs : List Value} {dv : Value} (A : Arv Z h a ka .byte z vs dv) :
    Con l Z EL1 n0 (⟨"java/lang/StringUTF16", "coderFromArrayLen", "([BI)B"⟩ : MethodName) jdk_52_method_15_code 2 (some .byte) [] ({ frames := 0, cells := 0, slots := 0, locals := 0 } : Room) #[(.ref a), (.int z)] h [] (fun v vm' h' => v = some (.int 0) ∧ h = h') := by
  refine Con.of pn1 O (el hw) ?_
  intro p e s m below meth c T W hs hSf
  rw [ef_coderfrom]
  refine s_iload_n (pc' := 1) W d_jdk_52_method_15_0 rfl rfl ?_
  refine s_aload_n (pc' := 2) W d_jdk_52_method_15_1 rfl rfl rfl ?_
  refine s_alen (pc' := 3) W A d_jdk_52_method_15_2 rfl ?_
  refine s_isub (pc' := 4) W d_jdk_52_method_15_3 rfl ?_
  refine s_bipush (pc' := 6) W (31 : Int32) d_jdk_52_method_15_4 rfl rfl ?_
  refine s_iushr (pc' := 7) W d_jdk_52_method_15_6 rfl ?_
  refine s_i2b (pc' := 8) W d_jdk_52_method_15_7 rfl ?_
  refine s_nreturn W (t := .byte) rfl (by simp) d_jdk_52_method_15_8 (bl rfl) (bl rfl) ?_
  intro vm' C'
  exact ⟨by rw [sub_self32]; rfl, rfl⟩
theorem ef_coderfromU (m : MethodId) (x0 : Addr) (x1 : Int32) : entryFrame m #[(.ref x0), (.int x1)] 2 = mkF m 0 #[.val (.ref x0), .val (.int x1)] [] := by first | (simp [entryFrame, mkF, argsToLocals, Value.category]; done) | rfl
set_option maxRecDepth 65536 in
set_option maxHeartbeats 40000000 in
theorem c_coderfromU (l : Launch) {Z : State} {a0 : Array Value} (hw : Hw Z a0) {n0 : Nat} {h : Heap} (O : Old Z n0 h) {a : Nat} {ka : ClassId} {n : Nat} {vs : List Value} {dv : Value} (hn : n ≤ 4096) (h0 : 0 < n) (A : Arv Z h a ka .byte (Int32.ofNat (2 * n)) vs dv) :
    Con l Z EL1 n0 (⟨"java/lang/StringUTF16", "coderFromArrayLen", "([BI)B"⟩ : MethodName) jdk_52_method_15_code 2 (some .byte) [] ({ frames := 0, cells := 0, slots := 0, locals := 0 } : Room) #[(.ref a), (.int (Int32.ofNat n))] h [] (fun v vm' h' => v = some (.int 1) ∧ h = h') := by
  refine Con.of pn1 O (el hw) ?_
  intro p e s m below meth c T W hs hSf
  rw [ef_coderfromU]
  refine s_iload_n (pc' := 1) W d_jdk_52_method_15_0 rfl rfl ?_
  refine s_aload_n (pc' := 2) W d_jdk_52_method_15_1 rfl rfl rfl ?_
  refine s_alen (pc' := 3) W A d_jdk_52_method_15_2 rfl ?_
  refine s_isub (pc' := 4) W d_jdk_52_method_15_3 rfl ?_
  refine s_bipush (pc' := 6) W (31 : Int32) d_jdk_52_method_15_4 rfl rfl ?_
  refine s_iushr (pc' := 7) W d_jdk_52_method_15_6 rfl ?_
  refine s_i2b (pc' := 8) W d_jdk_52_method_15_7 rfl ?_
  refine s_nreturn W (t := .byte) rfl (by simp) d_jdk_52_method_15_8 (bl rfl) (bl rfl) ?_
  intro vm' C'
  exact ⟨by rw [coder1 hn h0]; rfl, rfl⟩
theorem ef_newblen (m : MethodId) (x0 : Int32) : entryFrame m #[(.int x0)] 1 = mkF m 0 #[.val (.int x0)] [] := by first | (simp [entryFrame, mkF, argsToLocals, Value.category]; done) | rfl
set_option maxRecDepth 65536 in
set_option maxHeartbeats 40000000 in
theorem c_newblen (l : Launch) {Z : State} {a0 : Array Value} (hw : Hw Z a0) {n0 : Nat} {h : Heap} (O : Old Z n0 h) {n : Nat} (hn : n ≤ 4096) :
    Con l Z EL1 n0 (⟨"java/lang/StringUTF16", "newBytesLength", "(I)I"⟩ : MethodName) jdk_52_method_3_code 1 (some .int) [] ({ frames := 0, cells := 0, slots := 0, locals := 0 } : Room) #[(.int (Int32.ofNat n))] h [] (fun v vm' h' => v = some (.int (Int32.ofNat (2 * n))) ∧ h = h') := by
  refine Con.of pn2 O (el hw) ?_
  intro p e s m below meth c T W hs hSf
  rw [ef_newblen]
  refine s_iload_n (pc' := 1) W d_jdk_52_method_3_0 rfl rfl ?_
  refine s_ifge (pc' := 4) (pcT := 12) W d_jdk_52_method_3_1 (by decide) rfl rfl (fun _ => ?_) (fun hq => absurd hq (n_nn (by omega)))
  refine s_iload_n (pc' := 13) W d_jdk_52_method_3_12 rfl rfl ?_
  refine s_ldcI (pc' := 15) W (w87 hw) d_jdk_52_method_3_13 rfl ?_
  refine s_icmplt (pc' := 18) (pcT := 55) W d_jdk_52_method_3_15 (by decide) rfl rfl (fun _ => ?_) (fun hq => absurd (n_lt (n := 1073741823) (by omega) (by decide)) hq)
  refine s_iload_n (pc' := 56) W d_jdk_52_method_3_55 rfl rfl ?_
  refine s_iconst (pc' := 57) W (1 : Int32) d_jdk_52_method_3_56 rfl rfl ?_
  refine s_ishl (pc' := 58) W d_jdk_52_method_3_57 rfl ?_
  refine s_ireturn W rfl d_jdk_52_method_3_58 (bl rfl) (bl rfl) ?_
  intro vm' C'
  exact ⟨by rw [n_shl1 hn], rfl⟩
theorem ef_newbfor (m : MethodId) (x0 : Int32) : entryFrame m #[(.int x0)] 1 = mkF m 0 #[.val (.int x0)] [] := by first | (simp [entryFrame, mkF, argsToLocals, Value.category]; done) | rfl
set_option maxRecDepth 65536 in
set_option maxHeartbeats 40000000 in
theorem c_newbfor (l : Launch) {Z : State} {a0 : Array Value} (hw : Hw Z a0) {n0 : Nat} {h : Heap} (O : Old Z n0 h) {n : Nat} (hn : n ≤ 4096) :
    Con l Z EL1 n0 (⟨"java/lang/StringUTF16", "newBytesFor", "(I)[B"⟩ : MethodName) jdk_52_method_2_code 1 (some (.array .byte)) [] ({ frames := 1, cells := 1, slots := 2 * n, locals := 12 } : Room) #[(.int (Int32.ofNat n))] h [] (fun v vm' h' => ∃ b kb, v = some (.ref b) ∧ Keep h h' [] ∧ Arv Z h' b kb .byte (Int32.ofNat (2 * n)) (List.replicate (2 * n) (.int 0)) (.int 0) ∧ h.size ≤ b ∧ Mine Z EL1 n0 vm' h' b) := by
  refine Con.of pn3 O (el hw) ?_
  intro p e s m below meth c T W hs hSf
  rw [ef_newbfor]
  have Kt := Keep.refl h []
  refine s_iload_n (pc' := 1) W d_jdk_52_method_2_0 rfl rfl ?_
  refine s_static (pc' := 4) W (w84 hw) (w85 hw) (w17 hw) (w86 hw) (by decide) pd0 [(.int (Int32.ofNat n))] rfl (c_newblen l hw W.old hn) all0 rfl d_jdk_52_method_2_1 0 (le rfl) (bl rfl) (bl rfl) (by (try dsimp only) <;> omega) (by (try dsimp only) <;> omega) rfl ?_
  rintro _ T vm _ W C1 ⟨rfl, rfl⟩
  refine s_newarr (pc' := 6) W (aty := .byte) (2 * n) "[B" (by decide) (w19 hw) d_jdk_52_method_2_4 (n_nn (by omega)) (by rw [n_clamp (by omega)]; exact Nat.le_refl _) (by omega) (by (try dsimp only) <;> omega) (by (try dsimp only) <;> omega) rfl ?_
  intro b T h k_b g_b
  have fs_b := Nat.le_trans Kt.1 (Nat.le_of_eq g_b.symm)
  intro W K2 C2 M_b V_b X_b
  replace Kt := Kt.trans K2 all0
  have V_b : Arv Z h b k_b .byte (Int32.ofNat (2 * n)) (List.replicate (2 * n) (.int 0)) (.int 0) := by have q := V_b; rw [n_clamp (by omega)] at q; exact q
  refine s_areturn W rfl rfl rfl d_jdk_52_method_2_6 (by (try dsimp only) <;> omega) (by (try dsimp only) <;> omega) ?_
  intro vm' C'
  exact ⟨b, k_b, rfl, Kt, V_b, fs_b, M_b.mv C'⟩
theorem ef_putchar (m : MethodId) (x0 : Addr) (x1 : Int32) (x2 : Int32) : entryFrame m #[(.ref x0), (.int x1), (.int x2)] 3 = mkF m 0 #[.val (.ref x0), .val (.int x1), .val (.int x2)] [] := by first | (simp [entryFrame, mkF, argsToLocals, Value.category]; done) | rfl
set_option maxRecDepth 65536 in
set_option maxHeartbeats 40000000 in
theorem c_putchar (l : Launch) {Z : State} {a0 : Array Value} (hw : Hw Z a0) {n0 : Nat} {h : Heap} (O : Old Z n0 h) (US : U16S Z) {b : Nat} {kb : ClassId} {n i : Nat} {x : Int32} {vs : List Value} (hn : n ≤ 4096) (hv : vs.length = 2 * n) (D : Arv Z h b kb .byte (Int32.ofNat (2 * n)) vs (.int 0)) (hi : i < n) (M0 : n0 ≤ b) (Mb : b < h.size) :
    Con l Z EL1 n0 (⟨"java/lang/StringUTF16", "putChar", "([BII)V"⟩ : MethodName) jdk_52_method_4_code 3 none [] ({ frames := 0, cells := 0, slots := 0, locals := 0 } : Room) #[(.ref b), (.int (Int32.ofNat i)), (.int x)] h [b] (fun v vm' h' => v = none ∧ Keep h h' [b] ∧ Arv Z h' b kb .byte (Int32.ofNat (2 * n)) ((vs.set (2 * i) (.int x.toInt8.toInt32)).set (2 * i + 1) (.int (hb8 x))) (.int 0)) := by
  refine Con.of pn4 O (el hw) ?_
  intro p e s m below meth c T W hs hSf
  rw [ef_putchar]
  have M : Mine Z EL1 n0 s.vm h b := ⟨M0, Mb, hSf b (by simp)⟩
  have Kt := Keep.refl h [b]
  refine s_gets (pc' := 3) W (w91 hw) Via.refl US.1 d_jdk_52_method_4_0 rfl ?_
  intro T W
  refine s_ifne (pc' := 6) (pcT := 28) W d_jdk_52_method_4_3 (by decide) rfl rfl (fun _ => ?_) (fun hq => absurd hq (by decide))
  refine s_iload_n (pc' := 29) W d_jdk_52_method_4_28 rfl rfl ?_
  refine s_iconst (pc' := 30) W (1 : Int32) d_jdk_52_method_4_29 rfl rfl ?_
  refine s_ishl (pc' := 31) W d_jdk_52_method_4_30 rfl ?_
  rw [n_shl1 (by omega)]
  refine s_istore_n (pc' := 32) W #[rv b, iv (Int32.ofNat (2 * i)), iv x] d_jdk_52_method_4_31 rfl rfl ?_
  refine s_aload_n (pc' := 33) W d_jdk_52_method_4_32 rfl rfl rfl ?_
  refine s_iload_n (pc' := 34) W d_jdk_52_method_4_33 rfl rfl ?_
  refine s_iinc (pc' := 37) W (1 : Int32) #[rv b, iv ((Int32.ofNat (2 * i)) + (1 : Int32)), iv x] d_jdk_52_method_4_34 rfl rfl rfl rfl ?_
  rw [n_succ]
  refine s_iload_n (pc' := 38) W d_jdk_52_method_4_37 rfl rfl ?_
  refine s_gets (pc' := 41) W (w92 hw) Via.refl US.2.1 d_jdk_52_method_4_38 rfl ?_
  intro T W
  refine s_ishr (pc' := 42) W d_jdk_52_method_4_41 rfl ?_
  rw [shr0]
  refine s_i2b (pc' := 43) W d_jdk_52_method_4_42 rfl ?_
  refine s_bastore (pc' := 44) W (2 * i) D M (n_clamp (by omega)) (n_nn (by omega)) (n_lt (by omega) (by omega)) (by omega) d_jdk_52_method_4_43 rfl ?_
  intro T h W K1 C1 Vn1
  replace Kt := Kt.trans K1 (allS (P := fun x => _ ∨ _) (Or.inl (by simp)) all0)
  replace M := M.mv C1
  have D := Vn1
  clear Vn1
  rw [bb] at D
  refine s_aload_n (pc' := 45) W d_jdk_52_method_4_44 rfl rfl rfl ?_
  refine s_iload_n (pc' := 46) W d_jdk_52_method_4_45 rfl rfl ?_
  refine s_iload_n (pc' := 47) W d_jdk_52_method_4_46 rfl rfl ?_
  refine s_gets (pc' := 50) W (w93 hw) Via.refl US.2.2 d_jdk_52_method_4_47 rfl ?_
  intro T W
  refine s_ishr (pc' := 51) W d_jdk_52_method_4_50 rfl ?_
  refine s_i2b (pc' := 52) W d_jdk_52_method_4_51 rfl ?_
  refine s_bastore (pc' := 53) W (2 * i + 1) D M (n_clamp (by omega)) (n_nn (by omega)) (n_lt (by omega) (by omega)) (by rw [List.length_set]; omega) d_jdk_52_method_4_52 rfl ?_
  intro T h W K2 C2 Vn2
  replace Kt := Kt.trans K2 (allS (P := fun x => _ ∨ _) (Or.inl (by simp)) all0)
  replace M := M.mv C2
  have D := Vn2
  clear Vn2
  rw [bb] at D
  refine s_ret W rfl d_jdk_52_method_4_53 (bl rfl) (bl rfl) ?_
  intro vm' C'
  exact ⟨rfl, Kt, D⟩
set_option maxRecDepth 65536 in
set_option maxHeartbeats 40000000 in
theorem lp_tobytes {p : Program} {l : Launch} {e : Env} {R : Room} {s : State} {m : MethodId} {args : Array Value} {below : List Frame} {meth : Method} {c : Code} {Z : State} {a0 : Array Value} (hw : Hw Z a0) {n0 : Nat} {cells slots : Nat} (hc : cells ≤ R.cells) (hl : slots ≤ R.slots) (hfr : 1 ≤ R.frames) (hlo : 14 ≤ R.locals) (US : U16S Z) {a b : Addr} {ka kb : ClassId} {cs : List Int32} {n : Nat} (hn : cs.length = n) (hbig : n ≤ 4096) {hh : Heap} (hne : a ≠ b) : ∀ (r i : Nat), i + r = n → ∀ (T : State) (vm : Vm) (h : Heap), Wk p l e R s m args below meth c Z a0 EL1 n0 "java/lang/StringUTF16" "toBytes" jdk_52_method_14_code 5 (some (.array .byte)) T vm h cells slots → Arv Z h a ka .char (Int32.ofNat n) (cs.map cv) (.int 0) → Arv Z h b kb .byte (Int32.ofNat (2 * n)) (u2b (cs.take i) ++ List.replicate (2 * (n - i)) (.int 0)) (.int 0) → Mine Z EL1 n0 vm h b → Keep hh h [b] → Go p e below s R Z EL1 n0 (fun v vm' h' => v = some (.ref b) ∧ Keep hh h' [b] ∧ Arv Z h' b kb .byte (Int32.ofNat (2 * n)) (u2b cs) (.int 0)) (T.setTop (mkF m 8 #[rv a, iv (Int32.ofNat i), iv (Int32.ofNat n), rv b, iv (Int32.ofNat i)] [])) := by
  intro r
  induction r with
  | zero =>
    intro i hi T vm h W A D M K
    obtain rfl : i = n := by omega
    refine s_iload (pc' := 10) W d_jdk_52_method_14_8 rfl rfl ?_
    refine s_iload_n (pc' := 11) W d_jdk_52_method_14_10 rfl rfl ?_
    refine s_icmpge (pc' := 14) (pcT := 32) W d_jdk_52_method_14_11 (by decide) rfl rfl (fun _ => ?_) (fun hq => absurd hq (n_ge (Nat.le_refl _) (by omega)))
    refine s_aload_n (pc' := 33) W d_jdk_52_method_14_32 rfl rfl rfl ?_
    refine s_areturn W rfl rfl rfl d_jdk_52_method_14_33 hc hl ?_
    intro vm' C'
    exact ⟨rfl, K, by simpa [List.take_of_length_le (Nat.le_of_eq hn)] using D⟩
  | succ r ih =>
    intro i hi T vm h W A D M K
    have hin : i < n := by omega
    have hi31 : i < 2147483648 := by omega
    refine s_iload (pc' := 10) W d_jdk_52_method_14_8 rfl rfl ?_
    refine s_iload_n (pc' := 11) W d_jdk_52_method_14_10 rfl rfl ?_
    refine s_icmpge (pc' := 14) (pcT := 32) W d_jdk_52_method_14_11 (by decide) rfl rfl (fun hq => absurd (n_lt hin (by omega)) hq) (fun _ => ?_)
    refine s_aload_n (pc' := 15) W d_jdk_52_method_14_14 rfl rfl rfl ?_
    refine s_iload (pc' := 17) W d_jdk_52_method_14_15 rfl rfl ?_
    refine s_aload_n (pc' := 18) W d_jdk_52_method_14_17 rfl rfl rfl ?_
    refine s_iload_n (pc' := 19) W d_jdk_52_method_14_18 rfl rfl ?_
    refine s_caload (pc' := 20) W (.int (cs.getD i 0)) A (n_nn hi31) (n_lt hin (by omega)) (by rw [n_clamp hi31]; exact cv_getD cs i) d_jdk_52_method_14_19 rfl ?_
    refine s_static (pc' := 23) W (w88 hw) (w89 hw) (w17 hw) (w90 hw) (by decide) pd1 [(.ref b), (.int (Int32.ofNat i)), (.int (cs.getD i 0))] rfl (c_putchar _ hw W.old US (n := n) hbig (by rw [List.length_append, u2b_len, List.length_take, List.length_replicate]; omega) D hin M.1 M.2.1) (allS ⟨M.2.1, M.2.2⟩ all0) rfl d_jdk_52_method_14_20 0 (le rfl) hfr hlo (by dsimp only; omega) (by dsimp only; omega) rfl ?_
    rintro _ T vm h W C1 ⟨rfl, K1, Dn⟩
    replace A := A.keep K1 (ninS hne nin0)
    replace M := M.mv C1
    replace K := K.trans K1 (fun x hx => Or.inl hx)
    rw [u2b_step hn hin] at Dn
    refine s_iinc (pc' := 26) W (1 : Int32) #[rv a, iv ((Int32.ofNat i) + (1 : Int32)), iv (Int32.ofNat n), rv b, iv (Int32.ofNat i)] d_jdk_52_method_14_23 rfl rfl rfl rfl ?_
    refine s_iinc (pc' := 29) W (1 : Int32) #[rv a, iv ((Int32.ofNat i) + (1 : Int32)), iv (Int32.ofNat n), rv b, iv ((Int32.ofNat i) + (1 : Int32))] d_jdk_52_method_14_26 rfl rfl rfl rfl ?_
    refine s_goto (pc' := 8) W d_jdk_52_method_14_29 (by decide) rfl ?_
    simp only [n_succ]
    exact ih (i + 1) (by omega) T _ _ (W.more (cells' := cells) (slots' := slots) (by dsimp only; omega) (by dsimp only; omega)) A Dn M K
theorem ef_tobytes (m : MethodId) (x0 : Addr) (x1 : Int32) (x2 : Int32) : entryFrame m #[(.ref x0), (.int x1), (.int x2)] 5 = mkF m 0 #[.val (.ref x0), .val (.int x1), .val (.int x2), .unset, .unset] [] := by first | (simp [entryFrame, mkF, argsToLocals, Value.category]; done) | rfl
set_option maxRecDepth 65536 in
set_option maxHeartbeats 40000000 in
theorem c_tobytes (l : Launch) {Z : State} {a0 : Array Value} (hw : Hw Z a0) {n0 : Nat} {h : Heap} (O : Old Z n0 h) (US : U16S Z) {a : Nat} {ka : ClassId} {cs : List Int32} {n : Nat} (hn : cs.length = n) (hbig : n ≤ 4096) (A : Arv Z h a ka .char (Int32.ofNat n) (cs.map cv) (.int 0)) :
    Con l Z EL1 n0 (⟨"java/lang/StringUTF16", "toBytes", "([CII)[B"⟩ : MethodName) jdk_52_method_14_code 5 (some (.array .byte)) [] ({ frames := 2, cells := 1, slots := 2 * n, locals := 24 } : Room) #[(.ref a), (.int (0 : Int32)), (.int (Int32.ofNat n))] h [] (fun v vm' h' => ∃ b kb, v = some (.ref b) ∧ Keep h h' [] ∧ Arv Z h' b kb .byte (Int32.ofNat (2 * n)) (u2b cs) (.int 0) ∧ h.size ≤ b) := by
  refine Con.of pn5 O (el hw) ?_
  intro p e s m below meth c T W hs hSf
  rw [ef_tobytes]
  have Kt := Keep.refl h []
  have la := nlt A.lt
  refine s_iload_n (pc' := 1) W d_jdk_52_method_14_0 rfl rfl ?_
  refine s_static (pc' := 4) W (w81 hw) (w82 hw) (w17 hw) (w83 hw) (by decide) pd2 [(.int (Int32.ofNat n))] rfl (c_newbfor l hw W.old hbig) all0 rfl d_jdk_52_method_14_1 0 (le rfl) (bl rfl) (bl rfl) (by (try dsimp only) <;> omega) (by (try dsimp only) <;> omega) rfl ?_
  rintro _ T vm h W C1 ⟨b, kb, rfl, K1, V_b, fs_b, M_b⟩
  replace Kt := Kt.trans K1 all0
  replace A := A.keep K1 nin0
  refine s_astore_n (pc' := 5) W #[rv a, iv (0 : Int32), iv (Int32.ofNat n), rv b, .unset] d_jdk_52_method_14_4 rfl rfl rfl ?_
  refine s_iconst (pc' := 6) W (0 : Int32) d_jdk_52_method_14_5 rfl rfl ?_
  refine s_istore (pc' := 8) W #[rv a, iv (0 : Int32), iv (Int32.ofNat n), rv b, iv (0 : Int32)] d_jdk_52_method_14_6 rfl rfl ?_
  have hne : @Ne Nat a b := by omega
  refine Go.imp (fun v vm' h' q => ?_) (lp_tobytes hw (by dsimp only; omega) (by dsimp only; omega) (by dsimp only; omega) (by dsimp only; omega) US hn hbig hne n 0 (Nat.zero_add n) T _ _ W A (by simpa [u2b] using V_b) M_b (Keep.refl _ _))
  exact ⟨b, kb, q.1, Kt.trans q.2.1 (allS (P := fun x => _ ∨ _) (Or.inr fs_b) all0), q.2.2, fs_b⟩
theorem ef_u16getchar (m : MethodId) (x0 : Addr) (x1 : Int32) : entryFrame m #[(.ref x0), (.int x1)] 2 = mkF m 0 #[.val (.ref x0), .val (.int x1)] [] := by first | (simp [entryFrame, mkF, argsToLocals, Value.category]; done) | rfl
set_option maxRecDepth 65536 in
set_option maxHeartbeats 40000000 in
theorem c_u16getchar (l : Launch) {Z : State} {a0 : Array Value} (hw : Hw Z a0) {n0 : Nat} {h : Heap} (O : Old Z n0 h) (US : U16S Z) {b : Nat} {kb : ClassId} {n i : Nat} {cs : List Int32} (hl : cs.length = n) (hn : n ≤ 4096) (A : Arv Z h b kb .byte (Int32.ofNat (2 * n)) (u2b cs) (.int 0)) (hC : ∀ c ∈ cs, C16 c) (hi : i < n) :
    Con l Z EL1 n0 (⟨"java/lang/StringUTF16", "getChar", "([BI)C"⟩ : MethodName) jdk_52_method_5_code 2 (some .char) [] ({ frames := 0, cells := 0, slots := 0, locals := 0 } : Room) #[(.ref b), (.int (Int32.ofNat i))] h [] (fun v vm' h' => v = some (.int (cs.getD i 0)) ∧ h = h') := by
  refine Con.of pn6 O (el hw) ?_
  intro p e s m below meth c T W hs hSf
  rw [ef_u16getchar]
  refine s_gets (pc' := 3) W (w91 hw) Via.refl US.1 d_jdk_52_method_5_0 rfl ?_
  intro T W
  refine s_ifne (pc' := 6) (pcT := 28) W d_jdk_52_method_5_3 (by decide) rfl rfl (fun _ => ?_) (fun hq => absurd hq (by decide))
  refine s_iload_n (pc' := 29) W d_jdk_52_method_5_28 rfl rfl ?_
  refine s_iconst (pc' := 30) W (1 : Int32) d_jdk_52_method_5_29 rfl rfl ?_
  refine s_ishl (pc' := 31) W d_jdk_52_method_5_30 rfl ?_
  rw [n_shl1 (by omega)]
  refine s_istore_n (pc' := 32) W #[rv b, iv (Int32.ofNat (2 * i))] d_jdk_52_method_5_31 rfl rfl ?_
  refine s_aload_n (pc' := 33) W d_jdk_52_method_5_32 rfl rfl rfl ?_
  refine s_iload_n (pc' := 34) W d_jdk_52_method_5_33 rfl rfl ?_
  refine s_iinc (pc' := 37) W (1 : Int32) #[rv b, iv ((Int32.ofNat (2 * i)) + (1 : Int32))] d_jdk_52_method_5_34 rfl rfl rfl rfl ?_
  rw [n_succ]
  refine s_baload (pc' := 38) W (.int (cs.getD i 0).toInt8.toInt32) A (n_nn (by omega)) (n_lt (by omega) (by omega)) (by rw [n_clamp (by omega)]; exact u2b_lo cs i (by omega)) d_jdk_52_method_5_37 rfl ?_
  refine s_sipush (pc' := 41) W (255 : Int32) d_jdk_52_method_5_38 rfl rfl ?_
  refine s_iand (pc' := 42) W d_jdk_52_method_5_41 rfl ?_
  refine s_gets (pc' := 45) W (w92 hw) Via.refl US.2.1 d_jdk_52_method_5_42 rfl ?_
  intro T W
  refine s_ishl (pc' := 46) W d_jdk_52_method_5_45 rfl ?_
  refine s_aload_n (pc' := 47) W d_jdk_52_method_5_46 rfl rfl rfl ?_
  refine s_iload_n (pc' := 48) W d_jdk_52_method_5_47 rfl rfl ?_
  refine s_baload (pc' := 49) W (.int (hb8 (cs.getD i 0))) A (n_nn (by omega)) (n_lt (by omega) (by omega)) (by rw [n_clamp (by omega)]; exact u2b_hi cs i (by omega)) d_jdk_52_method_5_48 rfl ?_
  refine s_sipush (pc' := 52) W (255 : Int32) d_jdk_52_method_5_49 rfl rfl ?_
  refine s_iand (pc' := 53) W d_jdk_52_method_5_52 rfl ?_
  refine s_gets (pc' := 56) W (w93 hw) Via.refl US.2.2 d_jdk_52_method_5_53 rfl ?_
  intro T W
  refine s_ishl (pc' := 57) W d_jdk_52_method_5_56 rfl ?_
  refine s_ior (pc' := 58) W d_jdk_52_method_5_57 rfl ?_
  refine s_i2c (pc' := 59) W d_jdk_52_method_5_58 rfl ?_
  refine s_nreturn W (t := .char) rfl (by simp) d_jdk_52_method_5_59 (bl rfl) (bl rfl) ?_
  intro vm' C'
  exact ⟨by have q := hC _ (mem_getD (cs := cs) (i := i) (by omega)); rw [u16back q, q.nar], rfl⟩
theorem ef_compress3G (m : MethodId) (x0 : Addr) (x1 : Int32) (x2 : Int32) : entryFrame m #[(.ref x0), (.int x1), (.int x2)] 6 = mkF m 0 #[.val (.ref x0), .val (.int x1), .val (.int x2), .unset, .unset, .unset] [] := by first | (simp [entryFrame, mkF, argsToLocals, Value.category]; done) | rfl
set_option maxRecDepth 65536 in
set_option maxHeartbeats 40000000 in
theorem c_compress3G (l : Launch) {Z : State} {a0 : Array Value} (hw : Hw Z a0) {n0 : Nat} {h : Heap} (O : Old Z n0 h) (US : U16S Z) {a : Nat} {ka : ClassId} {cs : List Int32} {n : Nat} (hn : cs.length = n) (hbig : n ≤ 4096) (hC : ∀ c ∈ cs, C16 c) (A : Arv Z h a ka .char (Int32.ofNat n) (cs.map cv) (.int 0)) :
    Con l Z EL1 n0 (⟨"java/lang/StringUTF16", "compress", "([CII)[B"⟩ : MethodName) jdk_52_method_16_code 6 (some (.array .byte)) [] ({ frames := 3, cells := 2, slots := 3 * n, locals := 40 } : Room) #[(.ref a), (.int (0 : Int32)), (.int (Int32.ofNat n))] h [] (fun v vm' h' => ∃ b kb, v = some (.ref b) ∧ Keep h h' [] ∧ h.size ≤ b ∧ (((∀ c ∈ cs, L1 c) ∧ Arv Z h' b kb .byte (Int32.ofNat n) (cs.map bv) (.int 0)) ∨ Arv Z h' b kb .byte (Int32.ofNat (2 * n)) (u2b cs) (.int 0))) := by
  refine Con.of pn7 O (el hw) ?_
  intro p e s m below meth c T W hs hSf
  rw [ef_compress3G]
  have hn31 : n < 2147483648 := by omega
  have Kt := Keep.refl h []
  refine s_iload_n (pc' := 1) W d_jdk_52_method_16_0 rfl rfl ?_
  refine s_newarr (pc' := 3) W (aty := .byte) n "[B" (by decide) (w19 hw) d_jdk_52_method_16_1 (n_nn hn31) (by rw [n_clamp hn31]; exact Nat.le_refl _) (by omega) (by (try dsimp only) <;> omega) (by (try dsimp only) <;> omega) rfl ?_
  intro b T h k_b g_b
  have fs_b := Nat.le_trans Kt.1 (Nat.le_of_eq g_b.symm)
  have ne_a_b : @Ne Nat a b := by have := nlt A.lt; omega
  intro W K1 C1 M_b V_b X_b
  replace Kt := Kt.trans K1 all0
  replace A := A.keep K1 nin0
  have V_b : Arv Z h b k_b .byte (Int32.ofNat n) (List.replicate n (.int 0)) (.int 0) := by have q := V_b; rw [n_clamp hn31] at q; exact q
  refine s_astore_n (pc' := 4) W #[rv a, iv (0 : Int32), iv (Int32.ofNat n), rv b, .unset, .unset] d_jdk_52_method_16_3 rfl rfl rfl ?_
  refine s_aload_n (pc' := 5) W d_jdk_52_method_16_4 rfl rfl rfl ?_
  refine s_iload_n (pc' := 6) W d_jdk_52_method_16_5 rfl rfl ?_
  refine s_aload_n (pc' := 7) W d_jdk_52_method_16_6 rfl rfl rfl ?_
  refine s_iconst (pc' := 8) W (0 : Int32) d_jdk_52_method_16_7 rfl rfl ?_
  refine s_iload_n (pc' := 9) W d_jdk_52_method_16_8 rfl rfl ?_
  refine s_static (pc' := 12) W (w20 hw) (w21 hw) (w17 hw) (w22 hw) (by decide) pd3 [(.ref a), (.int (0 : Int32)), (.ref b), (.int (0 : Int32)), (.int (Int32.ofNat n))] rfl (c_compress5 l hw W.old hn hn31 ne_a_b A V_b M_b.1 M_b.2.1) (allS ⟨M_b.2.1, M_b.2.2⟩ all0) rfl d_jdk_52_method_16_9 0 (le rfl) (bl rfl) (bl rfl) (by (try dsimp only) <;> omega) (by (try dsimp only) <;> omega) rfl ?_
  rintro _ T vm h W C2 ⟨k, hk, rfl, hle, hgt, K2, Vn⟩
  replace Kt := Kt.trans K2 (allS (P := fun x => _ ∨ _) (Or.inr fs_b) all0)
  replace A := A.keep K2 (ninS ne_a_b nin0)
  replace M_b := M_b.mv C2
  refine s_istore (pc' := 14) W #[rv a, iv (0 : Int32), iv (Int32.ofNat n), rv b, iv (Int32.ofNat k), .unset] d_jdk_52_method_16_12 rfl rfl ?_
  refine s_iload (pc' := 16) W d_jdk_52_method_16_14 rfl rfl ?_
  refine s_iload_n (pc' := 17) W d_jdk_52_method_16_16 rfl rfl ?_
  refine s_icmpeq (pc' := 20) (pcT := 57) W d_jdk_52_method_16_17 (by decide) rfl rfl (fun hkn => ?_) (fun hkn => ?_)
  · obtain rfl : k = n := n_inj (by omega) hn31 hkn
    refine s_aload_n (pc' := 58) W d_jdk_52_method_16_57 rfl rfl rfl ?_
    refine s_areturn W rfl rfl rfl d_jdk_52_method_16_58 (by (try dsimp only) <;> omega) (by (try dsimp only) <;> omega) ?_
    intro vm' C'
    exact ⟨b, k_b, rfl, Kt, fs_b, Or.inl ⟨fun c hc => ⟨(hC c hc).1, hle c (by rw [List.take_of_length_le (Nat.le_of_eq hn)]; exact hc)⟩, by simpa [List.take_of_length_le (Nat.le_of_eq hn)] using Vn⟩⟩
  · have Kt0 := Kt.1
    have hkl : k < n := by rcases Nat.lt_or_ge k n with q | q; exact q; exact absurd (by rw [Nat.le_antisymm hk q]) hkn
    refine s_aload_n (pc' := 21) W d_jdk_52_method_16_20 rfl rfl rfl ?_
    refine s_iload_n (pc' := 22) W d_jdk_52_method_16_21 rfl rfl ?_
    refine s_iload_n (pc' := 23) W d_jdk_52_method_16_22 rfl rfl ?_
    refine s_static (pc' := 26) W (w78 hw) (w79 hw) (w17 hw) (w80 hw) (by decide) pd4 [(.ref a), (.int (0 : Int32)), (.int (Int32.ofNat n))] rfl (c_tobytes l hw W.old US hn hbig A) all0 rfl d_jdk_52_method_16_23 0 (le rfl) (bl rfl) (bl rfl) (by (try dsimp only) <;> omega) (by (try dsimp only) <;> omega) rfl ?_
    rintro _ T vm h W C3 ⟨u, ku, rfl, K3, V_u, hu⟩
    replace Kt := Kt.trans K3 all0
    replace A := A.keep K3 nin0
    replace M_b := M_b.mv C3
    have fs_u := Nat.le_trans Kt0 hu
    refine s_astore (pc' := 28) W #[rv a, iv (0 : Int32), iv (Int32.ofNat n), rv b, iv (Int32.ofNat k), rv u] d_jdk_52_method_16_26 rfl rfl rfl ?_
    refine s_aload (pc' := 30) W d_jdk_52_method_16_28 rfl rfl rfl ?_
    refine s_iload (pc' := 32) W d_jdk_52_method_16_30 rfl rfl ?_
    refine s_static (pc' := 35) W (w94 hw) (w95 hw) (w17 hw) (w96 hw) (by decide) pd5 [(.ref u), (.int (Int32.ofNat k))] rfl (c_u16getchar l hw W.old US hn hbig V_u hC hkl) all0 rfl d_jdk_52_method_16_32 0 (le rfl) (bl rfl) (bl rfl) (by (try dsimp only) <;> omega) (by (try dsimp only) <;> omega) rfl ?_
    rintro _ T vm _ W C4 ⟨rfl, rfl⟩
    replace M_b := M_b.mv C4
    refine s_sipush (pc' := 38) W (255 : Int32) d_jdk_52_method_16_35 rfl rfl ?_
    refine s_icmpgt (pc' := 41) (pcT := 54) W d_jdk_52_method_16_38 (by decide) rfl rfl (fun _ => ?_) (fun hq => absurd (hgt hkl) hq)
    refine s_aload (pc' := 56) W d_jdk_52_method_16_54 rfl rfl rfl ?_
    refine s_areturn W rfl rfl rfl d_jdk_52_method_16_56 (by (try dsimp only) <;> omega) (by (try dsimp only) <;> omega) ?_
    intro vm' C'
    exact ⟨u, ku, rfl, Kt, fs_u, Or.inr V_u⟩
theorem ef_strinit4G (m : MethodId) (x0 : Addr) (x1 : Addr) (x2 : Int32) (x3 : Int32) : entryFrame m #[(.ref x0), (.ref x1), (.int x2), (.int x3), .null] 6 = mkF m 0 #[.val (.ref x0), .val (.ref x1), .val (.int x2), .val (.int x3), .val .null, .unset] [] := by first | (simp [entryFrame, mkF, argsToLocals, Value.category]; done) | rfl
set_option maxRecDepth 65536 in
set_option maxHeartbeats 40000000 in
theorem c_strinit4G (l : Launch) {Z : State} {a0 : Array Value} (hw : Hw Z a0) {n0 : Nat} {h : Heap} (O : Old Z n0 h) {a : Nat} {cs : List Int32} {n : Nat} (CS0 : CS Z) (US : U16S Z) (hn : cs.length = n) (hbig : n ≤ 4096) (hpos : 0 < n) (hC : ∀ c ∈ cs, C16 c) (E : Exa Z h a "java/lang/String") (M0 : n0 ≤ a) (Ma : a < h.size) (Fc : Fld Z h a "java/lang/String" "coder" "B" (.int 0)) (Fv : Fld Z h a "java/lang/String" "value" "[B" .null) {d : Nat} {kd : ClassId} (A : Arv Z h d kd .char (Int32.ofNat n) (cs.map cv) (.int 0)) :
    Con l Z EL1 n0 (⟨"java/lang/String", "<init>", "([CIILjava/lang/Void;)V"⟩ : MethodName) jdk_42_method_149_code 6 none [] ({ frames := 4, cells := 2, slots := 3 * n, locals := 57 } : Room) #[(.ref a), (.ref d), (.int (0 : Int32)), (.int (Int32.ofNat n)), .null] h [a] (fun v vm' h' => v = none ∧ Keep h h' [a] ∧ ∃ b kb, LatB Z h' a b kb cs ∨ U16B Z h' a b kb cs) := by
  refine Con.of pn8 O (el hw) ?_
  intro p e s m below meth c T W hs hSf
  rw [ef_strinit4G]
  have M : Mine Z EL1 n0 s.vm h a := ⟨M0, Ma, hSf a (by simp)⟩
  have Kt := Keep.refl h [a]
  refine s_aload_n (pc' := 1) W d_jdk_42_method_149_0 rfl rfl rfl ?_
  refine s_objinit (pc' := 4) W (w11 hw) (w12 hw) (w13 hw) rfl d_jdk_42_method_149_1 0 (le rfl) (bl rfl) (bl rfl) rfl ?_
  intro T W
  refine s_iload_n (pc' := 5) W d_jdk_42_method_149_4 rfl rfl ?_
  refine s_ifne (pc' := 8) (pcT := 27) W d_jdk_42_method_149_5 (by decide) rfl rfl (fun _ => ?_) (fun hq => absurd hq (fun q => by have := n_inj (i := n) (j := 0) (by omega) (by decide) q; omega))
  obtain ⟨vc, Sc, hvc⟩ := CS0
  refine s_gets (pc' := 30) W (w14 hw) Via.refl Sc d_jdk_42_method_149_27 rfl ?_
  intro T W
  refine s_ifeq (pc' := 33) (pcT := 58) W d_jdk_42_method_149_30 (by decide) rfl rfl (fun hq => absurd hq hvc) (fun _ => ?_)
  refine s_aload_n (pc' := 34) W d_jdk_42_method_149_33 rfl rfl rfl ?_
  refine s_iload_n (pc' := 35) W d_jdk_42_method_149_34 rfl rfl ?_
  refine s_iload_n (pc' := 36) W d_jdk_42_method_149_35 rfl rfl ?_
  refine s_static (pc' := 39) W (w15 hw) (w16 hw) (w17 hw) (w18 hw) (by decide) pd4 [(.ref d), (.int (0 : Int32)), (.int (Int32.ofNat n))] rfl (c_compress3G l hw W.old US hn hbig hC A) all0 rfl d_jdk_42_method_149_36 0 (le rfl) (bl rfl) (bl rfl) (by (try dsimp only) <;> omega) (by (try dsimp only) <;> omega) rfl ?_
  rintro _ T vm h W C1 ⟨b, kb, rfl, K1, hb, V_b⟩
  replace Kt := Kt.trans K1 all0
  replace E := E.keep K1
  replace Fc := Fc.keep K1 nin0
  replace Fv := Fv.keep K1 nin0
  replace M := M.mv C1
  have nab : @Ne Nat a b := by omega
  refine s_astore (pc' := 41) W #[rv a, rv d, iv (0 : Int32), iv (Int32.ofNat n), .val .null, rv b] d_jdk_42_method_149_39 rfl rfl rfl ?_
  refine s_aload_n (pc' := 42) W d_jdk_42_method_149_41 rfl rfl rfl ?_
  refine s_aload (pc' := 44) W d_jdk_42_method_149_42 rfl rfl rfl ?_
  refine s_iload_n (pc' := 45) W d_jdk_42_method_149_44 rfl rfl ?_
  rcases V_b with ⟨hL, V_b⟩ | V_b
  · refine s_static (pc' := 48) W (w23 hw) (w24 hw) (w17 hw) (w25 hw) (by decide) pd6 [(.ref b), (.int (Int32.ofNat n))] rfl (c_coderfrom l hw W.old V_b) all0 rfl d_jdk_42_method_149_45 1 (le rfl) (bl rfl) (bl rfl) (by (try dsimp only) <;> omega) (by (try dsimp only) <;> omega) rfl ?_
    rintro _ T vm _ W C2 ⟨rfl, rfl⟩
    replace M := M.mv C2
    refine s_putfn (pc' := 51) W (w26 hw) Via.refl Fc E M (Or.inr ⟨(w27 hw), rfl, rfl⟩) (w1 hw) (ty := .byte) (v' := .int 0) (by decide) rfl rfl d_jdk_42_method_149_48 rfl ?_
    intro T h W K3 C3 Wr3 Fn3
    replace Fv := Fv.other Wr3 (Or.inr (slot_ne (Or.inr (w29 hw)) (Or.inr (w27 hw)) (by decide) (by decide : parseFieldDescriptor "[B" = some (.array .byte)) (by decide : parseFieldDescriptor "B" = some .byte)))
    replace Kt := Kt.trans K3 (allS (P := fun x => _ ∨ _) (Or.inl (by simp)) all0)
    replace E := E.keep K3
    replace M := M.mv C3
    replace V_b := V_b.keep K3 (ninS (Ne.symm nab) nin0)
    have Fc := Fn3
    clear Fn3
    refine s_aload_n (pc' := 52) W d_jdk_42_method_149_51 rfl rfl rfl ?_
    refine s_aload (pc' := 54) W d_jdk_42_method_149_52 rfl rfl rfl ?_
    refine s_putf (pc' := 57) W (w28 hw) Via.refl Fv E M (Or.inr ⟨(w29 hw), rfl, rfl⟩) (w1 hw) (ty := (.array .byte)) (by decide) rfl rfl d_jdk_42_method_149_54 rfl ?_
    intro T h W K4 C4 Wr4 Fn4
    replace Fc := Fc.other Wr4 (Or.inr (slot_ne (Or.inr (w27 hw)) (Or.inr (w29 hw)) (by decide) (by decide : parseFieldDescriptor "B" = some .byte) (by decide : parseFieldDescriptor "[B" = some (.array .byte))))
    replace Kt := Kt.trans K4 (allS (P := fun x => _ ∨ _) (Or.inl (by simp)) all0)
    replace E := E.keep K4
    replace M := M.mv C4
    replace V_b := V_b.keep K4 (ninS (Ne.symm nab) nin0)
    have Fv := Fn4
    clear Fn4
    refine s_ret W rfl d_jdk_42_method_149_57 (by (try dsimp only) <;> omega) (by (try dsimp only) <;> omega) ?_
    intro vm' C'
    exact ⟨rfl, Kt, b, kb, Or.inl ⟨E, Fc, Fv, by rw [hn]; exact V_b, hL, by omega⟩⟩
  · refine s_static (pc' := 48) W (w23 hw) (w24 hw) (w17 hw) (w25 hw) (by decide) pd6 [(.ref b), (.int (Int32.ofNat n))] rfl (c_coderfromU l hw W.old hbig hpos V_b) all0 rfl d_jdk_42_method_149_45 1 (le rfl) (bl rfl) (bl rfl) (by (try dsimp only) <;> omega) (by (try dsimp only) <;> omega) rfl ?_
    rintro _ T vm _ W C5 ⟨rfl, rfl⟩
    replace M := M.mv C5
    refine s_putfn (pc' := 51) W (w26 hw) Via.refl Fc E M (Or.inr ⟨(w27 hw), rfl, rfl⟩) (w1 hw) (ty := .byte) (v' := .int 1) (by decide) rfl rfl d_jdk_42_method_149_48 rfl ?_
    intro T h W K6 C6 Wr6 Fn6
    replace Fv := Fv.other Wr6 (Or.inr (slot_ne (Or.inr (w29 hw)) (Or.inr (w27 hw)) (by decide) (by decide : parseFieldDescriptor "[B" = some (.array .byte)) (by decide : parseFieldDescriptor "B" = some .byte)))
    replace Kt := Kt.trans K6 (allS (P := fun x => _ ∨ _) (Or.inl (by simp)) all0)
    replace E := E.keep K6
    replace M := M.mv C6
    replace V_b := V_b.keep K6 (ninS (Ne.symm nab) nin0)
    have Fc := Fn6
    clear Fn6
    refine s_aload_n (pc' := 52) W d_jdk_42_method_149_51 rfl rfl rfl ?_
    refine s_aload (pc' := 54) W d_jdk_42_method_149_52 rfl rfl rfl ?_
    refine s_putf (pc' := 57) W (w28 hw) Via.refl Fv E M (Or.inr ⟨(w29 hw), rfl, rfl⟩) (w1 hw) (ty := (.array .byte)) (by decide) rfl rfl d_jdk_42_method_149_54 rfl ?_
    intro T h W K7 C7 Wr7 Fn7
    replace Fc := Fc.other Wr7 (Or.inr (slot_ne (Or.inr (w27 hw)) (Or.inr (w29 hw)) (by decide) (by decide : parseFieldDescriptor "B" = some .byte) (by decide : parseFieldDescriptor "[B" = some (.array .byte))))
    replace Kt := Kt.trans K7 (allS (P := fun x => _ ∨ _) (Or.inl (by simp)) all0)
    replace E := E.keep K7
    replace M := M.mv C7
    replace V_b := V_b.keep K7 (ninS (Ne.symm nab) nin0)
    have Fv := Fn7
    clear Fn7
    refine s_ret W rfl d_jdk_42_method_149_57 (by (try dsimp only) <;> omega) (by (try dsimp only) <;> omega) ?_
    intro vm' C'
    exact ⟨rfl, Kt, b, kb, Or.inr ⟨E, Fc, Fv, by rw [hn]; exact V_b, hC, by omega, by omega⟩⟩
theorem ef_strinitG (m : MethodId) (x0 : Addr) (x1 : Addr) : entryFrame m #[(.ref x0), (.ref x1)] 2 = mkF m 0 #[.val (.ref x0), .val (.ref x1)] [] := by first | (simp [entryFrame, mkF, argsToLocals, Value.category]; done) | rfl
set_option maxRecDepth 65536 in
set_option maxHeartbeats 40000000 in
theorem c_strinitG (l : Launch) {Z : State} {a0 : Array Value} (hw : Hw Z a0) {n0 : Nat} {h : Heap} (O : Old Z n0 h) {a : Nat} {cs : List Int32} {n : Nat} (CS0 : CS Z) (US : U16S Z) (hn : cs.length = n) (hbig : n ≤ 4096) (hpos : 0 < n) (hC : ∀ c ∈ cs, C16 c) (E : Exa Z h a "java/lang/String") (M0 : n0 ≤ a) (Ma : a < h.size) (Fc : Fld Z h a "java/lang/String" "coder" "B" (.int 0)) (Fv : Fld Z h a "java/lang/String" "value" "[B" .null) {d : Nat} {kd : ClassId} (A : Arv Z h d kd .char (Int32.ofNat n) (cs.map cv) (.int 0)) :
    Con l Z EL1 n0 (⟨"java/lang/String", "<init>", "([C)V"⟩ : MethodName) jdk_42_method_3_code 2 none [] ({ frames := 5, cells := 2, slots := 3 * n, locals := 74 } : Room) #[(.ref a), (.ref d)] h [a] (fun v vm' h' => v = none ∧ Keep h h' [a] ∧ ∃ b kb, LatB Z h' a b kb cs ∨ U16B Z h' a b kb cs) := by
  refine Con.of pn9 O (el hw) ?_
  intro p e s m below meth c T W hs hSf
  rw [ef_strinitG]
  have Sa := hSf a (by simp)
  refine s_aload_n (pc' := 1) W d_jdk_42_method_3_0 rfl rfl rfl ?_
  refine s_aload_n (pc' := 2) W d_jdk_42_method_3_1 rfl rfl rfl ?_
  refine s_iconst (pc' := 3) W (0 : Int32) d_jdk_42_method_3_2 rfl rfl ?_
  refine s_aload_n (pc' := 4) W d_jdk_42_method_3_3 rfl rfl rfl ?_
  refine s_alen (pc' := 5) W A d_jdk_42_method_3_4 rfl ?_
  refine s_aconst_null (pc' := 6) W d_jdk_42_method_3_5 rfl ?_
  refine s_init (pc' := 9) W rfl (w7 hw) (w8 hw) (w2 hw) (w10 hw) (by decide) pd7 [(.ref d), (.int (0 : Int32)), (.int (Int32.ofNat n)), .null] rfl (c_strinit4G l hw W.old CS0 US hn hbig hpos hC E M0 Ma Fc Fv A) (allS ⟨Ma, Sa⟩ all0) rfl d_jdk_42_method_3_6 0 (le rfl) (bl rfl) (bl rfl) (by (try dsimp only) <;> omega) (by (try dsimp only) <;> omega) rfl ?_
  rintro _ T vm h W C1 ⟨rfl, K1, L⟩
  refine s_ret W rfl d_jdk_42_method_3_9 (by (try dsimp only) <;> omega) (by (try dsimp only) <;> omega) ?_
  intro vm' C'
  exact ⟨rfl, K1, L⟩
theorem ef_isempty (m : MethodId) (x0 : Addr) : entryFrame m #[(.ref x0)] 1 = mkF m 0 #[.val (.ref x0)] [] := by first | (simp [entryFrame, mkF, argsToLocals, Value.category]; done) | rfl
set_option maxRecDepth 65536 in
set_option maxHeartbeats 40000000 in
theorem c_isempty (l : Launch) {Z : State} {a0 : Array Value} (hw : Hw Z a0) {n0 : Nat} {h : Heap} (O : Old Z n0 h) {a b : Nat} {kb : ClassId} {cs : List Int32} (F : LatB Z h a b kb cs) :
    Con l Z EL1 n0 (⟨"java/lang/String", "isEmpty", "()Z"⟩ : MethodName) jdk_42_method_55_code 1 (some .boolean) [] ({ frames := 0, cells := 0, slots := 0, locals := 0 } : Room) #[(.ref a)] h [] (fun v vm' h' => v = some (.int (if cs.length = 0 then 1 else 0)) ∧ h = h') := by
  refine Con.of pn10 O (el hw) ?_
  intro p e s m below meth c T W hs hSf
  rw [ef_isempty]
  refine s_aload_n (pc' := 1) W d_jdk_42_method_55_0 rfl rfl rfl ?_
  refine s_getf (pc' := 4) W (w28 hw) Via.refl F.2.2.1 d_jdk_42_method_55_1 rfl ?_
  intro T W
  refine s_alen (pc' := 5) W F.2.2.2.1 d_jdk_42_method_55_4 rfl ?_
  refine s_ifne (pc' := 8) (pcT := 12) W d_jdk_42_method_55_5 (by decide) rfl rfl (fun hz => ?_) (fun hz => ?_)
  · refine s_iconst (pc' := 13) W (0 : Int32) d_jdk_42_method_55_12 rfl rfl ?_
    refine s_nreturn W (t := .boolean) rfl (by simp) d_jdk_42_method_55_13 (bl rfl) (bl rfl) ?_
    intro vm' C'
    exact ⟨by rw [if_neg (fun q => hz (by rw [q]; rfl))]; rfl, rfl⟩
  · refine s_iconst (pc' := 9) W (1 : Int32) d_jdk_42_method_55_8 rfl rfl ?_
    refine s_goto (pc' := 13) W d_jdk_42_method_55_9 (by decide) rfl ?_
    refine s_nreturn W (t := .boolean) rfl (by simp) d_jdk_42_method_55_13 (bl rfl) (bl rfl) ?_
    intro vm' C'
    exact ⟨by rw [if_pos (n_inj (j := 0) F.2.2.2.2.2 (by decide) hz)]; rfl, rfl⟩
theorem ef_isemptyU (m : MethodId) (x0 : Addr) : entryFrame m #[(.ref x0)] 1 = mkF m 0 #[.val (.ref x0)] [] := by first | (simp [entryFrame, mkF, argsToLocals, Value.category]; done) | rfl
set_option maxRecDepth 65536 in
set_option maxHeartbeats 40000000 in
theorem c_isemptyU (l : Launch) {Z : State} {a0 : Array Value} (hw : Hw Z a0) {n0 : Nat} {h : Heap} (O : Old Z n0 h) {a b : Nat} {kb : ClassId} {cs : List Int32} (F : U16B Z h a b kb cs) :
    Con l Z EL1 n0 (⟨"java/lang/String", "isEmpty", "()Z"⟩ : MethodName) jdk_42_method_55_code 1 (some .boolean) [] ({ frames := 0, cells := 0, slots := 0, locals := 0 } : Room) #[(.ref a)] h [] (fun v vm' h' => v = some (.int 0) ∧ h = h') := by
  refine Con.of pn10 O (el hw) ?_
  intro p e s m below meth c T W hs hSf
  rw [ef_isemptyU]
  refine s_aload_n (pc' := 1) W d_jdk_42_method_55_0 rfl rfl rfl ?_
  refine s_getf (pc' := 4) W (w28 hw) Via.refl F.2.2.1 d_jdk_42_method_55_1 rfl ?_
  intro T W
  refine s_alen (pc' := 5) W F.2.2.2.1 d_jdk_42_method_55_4 rfl ?_
  refine s_ifne (pc' := 8) (pcT := 12) W d_jdk_42_method_55_5 (by decide) rfl rfl (fun _ => ?_) (fun hq => absurd hq (fun q => by have := F.2.2.2.2.2; have := n_inj (i := 2 * cs.length) (j := 0) (by omega) (by decide) q; omega))
  refine s_iconst (pc' := 13) W (0 : Int32) d_jdk_42_method_55_12 rfl rfl ?_
  refine s_nreturn W (t := .boolean) rfl (by simp) d_jdk_42_method_55_13 (bl rfl) (bl rfl) ?_
  intro vm' C'
  exact ⟨rfl, rfl⟩
theorem ef_strcoder (m : MethodId) (x0 : Addr) : entryFrame m #[(.ref x0)] 1 = mkF m 0 #[.val (.ref x0)] [] := by first | (simp [entryFrame, mkF, argsToLocals, Value.category]; done) | rfl
set_option maxRecDepth 65536 in
set_option maxHeartbeats 40000000 in
theorem c_strcoder (l : Launch) {Z : State} {a0 : Array Value} (hw : Hw Z a0) {n0 : Nat} {h : Heap} (O : Old Z n0 h) (CS0 : CS Z) {a b : Nat} {kb : ClassId} {cs : List Int32} (F : LatB Z h a b kb cs) :
    Con l Z EL1 n0 (⟨"java/lang/String", "coder", "()B"⟩ : MethodName) jdk_42_method_152_code 1 (some .byte) [] ({ frames := 0, cells := 0, slots := 0, locals := 0 } : Room) #[(.ref a)] h [] (fun v vm' h' => v = some (.int 0) ∧ h = h') := by
  refine Con.of pn11 O (el hw) ?_
  intro p e s m below meth c T W hs hSf
  rw [ef_strcoder]
  obtain ⟨vc, Sc, hvc⟩ := CS0
  refine s_gets (pc' := 3) W (w14 hw) Via.refl Sc d_jdk_42_method_152_0 rfl ?_
  intro T W
  refine s_ifeq (pc' := 6) (pcT := 13) W d_jdk_42_method_152_3 (by decide) rfl rfl (fun hq => absurd hq hvc) (fun _ => ?_)
  refine s_aload_n (pc' := 7) W d_jdk_42_method_152_6 rfl rfl rfl ?_
  refine s_getf (pc' := 10) W (w26 hw) Via.refl F.2.1 d_jdk_42_method_152_7 rfl ?_
  intro T W
  refine s_goto (pc' := 14) W d_jdk_42_method_152_10 (by decide) rfl ?_
  refine s_nreturn W (t := .byte) rfl (by simp) d_jdk_42_method_152_14 (bl rfl) (bl rfl) ?_
  intro vm' C'
  exact ⟨rfl, rfl⟩
theorem ef_strcoderU (m : MethodId) (x0 : Addr) : entryFrame m #[(.ref x0)] 1 = mkF m 0 #[.val (.ref x0)] [] := by first | (simp [entryFrame, mkF, argsToLocals, Value.category]; done) | rfl
set_option maxRecDepth 65536 in
set_option maxHeartbeats 40000000 in
theorem c_strcoderU (l : Launch) {Z : State} {a0 : Array Value} (hw : Hw Z a0) {n0 : Nat} {h : Heap} (O : Old Z n0 h) (CS0 : CS Z) {a b : Nat} {kb : ClassId} {cs : List Int32} (F : U16B Z h a b kb cs) :
    Con l Z EL1 n0 (⟨"java/lang/String", "coder", "()B"⟩ : MethodName) jdk_42_method_152_code 1 (some .byte) [] ({ frames := 0, cells := 0, slots := 0, locals := 0 } : Room) #[(.ref a)] h [] (fun v vm' h' => v = some (.int 1) ∧ h = h') := by
  refine Con.of pn11 O (el hw) ?_
  intro p e s m below meth c T W hs hSf
  rw [ef_strcoderU]
  obtain ⟨vc, Sc, hvc⟩ := CS0
  refine s_gets (pc' := 3) W (w14 hw) Via.refl Sc d_jdk_42_method_152_0 rfl ?_
  intro T W
  refine s_ifeq (pc' := 6) (pcT := 13) W d_jdk_42_method_152_3 (by decide) rfl rfl (fun hq => absurd hq hvc) (fun _ => ?_)
  refine s_aload_n (pc' := 7) W d_jdk_42_method_152_6 rfl rfl rfl ?_
  refine s_getf (pc' := 10) W (w26 hw) Via.refl F.2.1 d_jdk_42_method_152_7 rfl ?_
  intro T W
  refine s_goto (pc' := 14) W d_jdk_42_method_152_10 (by decide) rfl ?_
  refine s_nreturn W (t := .byte) rfl (by simp) d_jdk_42_method_152_14 (bl rfl) (bl rfl) ?_
  intro vm' C'
  exact ⟨rfl, rfl⟩
theorem ef_strlength (m : MethodId) (x0 : Addr) : entryFrame m #[(.ref x0)] 1 = mkF m 0 #[.val (.ref x0)] [] := by first | (simp [entryFrame, mkF, argsToLocals, Value.category]; done) | rfl
set_option maxRecDepth 65536 in
set_option maxHeartbeats 40000000 in
theorem c_strlength (l : Launch) {Z : State} {a0 : Array Value} (hw : Hw Z a0) {n0 : Nat} {h : Heap} (O : Old Z n0 h) (CS0 : CS Z) {a b : Nat} {kb : ClassId} {cs : List Int32} (F : LatB Z h a b kb cs) :
    Con l Z EL1 n0 (⟨"java/lang/String", "length", "()I"⟩ : MethodName) jdk_42_method_54_code 1 (some .int) [] ({ frames := 1, cells := 0, slots := 0, locals := 13 } : Room) #[(.ref a)] h [] (fun v vm' h' => v = some (.int (Int32.ofNat cs.length)) ∧ h = h') := by
  refine Con.of pn12 O (el hw) ?_
  intro p e s m below meth c T W hs hSf
  rw [ef_strlength]
  refine s_aload_n (pc' := 1) W d_jdk_42_method_54_0 rfl rfl rfl ?_
  refine s_getf (pc' := 4) W (w28 hw) Via.refl F.2.2.1 d_jdk_42_method_54_1 rfl ?_
  intro T W
  refine s_alen (pc' := 5) W F.2.2.2.1 d_jdk_42_method_54_4 rfl ?_
  refine s_aload_n (pc' := 6) W d_jdk_42_method_54_5 rfl rfl rfl ?_
  refine s_virt (pc' := 9) W (C0 := "java/lang/String") (w51 hw) (w52 hw) (w54 hw) (w53 hw) (w2 hw) (w55 hw) (notFace_of_selects (args := a0) (w54 hw)) (by decide) pd8 [] rfl F.1 (c_strcoder l hw W.old CS0 F) all0 rfl d_jdk_42_method_54_6 1 (le rfl) (bl rfl) (bl rfl) (bl rfl) (bl rfl) rfl ?_
  rintro _ T vm _ W C1 ⟨rfl, rfl⟩
  refine s_ishr (pc' := 10) W d_jdk_42_method_54_9 rfl ?_
  refine s_ireturn W rfl d_jdk_42_method_54_10 (bl rfl) (bl rfl) ?_
  intro vm' C'
  exact ⟨by rw [shr0], rfl⟩
theorem ef_strlengthU (m : MethodId) (x0 : Addr) : entryFrame m #[(.ref x0)] 1 = mkF m 0 #[.val (.ref x0)] [] := by first | (simp [entryFrame, mkF, argsToLocals, Value.category]; done) | rfl
set_option maxRecDepth 65536 in
set_option maxHeartbeats 40000000 in
theorem c_strlengthU (l : Launch) {Z : State} {a0 : Array Value} (hw : Hw Z a0) {n0 : Nat} {h : Heap} (O : Old Z n0 h) (CS0 : CS Z) {a b : Nat} {kb : ClassId} {cs : List Int32} (F : U16B Z h a b kb cs) :
    Con l Z EL1 n0 (⟨"java/lang/String", "length", "()I"⟩ : MethodName) jdk_42_method_54_code 1 (some .int) [] ({ frames := 1, cells := 0, slots := 0, locals := 13 } : Room) #[(.ref a)] h [] (fun v vm' h' => v = some (.int (Int32.ofNat cs.length)) ∧ h = h') := by
  refine Con.of pn12 O (el hw) ?_
  intro p e s m below meth c T W hs hSf
  rw [ef_strlengthU]
  refine s_aload_n (pc' := 1) W d_jdk_42_method_54_0 rfl rfl rfl ?_
  refine s_getf (pc' := 4) W (w28 hw) Via.refl F.2.2.1 d_jdk_42_method_54_1 rfl ?_
  intro T W
  refine s_alen (pc' := 5) W F.2.2.2.1 d_jdk_42_method_54_4 rfl ?_
  refine s_aload_n (pc' := 6) W d_jdk_42_method_54_5 rfl rfl rfl ?_
  refine s_virt (pc' := 9) W (C0 := "java/lang/String") (w51 hw) (w52 hw) (w54 hw) (w53 hw) (w2 hw) (w55 hw) (notFace_of_selects (args := a0) (w54 hw)) (by decide) pd8 [] rfl F.1 (c_strcoderU l hw W.old CS0 F) all0 rfl d_jdk_42_method_54_6 1 (le rfl) (bl rfl) (bl rfl) (bl rfl) (bl rfl) rfl ?_
  rintro _ T vm _ W C1 ⟨rfl, rfl⟩
  refine s_ishr (pc' := 10) W d_jdk_42_method_54_9 rfl ?_
  refine s_ireturn W rfl d_jdk_42_method_54_10 (bl rfl) (bl rfl) ?_
  intro vm' C'
  exact ⟨by rw [n_shr1 F.2.2.2.2.2.1], rfl⟩
theorem ef_islatin1 (m : MethodId) (x0 : Addr) : entryFrame m #[(.ref x0)] 1 = mkF m 0 #[.val (.ref x0)] [] := by first | (simp [entryFrame, mkF, argsToLocals, Value.category]; done) | rfl
set_option maxRecDepth 65536 in
set_option maxHeartbeats 40000000 in
theorem c_islatin1 (l : Launch) {Z : State} {a0 : Array Value} (hw : Hw Z a0) {n0 : Nat} {h : Heap} (O : Old Z n0 h) (CS0 : CS Z) {a b : Nat} {kb : ClassId} {cs : List Int32} (F : LatB Z h a b kb cs) :
    Con l Z EL1 n0 (⟨"java/lang/String", "isLatin1", "()Z"⟩ : MethodName) jdk_42_method_154_code 1 (some .boolean) [] ({ frames := 0, cells := 0, slots := 0, locals := 0 } : Room) #[(.ref a)] h [] (fun v vm' h' => v = some (.int 1) ∧ h = h') := by
  refine Con.of pn13 O (el hw) ?_
  intro p e s m below meth c T W hs hSf
  rw [ef_islatin1]
  obtain ⟨vc, Sc, hvc⟩ := CS0
  refine s_gets (pc' := 3) W (w14 hw) Via.refl Sc d_jdk_42_method_154_0 rfl ?_
  intro T W
  refine s_ifeq (pc' := 6) (pcT := 17) W d_jdk_42_method_154_3 (by decide) rfl rfl (fun hq => absurd hq hvc) (fun _ => ?_)
  refine s_aload_n (pc' := 7) W d_jdk_42_method_154_6 rfl rfl rfl ?_
  refine s_getf (pc' := 10) W (w26 hw) Via.refl F.2.1 d_jdk_42_method_154_7 rfl ?_
  intro T W
  refine s_ifne (pc' := 13) (pcT := 17) W d_jdk_42_method_154_10 (by decide) rfl rfl (fun hq => absurd (by decide) hq) (fun _ => ?_)
  refine s_iconst (pc' := 14) W (1 : Int32) d_jdk_42_method_154_13 rfl rfl ?_
  refine s_goto (pc' := 18) W d_jdk_42_method_154_14 (by decide) rfl ?_
  refine s_nreturn W (t := .boolean) rfl (by simp) d_jdk_42_method_154_18 (bl rfl) (bl rfl) ?_
  intro vm' C'
  exact ⟨rfl, rfl⟩
theorem ef_islatin1U (m : MethodId) (x0 : Addr) : entryFrame m #[(.ref x0)] 1 = mkF m 0 #[.val (.ref x0)] [] := by first | (simp [entryFrame, mkF, argsToLocals, Value.category]; done) | rfl
set_option maxRecDepth 65536 in
set_option maxHeartbeats 40000000 in
theorem c_islatin1U (l : Launch) {Z : State} {a0 : Array Value} (hw : Hw Z a0) {n0 : Nat} {h : Heap} (O : Old Z n0 h) (CS0 : CS Z) {a b : Nat} {kb : ClassId} {cs : List Int32} (F : U16B Z h a b kb cs) :
    Con l Z EL1 n0 (⟨"java/lang/String", "isLatin1", "()Z"⟩ : MethodName) jdk_42_method_154_code 1 (some .boolean) [] ({ frames := 0, cells := 0, slots := 0, locals := 0 } : Room) #[(.ref a)] h [] (fun v vm' h' => v = some (.int 0) ∧ h = h') := by
  refine Con.of pn13 O (el hw) ?_
  intro p e s m below meth c T W hs hSf
  rw [ef_islatin1U]
  obtain ⟨vc, Sc, hvc⟩ := CS0
  refine s_gets (pc' := 3) W (w14 hw) Via.refl Sc d_jdk_42_method_154_0 rfl ?_
  intro T W
  refine s_ifeq (pc' := 6) (pcT := 17) W d_jdk_42_method_154_3 (by decide) rfl rfl (fun hq => absurd hq hvc) (fun _ => ?_)
  refine s_aload_n (pc' := 7) W d_jdk_42_method_154_6 rfl rfl rfl ?_
  refine s_getf (pc' := 10) W (w26 hw) Via.refl F.2.1 d_jdk_42_method_154_7 rfl ?_
  intro T W
  refine s_ifne (pc' := 13) (pcT := 17) W d_jdk_42_method_154_10 (by decide) rfl rfl (fun _ => ?_) (fun hq => absurd hq (by decide))
  refine s_iconst (pc' := 18) W (0 : Int32) d_jdk_42_method_154_17 rfl rfl ?_
  refine s_nreturn W (t := .boolean) rfl (by simp) d_jdk_42_method_154_18 (bl rfl) (bl rfl) ?_
  intro vm' C'
  exact ⟨rfl, rfl⟩
theorem ef_pchkN (m : MethodId) (x0 : Int32) (x1 : Int32) : entryFrame m #[(.int x0), (.int x1), .null] 3 = mkF m 0 #[.val (.int x0), .val (.int x1), .val .null] [] := by first | (simp [entryFrame, mkF, argsToLocals, Value.category]; done) | rfl
set_option maxRecDepth 65536 in
set_option maxHeartbeats 40000000 in
theorem c_pchkN (l : Launch) {Z : State} {a0 : Array Value} (hw : Hw Z a0) {n0 : Nat} {h : Heap} (O : Old Z n0 h) {i z : Int32} (h0 : ¬ i < 0) (h1 : i < z) :
    Con l Z EL1 n0 (⟨"jdk/internal/util/Preconditions", "checkIndex", "(IILjava/util/function/BiFunction;)I"⟩ : MethodName) jdk_41_method_11_code 3 (some .int) [] ({ frames := 0, cells := 0, slots := 0, locals := 0 } : Room) #[(.int i), (.int z), .null] h [] (fun v vm' h' => v = some (.int i) ∧ h = h') := by
  refine Con.of pn14 O (el hw) ?_
  intro p e s m below meth c T W hs hSf
  rw [ef_pchkN]
  refine s_iload_n (pc' := 1) W d_jdk_41_method_11_0 rfl rfl ?_
  refine s_iflt (pc' := 4) (pcT := 9) W d_jdk_41_method_11_1 (by decide) rfl rfl (fun hq => absurd hq h0) (fun _ => ?_)
  refine s_iload_n (pc' := 5) W d_jdk_41_method_11_4 rfl rfl ?_
  refine s_iload_n (pc' := 6) W d_jdk_41_method_11_5 rfl rfl ?_
  refine s_icmplt (pc' := 9) (pcT := 16) W d_jdk_41_method_11_6 (by decide) rfl rfl (fun _ => ?_) (fun hq => absurd h1 hq)
  refine s_iload_n (pc' := 17) W d_jdk_41_method_11_16 rfl rfl ?_
  refine s_ireturn W rfl d_jdk_41_method_11_17 (bl rfl) (bl rfl) ?_
  intro vm' C'
  exact ⟨rfl, rfl⟩
theorem ef_pchkR (m : MethodId) (x0 : Int32) (x1 : Int32) (x2 : Addr) : entryFrame m #[(.int x0), (.int x1), (.ref x2)] 3 = mkF m 0 #[.val (.int x0), .val (.int x1), .val (.ref x2)] [] := by first | (simp [entryFrame, mkF, argsToLocals, Value.category]; done) | rfl
set_option maxRecDepth 65536 in
set_option maxHeartbeats 40000000 in
theorem c_pchkR (l : Launch) {Z : State} {a0 : Array Value} (hw : Hw Z a0) {n0 : Nat} {h : Heap} (O : Old Z n0 h) {i z : Int32} {f : Nat} (h0 : ¬ i < 0) (h1 : i < z) :
    Con l Z EL1 n0 (⟨"jdk/internal/util/Preconditions", "checkIndex", "(IILjava/util/function/BiFunction;)I"⟩ : MethodName) jdk_41_method_11_code 3 (some .int) [] ({ frames := 0, cells := 0, slots := 0, locals := 0 } : Room) #[(.int i), (.int z), (.ref f)] h [] (fun v vm' h' => v = some (.int i) ∧ h = h') := by
  refine Con.of pn14 O (el hw) ?_
  intro p e s m below meth c T W hs hSf
  rw [ef_pchkR]
  refine s_iload_n (pc' := 1) W d_jdk_41_method_11_0 rfl rfl ?_
  refine s_iflt (pc' := 4) (pcT := 9) W d_jdk_41_method_11_1 (by decide) rfl rfl (fun hq => absurd hq h0) (fun _ => ?_)
  refine s_iload_n (pc' := 5) W d_jdk_41_method_11_4 rfl rfl ?_
  refine s_iload_n (pc' := 6) W d_jdk_41_method_11_5 rfl rfl ?_
  refine s_icmplt (pc' := 9) (pcT := 16) W d_jdk_41_method_11_6 (by decide) rfl rfl (fun _ => ?_) (fun hq => absurd h1 hq)
  refine s_iload_n (pc' := 17) W d_jdk_41_method_11_16 rfl rfl ?_
  refine s_ireturn W rfl d_jdk_41_method_11_17 (bl rfl) (bl rfl) ?_
  intro vm' C'
  exact ⟨rfl, rfl⟩
theorem ef_schk (m : MethodId) (x0 : Int32) (x1 : Int32) : entryFrame m #[(.int x0), (.int x1)] 2 = mkF m 0 #[.val (.int x0), .val (.int x1)] [] := by first | (simp [entryFrame, mkF, argsToLocals, Value.category]; done) | rfl
set_option maxRecDepth 65536 in
set_option maxHeartbeats 40000000 in
theorem c_schk (l : Launch) {Z : State} {a0 : Array Value} (hw : Hw Z a0) {n0 : Nat} {h : Heap} (O : Old Z n0 h) (FM : Fmt Z) {i z : Int32} (h0 : ¬ i < 0) (h1 : i < z) :
    Con l Z EL1 n0 (⟨"java/lang/String", "checkIndex", "(II)V"⟩ : MethodName) jdk_42_method_155_code 2 none [] ({ frames := 1, cells := 0, slots := 0, locals := 14 } : Room) #[(.int i), (.int z)] h [] (fun v vm' h' => v = none ∧ h = h') := by
  refine Con.of pn15 O (el hw) ?_
  intro p e s m below meth c T W hs hSf
  rw [ef_schk]
  obtain ⟨vf, Sf, hvf⟩ := FM
  refine s_iload_n (pc' := 1) W d_jdk_42_method_155_0 rfl rfl ?_
  refine s_iload_n (pc' := 2) W d_jdk_42_method_155_1 rfl rfl ?_
  refine s_gets (pc' := 5) W (w73 hw) Via.refl Sf d_jdk_42_method_155_2 rfl ?_
  intro T W
  rcases ref_cases hvf with rfl | ⟨f, rfl⟩
  · refine s_static (pc' := 8) W (w75 hw) (w76 hw) (w74 hw) (w77 hw) (by decide) pd9 [(.int i), (.int z), .null] rfl (c_pchkN l hw W.old h0 h1) all0 rfl d_jdk_42_method_155_5 0 (le rfl) (bl rfl) (bl rfl) (bl rfl) (bl rfl) rfl ?_
    rintro _ T vm _ W C1 ⟨rfl, rfl⟩
    refine s_pop (pc' := 9) W d_jdk_42_method_155_8 rfl rfl ?_
    refine s_ret W rfl d_jdk_42_method_155_9 (bl rfl) (bl rfl) ?_
    intro vm' C'
    exact ⟨rfl, rfl⟩
  · refine s_static (pc' := 8) W (w75 hw) (w76 hw) (w74 hw) (w77 hw) (by decide) pd9 [(.int i), (.int z), (.ref f)] rfl (c_pchkR l hw W.old h0 h1) all0 rfl d_jdk_42_method_155_5 0 (le rfl) (bl rfl) (bl rfl) (bl rfl) (bl rfl) rfl ?_
    rintro _ T vm _ W C2 ⟨rfl, rfl⟩
    refine s_pop (pc' := 9) W d_jdk_42_method_155_8 rfl rfl ?_
    refine s_ret W rfl d_jdk_42_method_155_9 (bl rfl) (bl rfl) ?_
    intro vm' C'
    exact ⟨rfl, rfl⟩
theorem ef_l1charat (m : MethodId) (x0 : Addr) (x1 : Int32) : entryFrame m #[(.ref x0), (.int x1)] 2 = mkF m 0 #[.val (.ref x0), .val (.int x1)] [] := by first | (simp [entryFrame, mkF, argsToLocals, Value.category]; done) | rfl
set_option maxRecDepth 65536 in
set_option maxHeartbeats 40000000 in
theorem c_l1charat (l : Launch) {Z : State} {a0 : Array Value} (hw : Hw Z a0) {n0 : Nat} {h : Heap} (O : Old Z n0 h) (FM : Fmt Z) {b : Nat} {kb : ClassId} {cs : List Int32} {i : Nat} (A : Arv Z h b kb .byte (Int32.ofNat cs.length) (cs.map bv) (.int 0)) (hL : ∀ c ∈ cs, L1 c) (hn : cs.length < 2147483648) (hi : i < cs.length) :
    Con l Z EL1 n0 (⟨"java/lang/StringLatin1", "charAt", "([BI)C"⟩ : MethodName) jdk_43_method_2_code 2 (some .char) [] ({ frames := 2, cells := 0, slots := 0, locals := 27 } : Room) #[(.ref b), (.int (Int32.ofNat i))] h [] (fun v vm' h' => v = some (.int (cs.getD i 0)) ∧ h = h') := by
  refine Con.of pn16 O (el hw) ?_
  intro p e s m below meth c T W hs hSf
  rw [ef_l1charat]
  have hi31 : i < 2147483648 := by omega
  refine s_iload_n (pc' := 1) W d_jdk_43_method_2_0 rfl rfl ?_
  refine s_aload_n (pc' := 2) W d_jdk_43_method_2_1 rfl rfl rfl ?_
  refine s_alen (pc' := 3) W A d_jdk_43_method_2_2 rfl ?_
  refine s_static (pc' := 6) W (w70 hw) (w71 hw) (w2 hw) (w72 hw) (by decide) pd10 [(.int (Int32.ofNat i)), (.int (Int32.ofNat cs.length))] rfl (c_schk l hw W.old FM (n_nn hi31) (n_lt hi hn)) all0 rfl d_jdk_43_method_2_3 0 (le rfl) (bl rfl) (bl rfl) (bl rfl) (bl rfl) rfl ?_
  rintro _ T vm _ W C1 ⟨rfl, rfl⟩
  refine s_aload_n (pc' := 7) W d_jdk_43_method_2_6 rfl rfl rfl ?_
  refine s_iload_n (pc' := 8) W d_jdk_43_method_2_7 rfl rfl ?_
  refine s_baload (pc' := 9) W (.int (cs.getD i 0).toInt8.toInt32) A (n_nn hi31) (n_lt hi hn) (by rw [n_clamp hi31]; exact bv_getD cs i) d_jdk_43_method_2_8 rfl ?_
  refine s_sipush (pc' := 12) W (255 : Int32) d_jdk_43_method_2_9 rfl rfl ?_
  refine s_iand (pc' := 13) W d_jdk_43_method_2_12 rfl ?_
  refine s_i2c (pc' := 14) W d_jdk_43_method_2_13 rfl ?_
  refine s_nreturn W (t := .char) rfl (by simp) d_jdk_43_method_2_14 (bl rfl) (bl rfl) ?_
  intro vm' C'
  exact ⟨by have q := hL _ (mem_getD hi); rw [q.back, q.i2c, q.nar], rfl⟩
theorem ef_charatL (m : MethodId) (x0 : Addr) (x1 : Int32) : entryFrame m #[(.ref x0), (.int x1)] 2 = mkF m 0 #[.val (.ref x0), .val (.int x1)] [] := by first | (simp [entryFrame, mkF, argsToLocals, Value.category]; done) | rfl
set_option maxRecDepth 65536 in
set_option maxHeartbeats 40000000 in
theorem c_charatL (l : Launch) {Z : State} {a0 : Array Value} (hw : Hw Z a0) {n0 : Nat} {h : Heap} (O : Old Z n0 h) (CS0 : CS Z) (FM : Fmt Z) {a b : Nat} {kb : ClassId} {cs : List Int32} (F : LatB Z h a b kb cs) {i : Nat} (hi : i < cs.length) :
    Con l Z EL1 n0 (⟨"java/lang/String", "charAt", "(I)C"⟩ : MethodName) jdk_42_method_56_code 2 (some .char) [] ({ frames := 3, cells := 0, slots := 0, locals := 40 } : Room) #[(.ref a), (.int (Int32.ofNat i))] h [] (fun v vm' h' => v = some (.int (cs.getD i 0)) ∧ h = h') := by
  refine Con.of pn17 O (el hw) ?_
  intro p e s m below meth c T W hs hSf
  rw [ef_charatL]
  refine s_aload_n (pc' := 1) W d_jdk_42_method_56_0 rfl rfl rfl ?_
  refine s_virt (pc' := 4) W (C0 := "java/lang/String") (w61 hw) (w62 hw) (w64 hw) (w63 hw) (w2 hw) (w65 hw) (notFace_of_selects (args := a0) (w64 hw)) (by decide) pd11 [] rfl F.1 (c_islatin1 l hw W.old CS0 F) all0 rfl d_jdk_42_method_56_1 0 (le rfl) (bl rfl) (bl rfl) (bl rfl) (bl rfl) rfl ?_
  rintro _ T vm _ W C1 ⟨rfl, rfl⟩
  refine s_ifeq (pc' := 7) (pcT := 16) W d_jdk_42_method_56_4 (by decide) rfl rfl (fun hq => absurd hq (by decide)) (fun _ => ?_)
  refine s_aload_n (pc' := 8) W d_jdk_42_method_56_7 rfl rfl rfl ?_
  refine s_getf (pc' := 11) W (w28 hw) Via.refl F.2.2.1 d_jdk_42_method_56_8 rfl ?_
  intro T W
  refine s_iload_n (pc' := 12) W d_jdk_42_method_56_11 rfl rfl ?_
  refine s_static (pc' := 15) W (w66 hw) (w67 hw) (w68 hw) (w69 hw) (by decide) pd5 [(.ref b), (.int (Int32.ofNat i))] rfl (c_l1charat l hw W.old FM F.2.2.2.1 F.2.2.2.2.1 F.2.2.2.2.2 hi) all0 rfl d_jdk_42_method_56_12 0 (le rfl) (bl rfl) (bl rfl) (bl rfl) (bl rfl) rfl ?_
  rintro _ T vm _ W C2 ⟨rfl, rfl⟩
  refine s_nreturn W (t := .char) rfl (by simp) d_jdk_42_method_56_15 (bl rfl) (bl rfl) ?_
  intro vm' C'
  exact ⟨by rw [(F.2.2.2.2.1 _ (mem_getD hi)).nar], rfl⟩
theorem ef_u16length (m : MethodId) (x0 : Addr) : entryFrame m #[(.ref x0)] 1 = mkF m 0 #[.val (.ref x0)] [] := by first | (simp [entryFrame, mkF, argsToLocals, Value.category]; done) | rfl
set_option maxRecDepth 65536 in
set_option maxHeartbeats 40000000 in
theorem c_u16length (l : Launch) {Z : State} {a0 : Array Value} (hw : Hw Z a0) {n0 : Nat} {h : Heap} (O : Old Z n0 h) {b : Nat} {kb : ClassId} {n : Nat} {vs : List Value} (hn : n ≤ 4096) (A : Arv Z h b kb .byte (Int32.ofNat (2 * n)) vs (.int 0)) :
    Con l Z EL1 n0 (⟨"java/lang/StringUTF16", "length", "([B)I"⟩ : MethodName) jdk_52_method_6_code 1 (some .int) [] ({ frames := 0, cells := 0, slots := 0, locals := 0 } : Room) #[(.ref b)] h [] (fun v vm' h' => v = some (.int (Int32.ofNat n)) ∧ h = h') := by
  refine Con.of pn18 O (el hw) ?_
  intro p e s m below meth c T W hs hSf
  rw [ef_u16length]
  refine s_aload_n (pc' := 1) W d_jdk_52_method_6_0 rfl rfl rfl ?_
  refine s_alen (pc' := 2) W A d_jdk_52_method_6_1 rfl ?_
  refine s_iconst (pc' := 3) W (1 : Int32) d_jdk_52_method_6_2 rfl rfl ?_
  refine s_ishr (pc' := 4) W d_jdk_52_method_6_3 rfl ?_
  refine s_ireturn W rfl d_jdk_52_method_6_4 (bl rfl) (bl rfl) ?_
  intro vm' C'
  exact ⟨by rw [n_shr1 hn], rfl⟩
theorem ef_u16chk (m : MethodId) (x0 : Int32) (x1 : Addr) : entryFrame m #[(.int x0), (.ref x1)] 2 = mkF m 0 #[.val (.int x0), .val (.ref x1)] [] := by first | (simp [entryFrame, mkF, argsToLocals, Value.category]; done) | rfl
set_option maxRecDepth 65536 in
set_option maxHeartbeats 40000000 in
theorem c_u16chk (l : Launch) {Z : State} {a0 : Array Value} (hw : Hw Z a0) {n0 : Nat} {h : Heap} (O : Old Z n0 h) (FM : Fmt Z) {b : Nat} {kb : ClassId} {n i : Nat} {vs : List Value} (hn : n ≤ 4096) (A : Arv Z h b kb .byte (Int32.ofNat (2 * n)) vs (.int 0)) (hi : i < n) :
    Con l Z EL1 n0 (⟨"java/lang/StringUTF16", "checkIndex", "(I[B)V"⟩ : MethodName) jdk_52_method_91_code 2 none [] ({ frames := 2, cells := 0, slots := 0, locals := 27 } : Room) #[(.int (Int32.ofNat i)), (.ref b)] h [] (fun v vm' h' => v = none ∧ h = h') := by
  refine Con.of pn19 O (el hw) ?_
  intro p e s m below meth c T W hs hSf
  rw [ef_u16chk]
  refine s_iload_n (pc' := 1) W d_jdk_52_method_91_0 rfl rfl ?_
  refine s_aload_n (pc' := 2) W d_jdk_52_method_91_1 rfl rfl rfl ?_
  refine s_static (pc' := 5) W (w103 hw) (w104 hw) (w17 hw) (w105 hw) (by decide) pd12 [(.ref b)] rfl (c_u16length l hw W.old hn A) all0 rfl d_jdk_52_method_91_2 1 (le rfl) (bl rfl) (bl rfl) (bl rfl) (bl rfl) rfl ?_
  rintro _ T vm _ W C1 ⟨rfl, rfl⟩
  refine s_static (pc' := 8) W (w106 hw) (w71 hw) (w2 hw) (w72 hw) (by decide) pd10 [(.int (Int32.ofNat i)), (.int (Int32.ofNat n))] rfl (c_schk l hw W.old FM (n_nn (by omega)) (n_lt hi (by omega))) all0 rfl d_jdk_52_method_91_5 0 (le rfl) (bl rfl) (bl rfl) (bl rfl) (bl rfl) rfl ?_
  rintro _ T vm _ W C2 ⟨rfl, rfl⟩
  refine s_ret W rfl d_jdk_52_method_91_8 (bl rfl) (bl rfl) ?_
  intro vm' C'
  exact ⟨rfl, rfl⟩
theorem ef_u16charat (m : MethodId) (x0 : Addr) (x1 : Int32) : entryFrame m #[(.ref x0), (.int x1)] 2 = mkF m 0 #[.val (.ref x0), .val (.int x1)] [] := by first | (simp [entryFrame, mkF, argsToLocals, Value.category]; done) | rfl
set_option maxRecDepth 65536 in
set_option maxHeartbeats 40000000 in
theorem c_u16charat (l : Launch) {Z : State} {a0 : Array Value} (hw : Hw Z a0) {n0 : Nat} {h : Heap} (O : Old Z n0 h) (US : U16S Z) (FM : Fmt Z) {b : Nat} {kb : ClassId} {n i : Nat} {cs : List Int32} (hl : cs.length = n) (hn : n ≤ 4096) (A : Arv Z h b kb .byte (Int32.ofNat (2 * n)) (u2b cs) (.int 0)) (hC : ∀ c ∈ cs, C16 c) (hi : i < n) :
    Con l Z EL1 n0 (⟨"java/lang/StringUTF16", "charAt", "([BI)C"⟩ : MethodName) jdk_52_method_83_code 2 (some .char) [] ({ frames := 3, cells := 0, slots := 0, locals := 40 } : Room) #[(.ref b), (.int (Int32.ofNat i))] h [] (fun v vm' h' => v = some (.int (cs.getD i 0)) ∧ h = h') := by
  refine Con.of pn20 O (el hw) ?_
  intro p e s m below meth c T W hs hSf
  rw [ef_u16charat]
  refine s_iload_n (pc' := 1) W d_jdk_52_method_83_0 rfl rfl ?_
  refine s_aload_n (pc' := 2) W d_jdk_52_method_83_1 rfl rfl rfl ?_
  refine s_static (pc' := 5) W (w100 hw) (w101 hw) (w17 hw) (w102 hw) (by decide) pd13 [(.int (Int32.ofNat i)), (.ref b)] rfl (c_u16chk l hw W.old FM hn A hi) all0 rfl d_jdk_52_method_83_2 0 (le rfl) (bl rfl) (bl rfl) (bl rfl) (bl rfl) rfl ?_
  rintro _ T vm _ W C1 ⟨rfl, rfl⟩
  refine s_aload_n (pc' := 6) W d_jdk_52_method_83_5 rfl rfl rfl ?_
  refine s_iload_n (pc' := 7) W d_jdk_52_method_83_6 rfl rfl ?_
  refine s_static (pc' := 10) W (w94 hw) (w95 hw) (w17 hw) (w96 hw) (by decide) pd5 [(.ref b), (.int (Int32.ofNat i))] rfl (c_u16getchar l hw W.old US hl hn A hC hi) all0 rfl d_jdk_52_method_83_7 0 (le rfl) (bl rfl) (bl rfl) (bl rfl) (bl rfl) rfl ?_
  rintro _ T vm _ W C2 ⟨rfl, rfl⟩
  refine s_nreturn W (t := .char) rfl (by simp) d_jdk_52_method_83_10 (bl rfl) (bl rfl) ?_
  intro vm' C'
  exact ⟨by rw [(hC _ (mem_getD (cs := cs) (i := i) (by omega))).nar], rfl⟩
theorem ef_charatU (m : MethodId) (x0 : Addr) (x1 : Int32) : entryFrame m #[(.ref x0), (.int x1)] 2 = mkF m 0 #[.val (.ref x0), .val (.int x1)] [] := by first | (simp [entryFrame, mkF, argsToLocals, Value.category]; done) | rfl
set_option maxRecDepth 65536 in
set_option maxHeartbeats 40000000 in
theorem c_charatU (l : Launch) {Z : State} {a0 : Array Value} (hw : Hw Z a0) {n0 : Nat} {h : Heap} (O : Old Z n0 h) (CS0 : CS Z) (US : U16S Z) (FM : Fmt Z) {a b : Nat} {kb : ClassId} {cs : List Int32} (F : U16B Z h a b kb cs) {i : Nat} (hi : i < cs.length) :
    Con l Z EL1 n0 (⟨"java/lang/String", "charAt", "(I)C"⟩ : MethodName) jdk_42_method_56_code 2 (some .char) [] ({ frames := 4, cells := 0, slots := 0, locals := 53 } : Room) #[(.ref a), (.int (Int32.ofNat i))] h [] (fun v vm' h' => v = some (.int (cs.getD i 0)) ∧ h = h') := by
  refine Con.of pn17 O (el hw) ?_
  intro p e s m below meth c T W hs hSf
  rw [ef_charatU]
  refine s_aload_n (pc' := 1) W d_jdk_42_method_56_0 rfl rfl rfl ?_
  refine s_virt (pc' := 4) W (C0 := "java/lang/String") (w61 hw) (w62 hw) (w64 hw) (w63 hw) (w2 hw) (w65 hw) (notFace_of_selects (args := a0) (w64 hw)) (by decide) pd11 [] rfl F.1 (c_islatin1U l hw W.old CS0 F) all0 rfl d_jdk_42_method_56_1 0 (le rfl) (bl rfl) (bl rfl) (bl rfl) (bl rfl) rfl ?_
  rintro _ T vm _ W C1 ⟨rfl, rfl⟩
  refine s_ifeq (pc' := 7) (pcT := 16) W d_jdk_42_method_56_4 (by decide) rfl rfl (fun _ => ?_) (fun hq => absurd (by decide) hq)
  refine s_aload_n (pc' := 17) W d_jdk_42_method_56_16 rfl rfl rfl ?_
  refine s_getf (pc' := 20) W (w28 hw) Via.refl F.2.2.1 d_jdk_42_method_56_17 rfl ?_
  intro T W
  refine s_iload_n (pc' := 21) W d_jdk_42_method_56_20 rfl rfl ?_
  refine s_static (pc' := 24) W (w97 hw) (w98 hw) (w17 hw) (w99 hw) (by decide) pd5 [(.ref b), (.int (Int32.ofNat i))] rfl (c_u16charat l hw W.old US FM rfl F.2.2.2.2.2.1 F.2.2.2.1 F.2.2.2.2.1 hi) all0 rfl d_jdk_42_method_56_21 0 (le rfl) (bl rfl) (bl rfl) (bl rfl) (bl rfl) rfl ?_
  rintro _ T vm _ W C2 ⟨rfl, rfl⟩
  refine s_nreturn W (t := .char) rfl (by simp) d_jdk_42_method_56_24 (bl rfl) (bl rfl) ?_
  intro vm' C'
  exact ⟨by rw [(F.2.2.2.2.1 _ (mem_getD hi)).nar], rfl⟩
theorem ef_reqnn2 (m : MethodId) (x0 : Addr) (x1 : Addr) : entryFrame m #[(.ref x0), (.ref x1)] 2 = mkF m 0 #[.val (.ref x0), .val (.ref x1)] [] := by first | (simp [entryFrame, mkF, argsToLocals, Value.category]; done) | rfl
set_option maxRecDepth 65536 in
set_option maxHeartbeats 40000000 in
theorem c_reqnn2 (l : Launch) {Z : State} {a0 : Array Value} (hw : Hw Z a0) {n0 : Nat} {h : Heap} (O : Old Z n0 h) {a b : Nat} :
    Con l Z EL1 n0 (⟨"java/util/Objects", "requireNonNull", "(Ljava/lang/Object;Ljava/lang/String;)Ljava/lang/Object;"⟩ : MethodName) jdk_31_method_11_code 2 (some (.object "java/lang/Object")) [] ({ frames := 0, cells := 0, slots := 0, locals := 0 } : Room) #[(.ref a), (.ref b)] h [] (fun v vm' h' => v = some (.ref a) ∧ h = h') := by
  refine Con.of pn21 O (el hw) ?_
  intro p e s m below meth c T W hs hSf
  rw [ef_reqnn2]
  refine s_aload_n (pc' := 1) W d_jdk_31_method_11_0 rfl rfl rfl ?_
  refine s_ifnonnullY (pcT := 13) W d_jdk_31_method_11_1 (by decide) rfl ?_
  refine s_aload_n (pc' := 14) W d_jdk_31_method_11_13 rfl rfl rfl ?_
  refine s_areturn W rfl rfl rfl d_jdk_31_method_11_14 (bl rfl) (bl rfl) ?_
  intro vm' C'
  exact ⟨rfl, rfl⟩
theorem ef_parse (m : MethodId) (x0 : Addr) : entryFrame m #[(.ref x0)] 1 = mkF m 0 #[.val (.ref x0)] [] := by first | (simp [entryFrame, mkF, argsToLocals, Value.category]; done) | rfl
set_option maxRecDepth 65536 in
set_option maxHeartbeats 40000000 in
theorem c_parse (l : Launch) {Z : State} {a0 : Array Value} (hw : Hw Z a0) {n0 : Nat} {h : Heap} (O : Old Z n0 h) {a b : Nat} {kb : ClassId} {cs : List Int32} (F : LatB Z h a b kb cs) (hne : ¬ cs.length = 0) :
    Con l Z EL1 n0 (⟨"com/example/tynwald/tynwald/complaints/Comment", "parseText", "(Ljava/lang/String;)Ljava/lang/String;"⟩ : MethodName) prog_31_method_2_code 1 (some (.object "java/lang/String")) [] ({ frames := 1, cells := 2, slots := 20, locals := 13 } : Room) #[(.ref a)] h [] (fun v vm' h' => v = some (.ref a) ∧ Keep h h' [] ∧ LatB Z h' a b kb cs) := by
  refine Con.of pn22 O (el hw) ?_
  intro p e s m below meth c T W hs hSf
  rw [ef_parse]
  have Kt := Keep.refl h []
  refine s_aload_n (pc' := 1) W d_prog_31_method_2_0 rfl rfl rfl ?_
  refine s_ldcO (pc' := 3) W 16 (w34 hw) (wS hw) d_prog_31_method_2_1 (by decide +kernel) (by decide) (bl rfl) (bl rfl) rfl ?_
  intro e1 T vm h W K1 C1
  replace Kt := Kt.trans K1 all0
  replace F := F.kp K1 nin0
  refine s_static (pc' := 6) W (w37 hw) (w38 hw) (w39 hw) (w40 hw) (by decide) pd14 [(.ref a), (.ref e1)] rfl (c_reqnn2 l hw W.old) all0 rfl d_prog_31_method_2_3 0 (le rfl) (bl rfl) (bl rfl) (bl rfl) (bl rfl) rfl ?_
  rintro _ T vm _ W C2 ⟨rfl, rfl⟩
  refine s_pop (pc' := 7) W d_prog_31_method_2_6 rfl rfl ?_
  refine s_aload_n (pc' := 8) W d_prog_31_method_2_7 rfl rfl rfl ?_
  refine s_virt (pc' := 11) W (C0 := "java/lang/String") (w41 hw) (w42 hw) (w44 hw) (w43 hw) (w2 hw) (w45 hw) (notFace_of_selects (args := a0) (w44 hw)) (by decide) pd11 [] rfl F.1 (c_isempty l hw W.old F) all0 rfl d_prog_31_method_2_8 0 (le rfl) (bl rfl) (bl rfl) (bl rfl) (bl rfl) rfl ?_
  rintro _ T vm _ W C3 ⟨rfl, rfl⟩
  refine s_ifeq (pc' := 14) (pcT := 24) W d_prog_31_method_2_11 (by decide) rfl rfl (fun _ => ?_) (fun hq => absurd (if_neg hne) hq)
  refine s_aload_n (pc' := 25) W d_prog_31_method_2_24 rfl rfl rfl ?_
  refine s_areturn W rfl rfl rfl d_prog_31_method_2_25 (bl rfl) (bl rfl) ?_
  intro vm' C'
  exact ⟨rfl, Kt, F⟩
theorem ef_parseU (m : MethodId) (x0 : Addr) : entryFrame m #[(.ref x0)] 1 = mkF m 0 #[.val (.ref x0)] [] := by first | (simp [entryFrame, mkF, argsToLocals, Value.category]; done) | rfl
set_option maxRecDepth 65536 in
set_option maxHeartbeats 40000000 in
theorem c_parseU (l : Launch) {Z : State} {a0 : Array Value} (hw : Hw Z a0) {n0 : Nat} {h : Heap} (O : Old Z n0 h) {a b : Nat} {kb : ClassId} {cs : List Int32} (F : U16B Z h a b kb cs) (hne : ¬ cs.length = 0) :
    Con l Z EL1 n0 (⟨"com/example/tynwald/tynwald/complaints/Comment", "parseText", "(Ljava/lang/String;)Ljava/lang/String;"⟩ : MethodName) prog_31_method_2_code 1 (some (.object "java/lang/String")) [] ({ frames := 1, cells := 2, slots := 20, locals := 13 } : Room) #[(.ref a)] h [] (fun v vm' h' => v = some (.ref a) ∧ Keep h h' [] ∧ U16B Z h' a b kb cs) := by
  refine Con.of pn22 O (el hw) ?_
  intro p e s m below meth c T W hs hSf
  rw [ef_parseU]
  have Kt := Keep.refl h []
  refine s_aload_n (pc' := 1) W d_prog_31_method_2_0 rfl rfl rfl ?_
  refine s_ldcO (pc' := 3) W 16 (w34 hw) (wS hw) d_prog_31_method_2_1 (by decide +kernel) (by decide) (bl rfl) (bl rfl) rfl ?_
  intro e1 T vm h W K1 C1
  replace Kt := Kt.trans K1 all0
  replace F := F.kp K1 nin0
  refine s_static (pc' := 6) W (w37 hw) (w38 hw) (w39 hw) (w40 hw) (by decide) pd14 [(.ref a), (.ref e1)] rfl (c_reqnn2 l hw W.old) all0 rfl d_prog_31_method_2_3 0 (le rfl) (bl rfl) (bl rfl) (bl rfl) (bl rfl) rfl ?_
  rintro _ T vm _ W C2 ⟨rfl, rfl⟩
  refine s_pop (pc' := 7) W d_prog_31_method_2_6 rfl rfl ?_
  refine s_aload_n (pc' := 8) W d_prog_31_method_2_7 rfl rfl rfl ?_
  refine s_virt (pc' := 11) W (C0 := "java/lang/String") (w41 hw) (w42 hw) (w44 hw) (w43 hw) (w2 hw) (w45 hw) (notFace_of_selects (args := a0) (w44 hw)) (by decide) pd11 [] rfl F.1 (c_isemptyU l hw W.old F) all0 rfl d_prog_31_method_2_8 0 (le rfl) (bl rfl) (bl rfl) (bl rfl) (bl rfl) rfl ?_
  rintro _ T vm _ W C3 ⟨rfl, rfl⟩
  refine s_ifeq (pc' := 14) (pcT := 24) W d_prog_31_method_2_11 (by decide) rfl rfl (fun _ => ?_) (fun hq => absurd (by decide) hq)
  refine s_aload_n (pc' := 25) W d_prog_31_method_2_24 rfl rfl rfl ?_
  refine s_areturn W rfl rfl rfl d_prog_31_method_2_25 (bl rfl) (bl rfl) ?_
  intro vm' C'
  exact ⟨rfl, Kt, F⟩
theorem rem3 (x : Int32) : (x &&& 3) % 3 + 1 = 1 ∨ (x &&& 3) % 3 + 1 = 2 ∨ (x &&& 3) % 3 + 1 = 3 := by
  have q : x &&& 3 = 0 ∨ x &&& 3 = 1 ∨ x &&& 3 = 2 ∨ x &&& 3 = 3 := by
    have q := c_and x 3 (by decide)
    have e5 : (3 : Int32).toInt = 3 := rfl
    simp only [← Int32.toInt_inj]
    have e0 : (0 : Int32).toInt = 0 := rfl
    have e1 : (1 : Int32).toInt = 1 := rfl
    have e2 : (2 : Int32).toInt = 2 := rfl
    omega
  rcases q with q | q | q | q <;> rw [q] <;> decide
theorem ef_law (m : MethodId) (x0 : Int32) (x1 : Int32) (x2 : Int32) (x3 : Int32) : entryFrame m #[(.int x0), (.int x1), (.int x2), (.int x3)] maxLocals = mkF m 0 #[.val (.int x0), .val (.int x1), .val (.int x2), .val (.int x3), .unset, .unset, .unset, .unset, .unset, .unset] [] := by first | (simp [entryFrame, mkF, argsToLocals, Value.category]; done) | rfl
set_option maxRecDepth 65536 in
set_option maxHeartbeats 40000000 in
theorem c_law (l : Launch) {Z : State} {a0 : Array Value} (hw : Hw Z a0) {n0 : Nat} {h : Heap} (O : Old Z n0 h) (CS0 : CS Z) (US : U16S Z) (FM : Fmt Z) {p0 p1 p2 p3 : Int32} :
    Con l Z EL1 n0 x code maxLocals ret tables_1 room_1 #[(.int p0), (.int p1), (.int p2), (.int p3)] h [] (fun v vm' h' => v = some (.int 1)) := by
  refine Con.of pn23 O (el hw) ?_
  intro p e s m below meth c T W hs hSf
  rw [ef_law]
  refine s_iload_n (pc' := 1) W at_0 rfl rfl ?_
  refine s_iconst (pc' := 2) W (3 : Int32) at_1 rfl rfl ?_
  refine s_iand (pc' := 3) W at_2 rfl ?_
  refine s_iconst (pc' := 4) W (3 : Int32) at_3 rfl rfl ?_
  refine s_irem (pc' := 5) W at_4 (by decide) rfl ?_
  refine s_iconst (pc' := 6) W (1 : Int32) at_5 rfl rfl ?_
  refine s_iadd (pc' := 7) W at_6 rfl ?_
  refine s_istore (pc' := 9) W #[iv p0, iv p1, iv p2, iv p3, iv (((p0 &&& (3 : Int32)) % (3 : Int32)) + (1 : Int32)), .unset, .unset, .unset, .unset, .unset] at_7 rfl rfl ?_
  have hlen := rem3 p0
  generalize (p0 &&& 3) % 3 + 1 = len at hlen ⊢
  refine s_iload_n (pc' := 10) W at_9 rfl rfl ?_
  refine s_i2c (pc' := 11) W at_10 rfl ?_
  have hc0 := C16.i2c p1
  generalize p1.toUInt32.toUInt16.toUInt32.toInt32 = c0 at hc0 ⊢
  refine s_istore (pc' := 13) W #[iv p0, iv p1, iv p2, iv p3, iv len, iv c0, .unset, .unset, .unset, .unset] at_11 rfl rfl ?_
  refine s_iload_n (pc' := 14) W at_13 rfl rfl ?_
  refine s_i2c (pc' := 15) W at_14 rfl ?_
  have hc1 := C16.i2c p2
  generalize p2.toUInt32.toUInt16.toUInt32.toInt32 = c1 at hc1 ⊢
  refine s_istore (pc' := 17) W #[iv p0, iv p1, iv p2, iv p3, iv len, iv c0, iv c1, .unset, .unset, .unset] at_15 rfl rfl ?_
  refine s_iload_n (pc' := 18) W at_17 rfl rfl ?_
  refine s_i2c (pc' := 19) W at_18 rfl ?_
  have hc2 := C16.i2c p3
  generalize p3.toUInt32.toUInt16.toUInt32.toInt32 = c2 at hc2 ⊢
  refine s_istore (pc' := 21) W #[iv p0, iv p1, iv p2, iv p3, iv len, iv c0, iv c1, iv c2, .unset, .unset] at_19 rfl rfl ?_
  rcases hlen with rfl | rfl | rfl
  · refine s_iload (pc' := 23) W at_21 rfl rfl ?_
    refine s_iconst (pc' := 24) W (1 : Int32) at_23 rfl rfl ?_
    refine s_icmpne (pc' := 27) (pcT := 47) W at_24 (by decide) rfl rfl (fun hq => absurd (by decide) hq) (fun _ => ?_)
    refine s_new (pc' := 30) W (w0 hw) (w1 hw) (w2 hw) at_27 (by decide) (by decide) rfl ?_
    intro s T h g_s
    intro W K1 C1 M_s E_s D_s U_s
    have F_coder_s : Fld Z _ s "java/lang/String" "coder" "B" (.int 0) := D_s (Or.inr (w27 hw)) (ty := .byte) (by decide)
    have F_value_s : Fld Z _ s "java/lang/String" "value" "[B" .null := D_s (Or.inr (w29 hw)) (ty := (.array .byte)) (by decide)
    refine s_dup (pc' := 31) W at_30 rfl rfl ?_
    refine s_iconst (pc' := 32) W (1 : Int32) at_31 rfl rfl ?_
    refine s_newarr (pc' := 34) W (aty := .char) 1 "[C" (by decide) (w3 hw) at_32 (by decide) (by decide) (by decide) (by decide) (by decide) rfl ?_
    intro r T h k_r g_r
    have ne_s_r : @Ne Nat s r := by have := nlt E_s.lt; omega
    intro W K2 C2 M_r V_r X_r
    replace E_s := E_s.keep K2
    replace M_s := M_s.mv C2
    replace F_coder_s := F_coder_s.keep K2 nin0
    replace F_value_s := F_value_s.keep K2 nin0
    have V_r : Arv Z _ r k_r .char (1 : Int32) [.int 0] (.int 0) := V_r
    refine s_dup (pc' := 35) W at_34 rfl rfl ?_
    refine s_iconst (pc' := 36) W (0 : Int32) at_35 rfl rfl ?_
    refine s_iload (pc' := 38) W at_36 rfl rfl ?_
    refine s_castore (pc' := 39) W 0 V_r M_r rfl (by decide) (by decide) (bt rfl) at_38 rfl ?_
    intro T h W K3 C3 Vn3
    replace E_s := E_s.keep K3
    replace M_s := M_s.mv C3
    replace F_coder_s := F_coder_s.keep K3 (ninS ne_s_r nin0)
    replace F_value_s := F_value_s.keep K3 (ninS ne_s_r nin0)
    replace M_r := M_r.mv C3
    have V_r := Vn3
    clear Vn3
    rw [hc0.nar] at V_r
    have V_r : Arv Z _ r k_r .char (1 : Int32) [.int c0] (.int 0) := V_r
    refine s_init (pc' := 42) W rfl (w4 hw) (w5 hw) (w2 hw) (w6 hw) (by decide) pd15 [(.ref r)] rfl (c_strinitG l hw W.old CS0 US (cs := [c0]) (n := 1) rfl (by decide) (by decide) (by simp [hc0]) E_s M_s.1 M_s.2.1 F_coder_s F_value_s V_r) (allS ⟨M_s.2.1, M_s.2.2⟩ all0) rfl at_39 1 (le rfl) (bl rfl) (bl rfl) (by decide) (by decide) rfl ?_
    rintro _ T vm h W C4 ⟨rfl, K4, b_s, k_s, L⟩
    replace E_s := E_s.keep K4
    replace M_s := M_s.mv C4
    replace M_r := M_r.mv C4
    replace V_r := V_r.keep K4 (ninS (Ne.symm ne_s_r) nin0)
    refine s_astore (pc' := 44) W #[iv p0, iv p1, iv p2, iv p3, iv (1 : Int32), iv c0, iv c1, iv c2, rv s, .unset] at_42 rfl rfl rfl ?_
    refine s_goto (pc' := 105) W at_44 (by decide) rfl ?_
    refine s_aload (pc' := 107) W at_105 rfl rfl rfl ?_
    rcases L with L | L
    · refine s_static (pc' := 110) W (w30 hw) (w31 hw) (w32 hw) (w33 hw) (by decide) pd16 [(.ref s)] rfl (c_parse l hw W.old L (by simp)) all0 rfl at_107 0 (le rfl) (bl rfl) (bl rfl) (by decide) (by decide) rfl ?_
      rintro _ T vm h W C5 ⟨rfl, K5, L⟩
      refine s_astore (pc' := 112) W #[iv p0, iv p1, iv p2, iv p3, iv (1 : Int32), iv c0, iv c1, iv c2, rv s, rv s] at_110 rfl rfl rfl ?_
      refine s_aload (pc' := 114) W at_112 rfl rfl rfl ?_
      refine s_aload (pc' := 116) W at_114 rfl rfl rfl ?_
      refine s_acmpN (pc' := 119) W at_116 rfl rfl (Jvm.Free.XT.aa_ne_f rfl) rfl ?_
      refine s_aload (pc' := 121) W at_119 rfl rfl rfl ?_
      refine s_virt (pc' := 124) W (C0 := "java/lang/String") (w46 hw) (w47 hw) (w49 hw) (w48 hw) (w2 hw) (w50 hw) (notFace_of_selects (args := a0) (w49 hw)) (by decide) pd17 [] rfl L.1 (c_strlength l hw W.old CS0 L) all0 rfl at_121 0 (le rfl) (bl rfl) (bl rfl) (by decide) (by decide) rfl ?_
      rintro _ T vm _ W C6 ⟨rfl, rfl⟩
      refine s_iload (pc' := 126) W at_124 rfl rfl ?_
      refine s_icmpne (pc' := 129) (pcT := 144) W at_126 (by decide) rfl rfl (fun hq => absurd (rfl : Int32.ofNat [c0].length = (1 : Int32)) hq) (fun _ => ?_)
      refine s_aload (pc' := 131) W at_129 rfl rfl rfl ?_
      refine s_iconst (pc' := 132) W (0 : Int32) at_131 rfl rfl ?_
      refine s_virt (pc' := 135) W (C0 := "java/lang/String") (w56 hw) (w57 hw) (w59 hw) (w58 hw) (w2 hw) (w60 hw) (notFace_of_selects (args := a0) (w59 hw)) (by decide) pd18 [(.int (0 : Int32))] rfl L.1 (c_charatL l hw W.old CS0 FM L (i := 0) (bt rfl)) all0 rfl at_132 0 (le rfl) (bl rfl) (bl rfl) (by decide) (by decide) rfl ?_
      rintro _ T vm _ W C7 ⟨rfl, rfl⟩
      refine s_iload (pc' := 137) W at_135 rfl rfl ?_
      refine s_icmpne (pc' := 140) (pcT := 144) W at_137 (by decide) rfl rfl (fun hq => absurd (rfl : c0 = c0) hq) (fun _ => ?_)
      refine s_iconst (pc' := 141) W (1 : Int32) at_140 rfl rfl ?_
      refine s_goto (pc' := 145) W at_141 (by decide) rfl ?_
      refine s_nreturn W (t := .boolean) rfl (by simp) at_145 (by decide) (by decide) ?_
      intro vm' C'
      exact rfl
    · refine s_static (pc' := 110) W (w30 hw) (w31 hw) (w32 hw) (w33 hw) (by decide) pd16 [(.ref s)] rfl (c_parseU l hw W.old L (by simp)) all0 rfl at_107 0 (le rfl) (bl rfl) (bl rfl) (by decide) (by decide) rfl ?_
      rintro _ T vm h W C8 ⟨rfl, K8, L⟩
      refine s_astore (pc' := 112) W #[iv p0, iv p1, iv p2, iv p3, iv (1 : Int32), iv c0, iv c1, iv c2, rv s, rv s] at_110 rfl rfl rfl ?_
      refine s_aload (pc' := 114) W at_112 rfl rfl rfl ?_
      refine s_aload (pc' := 116) W at_114 rfl rfl rfl ?_
      refine s_acmpN (pc' := 119) W at_116 rfl rfl (Jvm.Free.XT.aa_ne_f rfl) rfl ?_
      refine s_aload (pc' := 121) W at_119 rfl rfl rfl ?_
      refine s_virt (pc' := 124) W (C0 := "java/lang/String") (w46 hw) (w47 hw) (w49 hw) (w48 hw) (w2 hw) (w50 hw) (notFace_of_selects (args := a0) (w49 hw)) (by decide) pd17 [] rfl L.1 (c_strlengthU l hw W.old CS0 L) all0 rfl at_121 0 (le rfl) (bl rfl) (bl rfl) (by decide) (by decide) rfl ?_
      rintro _ T vm _ W C9 ⟨rfl, rfl⟩
      refine s_iload (pc' := 126) W at_124 rfl rfl ?_
      refine s_icmpne (pc' := 129) (pcT := 144) W at_126 (by decide) rfl rfl (fun hq => absurd (rfl : Int32.ofNat [c0].length = (1 : Int32)) hq) (fun _ => ?_)
      refine s_aload (pc' := 131) W at_129 rfl rfl rfl ?_
      refine s_iconst (pc' := 132) W (0 : Int32) at_131 rfl rfl ?_
      refine s_virt (pc' := 135) W (C0 := "java/lang/String") (w56 hw) (w57 hw) (w59 hw) (w58 hw) (w2 hw) (w60 hw) (notFace_of_selects (args := a0) (w59 hw)) (by decide) pd18 [(.int (0 : Int32))] rfl L.1 (c_charatU l hw W.old CS0 US FM L (i := 0) (bt rfl)) all0 rfl at_132 0 (le rfl) (bl rfl) (bl rfl) (by decide) (by decide) rfl ?_
      rintro _ T vm _ W C10 ⟨rfl, rfl⟩
      refine s_iload (pc' := 137) W at_135 rfl rfl ?_
      refine s_icmpne (pc' := 140) (pcT := 144) W at_137 (by decide) rfl rfl (fun hq => absurd (rfl : c0 = c0) hq) (fun _ => ?_)
      refine s_iconst (pc' := 141) W (1 : Int32) at_140 rfl rfl ?_
      refine s_goto (pc' := 145) W at_141 (by decide) rfl ?_
      refine s_nreturn W (t := .boolean) rfl (by simp) at_145 (by decide) (by decide) ?_
      intro vm' C'
      exact rfl
  · refine s_iload (pc' := 23) W at_21 rfl rfl ?_
    refine s_iconst (pc' := 24) W (1 : Int32) at_23 rfl rfl ?_
    refine s_icmpne (pc' := 27) (pcT := 47) W at_24 (by decide) rfl rfl (fun _ => ?_) (fun hq => absurd hq (by decide))
    refine s_iload (pc' := 49) W at_47 rfl rfl ?_
    refine s_iconst (pc' := 50) W (2 : Int32) at_49 rfl rfl ?_
    refine s_icmpne (pc' := 53) (pcT := 78) W at_50 (by decide) rfl rfl (fun hq => absurd (by decide) hq) (fun _ => ?_)
    refine s_new (pc' := 56) W (w0 hw) (w1 hw) (w2 hw) at_53 (by decide) (by decide) rfl ?_
    intro s T h g_s
    intro W K11 C11 M_s E_s D_s U_s
    have F_coder_s : Fld Z _ s "java/lang/String" "coder" "B" (.int 0) := D_s (Or.inr (w27 hw)) (ty := .byte) (by decide)
    have F_value_s : Fld Z _ s "java/lang/String" "value" "[B" .null := D_s (Or.inr (w29 hw)) (ty := (.array .byte)) (by decide)
    refine s_dup (pc' := 57) W at_56 rfl rfl ?_
    refine s_iconst (pc' := 58) W (2 : Int32) at_57 rfl rfl ?_
    refine s_newarr (pc' := 60) W (aty := .char) 2 "[C" (by decide) (w3 hw) at_58 (by decide) (by decide) (by decide) (by decide) (by decide) rfl ?_
    intro r T h k_r g_r
    have ne_s_r : @Ne Nat s r := by have := nlt E_s.lt; omega
    intro W K12 C12 M_r V_r X_r
    replace E_s := E_s.keep K12
    replace M_s := M_s.mv C12
    replace F_coder_s := F_coder_s.keep K12 nin0
    replace F_value_s := F_value_s.keep K12 nin0
    have V_r : Arv Z _ r k_r .char (2 : Int32) [.int 0, .int 0] (.int 0) := V_r
    refine s_dup (pc' := 61) W at_60 rfl rfl ?_
    refine s_iconst (pc' := 62) W (0 : Int32) at_61 rfl rfl ?_
    refine s_iload (pc' := 64) W at_62 rfl rfl ?_
    refine s_castore (pc' := 65) W 0 V_r M_r rfl (by decide) (by decide) (bt rfl) at_64 rfl ?_
    intro T h W K13 C13 Vn13
    replace E_s := E_s.keep K13
    replace M_s := M_s.mv C13
    replace F_coder_s := F_coder_s.keep K13 (ninS ne_s_r nin0)
    replace F_value_s := F_value_s.keep K13 (ninS ne_s_r nin0)
    replace M_r := M_r.mv C13
    have V_r := Vn13
    clear Vn13
    rw [hc0.nar] at V_r
    have V_r : Arv Z _ r k_r .char (2 : Int32) [.int c0, .int 0] (.int 0) := V_r
    refine s_dup (pc' := 66) W at_65 rfl rfl ?_
    refine s_iconst (pc' := 67) W (1 : Int32) at_66 rfl rfl ?_
    refine s_iload (pc' := 69) W at_67 rfl rfl ?_
    refine s_castore (pc' := 70) W 1 V_r M_r rfl (by decide) (by decide) (bt rfl) at_69 rfl ?_
    intro T h W K14 C14 Vn14
    replace E_s := E_s.keep K14
    replace M_s := M_s.mv C14
    replace F_coder_s := F_coder_s.keep K14 (ninS ne_s_r nin0)
    replace F_value_s := F_value_s.keep K14 (ninS ne_s_r nin0)
    replace M_r := M_r.mv C14
    have V_r := Vn14
    clear Vn14
    rw [hc1.nar] at V_r
    have V_r : Arv Z _ r k_r .char (2 : Int32) [.int c0, .int c1] (.int 0) := V_r
    refine s_init (pc' := 73) W rfl (w4 hw) (w5 hw) (w2 hw) (w6 hw) (by decide) pd15 [(.ref r)] rfl (c_strinitG l hw W.old CS0 US (cs := [c0, c1]) (n := 2) rfl (by decide) (by decide) (by simp [hc0, hc1]) E_s M_s.1 M_s.2.1 F_coder_s F_value_s V_r) (allS ⟨M_s.2.1, M_s.2.2⟩ all0) rfl at_70 1 (le rfl) (bl rfl) (bl rfl) (by decide) (by decide) rfl ?_
    rintro _ T vm h W C15 ⟨rfl, K15, b_s, k_s, L⟩
    replace E_s := E_s.keep K15
    replace M_s := M_s.mv C15
    replace M_r := M_r.mv C15
    replace V_r := V_r.keep K15 (ninS (Ne.symm ne_s_r) nin0)
    refine s_astore (pc' := 75) W #[iv p0, iv p1, iv p2, iv p3, iv (2 : Int32), iv c0, iv c1, iv c2, rv s, .unset] at_73 rfl rfl rfl ?_
    refine s_goto (pc' := 105) W at_75 (by decide) rfl ?_
    refine s_aload (pc' := 107) W at_105 rfl rfl rfl ?_
    rcases L with L | L
    · refine s_static (pc' := 110) W (w30 hw) (w31 hw) (w32 hw) (w33 hw) (by decide) pd16 [(.ref s)] rfl (c_parse l hw W.old L (by simp)) all0 rfl at_107 0 (le rfl) (bl rfl) (bl rfl) (by decide) (by decide) rfl ?_
      rintro _ T vm h W C16 ⟨rfl, K16, L⟩
      refine s_astore (pc' := 112) W #[iv p0, iv p1, iv p2, iv p3, iv (2 : Int32), iv c0, iv c1, iv c2, rv s, rv s] at_110 rfl rfl rfl ?_
      refine s_aload (pc' := 114) W at_112 rfl rfl rfl ?_
      refine s_aload (pc' := 116) W at_114 rfl rfl rfl ?_
      refine s_acmpN (pc' := 119) W at_116 rfl rfl (Jvm.Free.XT.aa_ne_f rfl) rfl ?_
      refine s_aload (pc' := 121) W at_119 rfl rfl rfl ?_
      refine s_virt (pc' := 124) W (C0 := "java/lang/String") (w46 hw) (w47 hw) (w49 hw) (w48 hw) (w2 hw) (w50 hw) (notFace_of_selects (args := a0) (w49 hw)) (by decide) pd17 [] rfl L.1 (c_strlength l hw W.old CS0 L) all0 rfl at_121 0 (le rfl) (bl rfl) (bl rfl) (by decide) (by decide) rfl ?_
      rintro _ T vm _ W C17 ⟨rfl, rfl⟩
      refine s_iload (pc' := 126) W at_124 rfl rfl ?_
      refine s_icmpne (pc' := 129) (pcT := 144) W at_126 (by decide) rfl rfl (fun hq => absurd (rfl : Int32.ofNat [c0, c1].length = (2 : Int32)) hq) (fun _ => ?_)
      refine s_aload (pc' := 131) W at_129 rfl rfl rfl ?_
      refine s_iconst (pc' := 132) W (0 : Int32) at_131 rfl rfl ?_
      refine s_virt (pc' := 135) W (C0 := "java/lang/String") (w56 hw) (w57 hw) (w59 hw) (w58 hw) (w2 hw) (w60 hw) (notFace_of_selects (args := a0) (w59 hw)) (by decide) pd18 [(.int (0 : Int32))] rfl L.1 (c_charatL l hw W.old CS0 FM L (i := 0) (bt rfl)) all0 rfl at_132 0 (le rfl) (bl rfl) (bl rfl) (by decide) (by decide) rfl ?_
      rintro _ T vm _ W C18 ⟨rfl, rfl⟩
      refine s_iload (pc' := 137) W at_135 rfl rfl ?_
      refine s_icmpne (pc' := 140) (pcT := 144) W at_137 (by decide) rfl rfl (fun hq => absurd (rfl : c0 = c0) hq) (fun _ => ?_)
      refine s_iconst (pc' := 141) W (1 : Int32) at_140 rfl rfl ?_
      refine s_goto (pc' := 145) W at_141 (by decide) rfl ?_
      refine s_nreturn W (t := .boolean) rfl (by simp) at_145 (by decide) (by decide) ?_
      intro vm' C'
      exact rfl
    · refine s_static (pc' := 110) W (w30 hw) (w31 hw) (w32 hw) (w33 hw) (by decide) pd16 [(.ref s)] rfl (c_parseU l hw W.old L (by simp)) all0 rfl at_107 0 (le rfl) (bl rfl) (bl rfl) (by decide) (by decide) rfl ?_
      rintro _ T vm h W C19 ⟨rfl, K19, L⟩
      refine s_astore (pc' := 112) W #[iv p0, iv p1, iv p2, iv p3, iv (2 : Int32), iv c0, iv c1, iv c2, rv s, rv s] at_110 rfl rfl rfl ?_
      refine s_aload (pc' := 114) W at_112 rfl rfl rfl ?_
      refine s_aload (pc' := 116) W at_114 rfl rfl rfl ?_
      refine s_acmpN (pc' := 119) W at_116 rfl rfl (Jvm.Free.XT.aa_ne_f rfl) rfl ?_
      refine s_aload (pc' := 121) W at_119 rfl rfl rfl ?_
      refine s_virt (pc' := 124) W (C0 := "java/lang/String") (w46 hw) (w47 hw) (w49 hw) (w48 hw) (w2 hw) (w50 hw) (notFace_of_selects (args := a0) (w49 hw)) (by decide) pd17 [] rfl L.1 (c_strlengthU l hw W.old CS0 L) all0 rfl at_121 0 (le rfl) (bl rfl) (bl rfl) (by decide) (by decide) rfl ?_
      rintro _ T vm _ W C20 ⟨rfl, rfl⟩
      refine s_iload (pc' := 126) W at_124 rfl rfl ?_
      refine s_icmpne (pc' := 129) (pcT := 144) W at_126 (by decide) rfl rfl (fun hq => absurd (rfl : Int32.ofNat [c0, c1].length = (2 : Int32)) hq) (fun _ => ?_)
      refine s_aload (pc' := 131) W at_129 rfl rfl rfl ?_
      refine s_iconst (pc' := 132) W (0 : Int32) at_131 rfl rfl ?_
      refine s_virt (pc' := 135) W (C0 := "java/lang/String") (w56 hw) (w57 hw) (w59 hw) (w58 hw) (w2 hw) (w60 hw) (notFace_of_selects (args := a0) (w59 hw)) (by decide) pd18 [(.int (0 : Int32))] rfl L.1 (c_charatU l hw W.old CS0 US FM L (i := 0) (bt rfl)) all0 rfl at_132 0 (le rfl) (bl rfl) (bl rfl) (by decide) (by decide) rfl ?_
      rintro _ T vm _ W C21 ⟨rfl, rfl⟩
      refine s_iload (pc' := 137) W at_135 rfl rfl ?_
      refine s_icmpne (pc' := 140) (pcT := 144) W at_137 (by decide) rfl rfl (fun hq => absurd (rfl : c0 = c0) hq) (fun _ => ?_)
      refine s_iconst (pc' := 141) W (1 : Int32) at_140 rfl rfl ?_
      refine s_goto (pc' := 145) W at_141 (by decide) rfl ?_
      refine s_nreturn W (t := .boolean) rfl (by simp) at_145 (by decide) (by decide) ?_
      intro vm' C'
      exact rfl
  · refine s_iload (pc' := 23) W at_21 rfl rfl ?_
    refine s_iconst (pc' := 24) W (1 : Int32) at_23 rfl rfl ?_
    refine s_icmpne (pc' := 27) (pcT := 47) W at_24 (by decide) rfl rfl (fun _ => ?_) (fun hq => absurd hq (by decide))
    refine s_iload (pc' := 49) W at_47 rfl rfl ?_
    refine s_iconst (pc' := 50) W (2 : Int32) at_49 rfl rfl ?_
    refine s_icmpne (pc' := 53) (pcT := 78) W at_50 (by decide) rfl rfl (fun _ => ?_) (fun hq => absurd hq (by decide))
    refine s_new (pc' := 81) W (w0 hw) (w1 hw) (w2 hw) at_78 (by decide) (by decide) rfl ?_
    intro s T h g_s
    intro W K22 C22 M_s E_s D_s U_s
    have F_coder_s : Fld Z _ s "java/lang/String" "coder" "B" (.int 0) := D_s (Or.inr (w27 hw)) (ty := .byte) (by decide)
    have F_value_s : Fld Z _ s "java/lang/String" "value" "[B" .null := D_s (Or.inr (w29 hw)) (ty := (.array .byte)) (by decide)
    refine s_dup (pc' := 82) W at_81 rfl rfl ?_
    refine s_iconst (pc' := 83) W (3 : Int32) at_82 rfl rfl ?_
    refine s_newarr (pc' := 85) W (aty := .char) 3 "[C" (by decide) (w3 hw) at_83 (by decide) (by decide) (by decide) (by decide) (by decide) rfl ?_
    intro r T h k_r g_r
    have ne_s_r : @Ne Nat s r := by have := nlt E_s.lt; omega
    intro W K23 C23 M_r V_r X_r
    replace E_s := E_s.keep K23
    replace M_s := M_s.mv C23
    replace F_coder_s := F_coder_s.keep K23 nin0
    replace F_value_s := F_value_s.keep K23 nin0
    have V_r : Arv Z _ r k_r .char (3 : Int32) [.int 0, .int 0, .int 0] (.int 0) := V_r
    refine s_dup (pc' := 86) W at_85 rfl rfl ?_
    refine s_iconst (pc' := 87) W (0 : Int32) at_86 rfl rfl ?_
    refine s_iload (pc' := 89) W at_87 rfl rfl ?_
    refine s_castore (pc' := 90) W 0 V_r M_r rfl (by decide) (by decide) (bt rfl) at_89 rfl ?_
    intro T h W K24 C24 Vn24
    replace E_s := E_s.keep K24
    replace M_s := M_s.mv C24
    replace F_coder_s := F_coder_s.keep K24 (ninS ne_s_r nin0)
    replace F_value_s := F_value_s.keep K24 (ninS ne_s_r nin0)
    replace M_r := M_r.mv C24
    have V_r := Vn24
    clear Vn24
    rw [hc0.nar] at V_r
    have V_r : Arv Z _ r k_r .char (3 : Int32) [.int c0, .int 0, .int 0] (.int 0) := V_r
    refine s_dup (pc' := 91) W at_90 rfl rfl ?_
    refine s_iconst (pc' := 92) W (1 : Int32) at_91 rfl rfl ?_
    refine s_iload (pc' := 94) W at_92 rfl rfl ?_
    refine s_castore (pc' := 95) W 1 V_r M_r rfl (by decide) (by decide) (bt rfl) at_94 rfl ?_
    intro T h W K25 C25 Vn25
    replace E_s := E_s.keep K25
    replace M_s := M_s.mv C25
    replace F_coder_s := F_coder_s.keep K25 (ninS ne_s_r nin0)
    replace F_value_s := F_value_s.keep K25 (ninS ne_s_r nin0)
    replace M_r := M_r.mv C25
    have V_r := Vn25
    clear Vn25
    rw [hc1.nar] at V_r
    have V_r : Arv Z _ r k_r .char (3 : Int32) [.int c0, .int c1, .int 0] (.int 0) := V_r
    refine s_dup (pc' := 96) W at_95 rfl rfl ?_
    refine s_iconst (pc' := 97) W (2 : Int32) at_96 rfl rfl ?_
    refine s_iload (pc' := 99) W at_97 rfl rfl ?_
    refine s_castore (pc' := 100) W 2 V_r M_r rfl (by decide) (by decide) (bt rfl) at_99 rfl ?_
    intro T h W K26 C26 Vn26
    replace E_s := E_s.keep K26
    replace M_s := M_s.mv C26
    replace F_coder_s := F_coder_s.keep K26 (ninS ne_s_r nin0)
    replace F_value_s := F_value_s.keep K26 (ninS ne_s_r nin0)
    replace M_r := M_r.mv C26
    have V_r := Vn26
    clear Vn26
    rw [hc2.nar] at V_r
    have V_r : Arv Z _ r k_r .char (3 : Int32) [.int c0, .int c1, .int c2] (.int 0) := V_r
    refine s_init (pc' := 103) W rfl (w4 hw) (w5 hw) (w2 hw) (w6 hw) (by decide) pd15 [(.ref r)] rfl (c_strinitG l hw W.old CS0 US (cs := [c0, c1, c2]) (n := 3) rfl (by decide) (by decide) (by simp [hc0, hc1, hc2]) E_s M_s.1 M_s.2.1 F_coder_s F_value_s V_r) (allS ⟨M_s.2.1, M_s.2.2⟩ all0) rfl at_100 1 (le rfl) (bl rfl) (bl rfl) (by decide) (by decide) rfl ?_
    rintro _ T vm h W C27 ⟨rfl, K27, b_s, k_s, L⟩
    replace E_s := E_s.keep K27
    replace M_s := M_s.mv C27
    replace M_r := M_r.mv C27
    replace V_r := V_r.keep K27 (ninS (Ne.symm ne_s_r) nin0)
    refine s_astore (pc' := 105) W #[iv p0, iv p1, iv p2, iv p3, iv (3 : Int32), iv c0, iv c1, iv c2, rv s, .unset] at_103 rfl rfl rfl ?_
    refine s_aload (pc' := 107) W at_105 rfl rfl rfl ?_
    rcases L with L | L
    · refine s_static (pc' := 110) W (w30 hw) (w31 hw) (w32 hw) (w33 hw) (by decide) pd16 [(.ref s)] rfl (c_parse l hw W.old L (by simp)) all0 rfl at_107 0 (le rfl) (bl rfl) (bl rfl) (by decide) (by decide) rfl ?_
      rintro _ T vm h W C28 ⟨rfl, K28, L⟩
      refine s_astore (pc' := 112) W #[iv p0, iv p1, iv p2, iv p3, iv (3 : Int32), iv c0, iv c1, iv c2, rv s, rv s] at_110 rfl rfl rfl ?_
      refine s_aload (pc' := 114) W at_112 rfl rfl rfl ?_
      refine s_aload (pc' := 116) W at_114 rfl rfl rfl ?_
      refine s_acmpN (pc' := 119) W at_116 rfl rfl (Jvm.Free.XT.aa_ne_f rfl) rfl ?_
      refine s_aload (pc' := 121) W at_119 rfl rfl rfl ?_
      refine s_virt (pc' := 124) W (C0 := "java/lang/String") (w46 hw) (w47 hw) (w49 hw) (w48 hw) (w2 hw) (w50 hw) (notFace_of_selects (args := a0) (w49 hw)) (by decide) pd17 [] rfl L.1 (c_strlength l hw W.old CS0 L) all0 rfl at_121 0 (le rfl) (bl rfl) (bl rfl) (by decide) (by decide) rfl ?_
      rintro _ T vm _ W C29 ⟨rfl, rfl⟩
      refine s_iload (pc' := 126) W at_124 rfl rfl ?_
      refine s_icmpne (pc' := 129) (pcT := 144) W at_126 (by decide) rfl rfl (fun hq => absurd (rfl : Int32.ofNat [c0, c1, c2].length = (3 : Int32)) hq) (fun _ => ?_)
      refine s_aload (pc' := 131) W at_129 rfl rfl rfl ?_
      refine s_iconst (pc' := 132) W (0 : Int32) at_131 rfl rfl ?_
      refine s_virt (pc' := 135) W (C0 := "java/lang/String") (w56 hw) (w57 hw) (w59 hw) (w58 hw) (w2 hw) (w60 hw) (notFace_of_selects (args := a0) (w59 hw)) (by decide) pd18 [(.int (0 : Int32))] rfl L.1 (c_charatL l hw W.old CS0 FM L (i := 0) (bt rfl)) all0 rfl at_132 0 (le rfl) (bl rfl) (bl rfl) (by decide) (by decide) rfl ?_
      rintro _ T vm _ W C30 ⟨rfl, rfl⟩
      refine s_iload (pc' := 137) W at_135 rfl rfl ?_
      refine s_icmpne (pc' := 140) (pcT := 144) W at_137 (by decide) rfl rfl (fun hq => absurd (rfl : c0 = c0) hq) (fun _ => ?_)
      refine s_iconst (pc' := 141) W (1 : Int32) at_140 rfl rfl ?_
      refine s_goto (pc' := 145) W at_141 (by decide) rfl ?_
      refine s_nreturn W (t := .boolean) rfl (by simp) at_145 (by decide) (by decide) ?_
      intro vm' C'
      exact rfl
    · refine s_static (pc' := 110) W (w30 hw) (w31 hw) (w32 hw) (w33 hw) (by decide) pd16 [(.ref s)] rfl (c_parseU l hw W.old L (by simp)) all0 rfl at_107 0 (le rfl) (bl rfl) (bl rfl) (by decide) (by decide) rfl ?_
      rintro _ T vm h W C31 ⟨rfl, K31, L⟩
      refine s_astore (pc' := 112) W #[iv p0, iv p1, iv p2, iv p3, iv (3 : Int32), iv c0, iv c1, iv c2, rv s, rv s] at_110 rfl rfl rfl ?_
      refine s_aload (pc' := 114) W at_112 rfl rfl rfl ?_
      refine s_aload (pc' := 116) W at_114 rfl rfl rfl ?_
      refine s_acmpN (pc' := 119) W at_116 rfl rfl (Jvm.Free.XT.aa_ne_f rfl) rfl ?_
      refine s_aload (pc' := 121) W at_119 rfl rfl rfl ?_
      refine s_virt (pc' := 124) W (C0 := "java/lang/String") (w46 hw) (w47 hw) (w49 hw) (w48 hw) (w2 hw) (w50 hw) (notFace_of_selects (args := a0) (w49 hw)) (by decide) pd17 [] rfl L.1 (c_strlengthU l hw W.old CS0 L) all0 rfl at_121 0 (le rfl) (bl rfl) (bl rfl) (by decide) (by decide) rfl ?_
      rintro _ T vm _ W C32 ⟨rfl, rfl⟩
      refine s_iload (pc' := 126) W at_124 rfl rfl ?_
      refine s_icmpne (pc' := 129) (pcT := 144) W at_126 (by decide) rfl rfl (fun hq => absurd (rfl : Int32.ofNat [c0, c1, c2].length = (3 : Int32)) hq) (fun _ => ?_)
      refine s_aload (pc' := 131) W at_129 rfl rfl rfl ?_
      refine s_iconst (pc' := 132) W (0 : Int32) at_131 rfl rfl ?_
      refine s_virt (pc' := 135) W (C0 := "java/lang/String") (w56 hw) (w57 hw) (w59 hw) (w58 hw) (w2 hw) (w60 hw) (notFace_of_selects (args := a0) (w59 hw)) (by decide) pd18 [(.int (0 : Int32))] rfl L.1 (c_charatU l hw W.old CS0 US FM L (i := 0) (bt rfl)) all0 rfl at_132 0 (le rfl) (bl rfl) (bl rfl) (by decide) (by decide) rfl ?_
      rintro _ T vm _ W C33 ⟨rfl, rfl⟩
      refine s_iload (pc' := 137) W at_135 rfl rfl ?_
      refine s_icmpne (pc' := 140) (pcT := 144) W at_137 (by decide) rfl rfl (fun hq => absurd (rfl : c0 = c0) hq) (fun _ => ?_)
      refine s_iconst (pc' := 141) W (1 : Int32) at_140 rfl rfl ?_
      refine s_goto (pc' := 145) W at_141 (by decide) rfl ?_
      refine s_nreturn W (t := .boolean) rfl (by simp) at_145 (by decide) (by decide) ?_
      intro vm' C'
      exact rfl
set_option maxRecDepth 65536 in
set_option maxHeartbeats 40000000 in
theorem comes_1 {Post : Tables → Env → Array Value → State → Outcome → State → Prop} (hpost : ∀ tb e args s v u, (limb_1_1.after args s (.returned v) u = true ∧ limb_1_2.after args s (.returned v) u = true ∧ True) → Jvm.D.FramedW s (.returned v) u (Jvm.fieldLocs frame_1_writes args s ++ Jvm.arrayLocs frame_1_arrays args s ++ Jvm.staticLocs frame_1_statics s) 24 1152 → Post tb e args s (.returned v) u) :
    ArmFor flags0 classFile x code maxLocals ret World_1 tables_1 room_1 Calls_1 rest_1 Pre_1 Post := by
  intro l hfl _ _ p e ha hc hk s m args below hf hA hF happ hP
  obtain ⟨hcalls, hrest, hpre⟩ := hP
  obtain ⟨-, -, -, hnamed, -, -, -, hat⟩ := (Spec.applies_iff hf).mp happ
  obtain ⟨hg, hn⟩ := and_e (Cond.before_iff.mp (show (Jvm.Cond.and given_1 narrow_1).before args s = true from hpre))
  obtain ⟨h1, h2⟩ := and_e hg
  obtain ⟨hi0, h3⟩ := and_e h2
  obtain ⟨hi1, h4⟩ := and_e h3
  obtain ⟨hi2, h5⟩ := and_e h4
  have hi3 := h5
  obtain ⟨v0, v1, v2, v3, rfl⟩ : ∃ v0 v1 v2 v3 : Value, args = #[v0, v1, v2, v3] := by
    have hs : args.size = 4 := by simpa [Cond.value, given_1] using h1
    obtain ⟨L⟩ := args
    match L, hs with
    | [v0, v1, v2, v3], _ => exact ⟨v0, v1, v2, v3, rfl⟩
  have hw : Hw s #[v0, v1, v2, v3] := fun d (hd : d ∈ tables_1) => atoms_spec (ws := Jvm.Cond.code x code maxLocals ret :: tables_1) hat d (List.mem_cons_of_mem _ hd)
  obtain ⟨hsets, hown0⟩ := atoms_of _ (rest_1_c_eq ▸ (show rest_1_c.before _ s = true from hrest))
  obtain ⟨i0, e0⟩ := is_v hi0
  obtain rfl : v0 = (.int i0) := Option.some.inj e0
  obtain ⟨i1, e1⟩ := is_v hi1
  obtain rfl : v1 = (.int i1) := Option.some.inj e1
  obtain ⟨i2, e2⟩ := is_v hi2
  obtain rfl : v2 = (.int i2) := Option.some.inj e2
  obtain ⟨i3, e3⟩ := is_v hi3
  obtain rfl : v3 = (.int i3) := Option.some.inj e3
  have n5 := not_v (Cond.before_iff.mp (hsets _ (List.mem_of_getElem? (i := 2) rfl)))
  obtain ⟨ic, ec⟩ := is_v (Cond.before_iff.mp (hsets _ (List.mem_of_getElem? (i := 1) rfl)))
  have S12 : Sta s s.heap "java/lang/String" "COMPACT_STRINGS" "Z" (.int ic) := Sta.start ec (Or.inl (hsets _ (List.mem_of_getElem? (i := 0) rfl)))
  have CS0 : CS s := ⟨ic, S12, gotF (Cond.eq_ints ec (Term.int_eval (0))) n5⟩
  have hchv : CHv s EL1 s.vm s.heap := fun _ q => nomatch q
  obtain ⟨vf, ef, rf⟩ := isR_v (Cond.before_iff.mp (hsets _ (List.mem_of_getElem? (i := 8) rfl)))
  have FM : Fmt s := ⟨vf, Sta.start ef (Or.inl (hsets _ (List.mem_of_getElem? (i := 7) rfl))), rf⟩
  have S_assertionsDisabled : Sta s s.heap "java/lang/StringUTF16" "$assertionsDisabled" "Z" (.int 1) := Sta.start (eqv_i (Term.int_eval 1) (Cond.before_iff.mp (hsets _ (List.mem_of_getElem? (i := 12) rfl)))) (Or.inl (hsets _ (List.mem_of_getElem? (i := 11) rfl)))
  have S_HI_BYTE_SHIFT : Sta s s.heap "java/lang/StringUTF16" "HI_BYTE_SHIFT" "I" (.int 0) := Sta.start (eqv_i (Term.int_eval 0) (Cond.before_iff.mp (hsets _ (List.mem_of_getElem? (i := 15) rfl)))) (Or.inl (hsets _ (List.mem_of_getElem? (i := 14) rfl)))
  have S_LO_BYTE_SHIFT : Sta s s.heap "java/lang/StringUTF16" "LO_BYTE_SHIFT" "I" (.int 8) := Sta.start (eqv_i (Term.int_eval 8) (Cond.before_iff.mp (hsets _ (List.mem_of_getElem? (i := 18) rfl)))) (Or.inl (hsets _ (List.mem_of_getElem? (i := 17) rfl)))
  have US : U16S s := ⟨S_assertionsDisabled, S_HI_BYTE_SHIFT, S_LO_BYTE_SHIFT⟩
  obtain ⟨n, o, h1, h2, h3, v, L, rfl, hq, N, -, hr⟩ := c_law l hw (Old.start s) CS0 US FM p e ha hc hk s m _ below hf ((Spec.applies_iff_loose hf).mp happ).1 ⟨rfl, State.Warmed39.refl s, rfl, hchv, all0⟩ trivial
  subst hq
  refine ⟨n, _, h1, h2, h3, hpost _ _ _ _ _ _ ⟨Cond.after_iff.mpr rfl, Cond.after_iff.mpr (eq_i res_at (Term.int_eval (1)) rfl), trivial⟩ ⟨hr.1.1, hr.1.2.1, hr.1.2.2.1, (hr.1.2.2.2.sift fun y hy => Or.inr (N y hy)).mono (by decide) (by decide)⟩⟩
theorem main_1_1 : Claimed_1_1 := comes_1 fun _ _ _ _ _ _ h hF => ⟨h.1, hF⟩
theorem main_1_2 : Claimed_1_2 := comes_1 fun _ _ _ _ _ _ h hF => ⟨h.2.1, hF⟩
end Jvm.Pilot.@@N@@
namespace Jvm.Pilot.@@N@@
open Jvm Jvm.ClassFile Sem Op Lib Jvm.Free Jvm.Stand Jvm.Pilot.@@N@@.Jvm.D
/-! MADE BY PROGRAM (witnessworld.py) out of the Statement's table words and the real class files: 22 classes; the members and pool entries that the words name. The judged class is class 1, her method 1. -/
namespace start1
open Jvm.ClassFile
def u (s : String) : CpInfo := .utf8 (stringToUtf16 s)
/-- a pool by its gaps: so many unusable entries, then the entry; so many at the end -/
def gap : Nat → List CpInfo → List CpInfo
  | 0, r => r
  | n + 1, r => .unusable :: gap n r
def poolList (es : List (Nat × CpInfo)) (last : Nat) : List CpInfo := es.foldr (fun e r => gap e.1 (e.2 :: r)) (gap last [])
def pool (es : List (Nat × CpInfo)) (last : Nat) : Array CpInfo := ⟨poolList es last⟩
def fileOf (pool : Array CpInfo) (this : Nat) (attrs : Array Attribute := #[]) (ms : Array MethodInfo := #[]) (fl : Nat := 33) (sup : Nat := 0) (ifs : Array Nat := #[]) (fds : Array FieldInfo := #[]) : ClassFile where
  minorVersion := 0
  majorVersion := 65
  constantPool := pool
  accessFlags := fl
  thisClass := this
  superClass := sup
  interfaces := ifs
  fields := fds
  methods := ms
  attributes := attrs
def plain (name : String) (sup : Option ClassId) : Class where
  name := name
  kind := .ordinary
  loader := none
  accessFlags := 33
  super := sup
  interfaces := #[]
  cf := none
  fields := #[]
  methods := #[]
  instanceTypes := #[]
  staticTypes := #[]
  resolved := #[]
  callSites := []
  init := .initialized
  statics := none
  mirror := none

def pool0 : Array CpInfo := pool [(5, u "<init>"), (0, u "()V"), (1, .class_ 10), (1, u "java/lang/Object")] 113

def k0c0 : Code := { maxStack := 0, maxLocals := 1, code := object_method_1_code, exceptionTable := #[], attributes := #[] }
def k0m0 : Method := { name := "<init>", desc := "()V", sig := { parameters := [], returnType := none }, accessFlags := 1, code := some k0c0 }
/-- java/lang/Object -/
def k0 : Class := { plain "java/lang/Object" none with
  accessFlags := 33
  interfaces := #[]
  cf := some (fileOf pool0 8 #[] #[{ accessFlags := 1, nameIndex := 5, descriptorIndex := 6, attributes := #[] }] 33 0 #[] #[])
  fields := #[]
  methods := #[k0m0]
  instanceTypes := #[]
  staticTypes := #[]
  resolved := Array.replicate 124 none
  statics := none }

def pool1 : Array CpInfo := pool [(2, .class_ 4), (1, u "java/lang/Object"), (0, u "<init>"), (0, u "()V"), (0, .class_ 8), (0, u "java/lang/String"), (0, .methodref 7 10), (0, .nameAndType 5 11), (0, u "([C)V"), (0, .methodref 13 14), (0, .class_ 15), (0, .nameAndType 16 17), (0, u "com/example/tynwald/tynwald/complaints/Comment"), (0, u "parseText"), (0, u "(Ljava/lang/String;)Ljava/lang/String;"), (0, .methodref 7 19), (0, .nameAndType 20 21), (0, u "length"), (0, u "()I"), (0, .methodref 7 23), (0, .nameAndType 24 25), (0, u "charAt"), (0, u "(I)C"), (0, .class_ 27), (0, u "com/example/tynwald/tynwald/complaints/CommentParseTextPinLaw"), (2, u "law"), (0, u "(IIII)Z")] 3

def k1m0 : Method := { name := "<init>", desc := "()V", sig := { parameters := [], returnType := none }, accessFlags := 1, code := none }
def k1c1 : Code := { maxStack := 6, maxLocals := 10, code := code, exceptionTable := #[], attributes := #[] }
def k1m1 : Method := { name := "law", desc := "(IIII)Z", sig := { parameters := [.int, .int, .int, .int], returnType := some .boolean }, accessFlags := 9, code := some k1c1 }
/-- com/example/tynwald/tynwald/complaints/CommentParseTextPinLaw -/
def k1 : Class := { plain "com/example/tynwald/tynwald/complaints/CommentParseTextPinLaw" (some 0) with
  accessFlags := 49
  interfaces := #[]
  cf := some (fileOf pool1 26 #[] #[{ accessFlags := 1, nameIndex := 5, descriptorIndex := 6, attributes := #[] }, { accessFlags := 9, nameIndex := 30, descriptorIndex := 31, attributes := #[] }] 49 2 #[] #[])
  fields := #[]
  methods := #[k1m0, k1m1]
  instanceTypes := #[]
  staticTypes := #[]
  resolved := Array.replicate 35 none
  statics := none }

def pool2 : Array CpInfo := pool [(1, .class_ 2), (0, u "java/io/Serializable"), (0, .class_ 4), (0, u "java/lang/Object")] 2

/-- java/io/Serializable -/
def k2 : Class := { plain "java/io/Serializable" (some 0) with
  accessFlags := 1537
  interfaces := #[]
  cf := some (fileOf pool2 1 #[] #[] 1537 3 #[] #[])
  fields := #[]
  methods := #[]
  instanceTypes := #[]
  staticTypes := #[]
  resolved := Array.replicate 7 none
  statics := none }

def pool3 : Array CpInfo := pool [(1, .class_ 2), (0, u "java/lang/Comparable"), (0, .class_ 4), (0, u "java/lang/Object")] 7

/-- java/lang/Comparable -/
def k3 : Class := { plain "java/lang/Comparable" (some 0) with
  accessFlags := 1537
  interfaces := #[]
  cf := some (fileOf pool3 1 #[] #[] 1537 3 #[] #[])
  fields := #[]
  methods := #[]
  instanceTypes := #[]
  staticTypes := #[]
  resolved := Array.replicate 12 none
  statics := none }

def pool4 : Array CpInfo := pool [(2, .class_ 4), (1, u "java/lang/CharSequence"), (42, .class_ 48), (0, u "java/lang/CharSequence$1CodePointIterator"), (10, .class_ 60), (0, u "java/lang/CharSequence$1CharIterator"), (5, .class_ 67), (0, u "java/lang/Object")] 63

/-- java/lang/CharSequence -/
def k4 : Class := { plain "java/lang/CharSequence" (some 0) with
  accessFlags := 1537
  interfaces := #[]
  cf := some (fileOf pool4 2 #[.nestMembers #[47, 59]] #[] 1537 66 #[] #[])
  fields := #[]
  methods := #[]
  instanceTypes := #[]
  staticTypes := #[]
  resolved := Array.replicate 131 none
  statics := none }

def pool5 : Array CpInfo := pool [(1, .class_ 2), (0, u "java/lang/constant/Constable"), (0, .class_ 4), (0, u "java/lang/Object")] 6

/-- java/lang/constant/Constable -/
def k5 : Class := { plain "java/lang/constant/Constable" (some 0) with
  accessFlags := 1537
  interfaces := #[]
  cf := some (fileOf pool5 1 #[] #[] 1537 3 #[] #[])
  fields := #[]
  methods := #[]
  instanceTypes := #[]
  staticTypes := #[]
  resolved := Array.replicate 11 none
  statics := none }

def pool6 : Array CpInfo := pool [(1, .class_ 2), (0, u "java/lang/constant/ConstantDesc"), (0, .class_ 4), (0, u "java/lang/Object")] 32

/-- java/lang/constant/ConstantDesc -/
def k6 : Class := { plain "java/lang/constant/ConstantDesc" (some 0) with
  accessFlags := 1537
  interfaces := #[]
  cf := some (fileOf pool6 1 #[] #[] 1537 3 #[] #[])
  fields := #[]
  methods := #[]
  instanceTypes := #[]
  staticTypes := #[]
  resolved := Array.replicate 37 none
  statics := none }

def pool7 : Array CpInfo := pool [(1, .methodref 2 3), (0, .class_ 4), (0, .nameAndType 5 6), (0, u "java/lang/Object"), (0, u "<init>"), (0, u "()V"), (2, .fieldref 10 11), (0, .class_ 12), (0, .nameAndType 13 14), (0, u "java/lang/String"), (0, u "value"), (0, u "[B"), (0, .fieldref 10 16), (0, .nameAndType 17 18), (0, u "coder"), (0, u "B"), (2, u "hash"), (0, u "I"), (2, u "hashIsZero"), (0, u "Z"), (0, .methodref 10 28), (0, .nameAndType 5 29), (0, u "([CIILjava/lang/Void;)V"), (8, .fieldref 10 39), (0, .nameAndType 40 26), (0, u "COMPACT_STRINGS"), (1, .class_ 44), (1, u "java/lang/StringUTF16"), (0, u "compress"), (1, .methodref 42 48), (0, .nameAndType 49 50), (0, u "coderFromArrayLen"), (0, u "([BI)B"), (56, .class_ 109), (1, u "java/lang/StringLatin1"), (32, u "()Z"), (34, .methodref 42 178), (0, .nameAndType 45 179), (0, u "([CII)[B"), (154, u "()I"), (0, .methodref 10 336), (0, .nameAndType 17 337), (0, u "()B"), (25, u "([BI)C"), (27, u "(II)V"), (35, u "(I)C"), (64, .methodref 10 493), (0, .nameAndType 494 142), (0, u "isLatin1"), (0, .methodref 107 496), (0, .nameAndType 497 363), (0, u "charAt"), (0, .methodref 42 496), (2, u "checkIndex"), (5, u "length"), (67, .class_ 576), (0, u "java/lang/CharSequence"), (22, u "CASE_INSENSITIVE_ORDER"), (0, u "Ljava/util/Comparator;"), (91, u "isEmpty"), (317, u "([C)V"), (42, .fieldref 1054 1055), (0, .class_ 1056), (0, .nameAndType 1057 1058), (0, u "jdk/internal/util/Preconditions"), (0, u "SIOOBE_FORMATTER"), (0, u "Ljava/util/function/BiFunction;"), (0, .methodref 1054 1060), (0, .nameAndType 501 1061), (0, u "(IILjava/util/function/BiFunction;)I"), (39, u "serialPersistentFields"), (0, u "[Ljava/io/ObjectStreamField;"), (0, .class_ 1104), (0, u "java/lang/String$CaseInsensitiveComparator"), (1, .class_ 1107), (0, u "java/io/Serializable"), (0, .class_ 1109), (0, u "java/lang/Comparable"), (0, .class_ 1111), (0, u "java/lang/constant/Constable"), (0, .class_ 1113), (0, u "java/lang/constant/ConstantDesc"), (2, u "serialVersionUID"), (0, u "J"), (3, u "REPL"), (0, u "C"), (2, u "LATIN1"), (1, u "UTF16")] 323

def k7m0 : Method := { name := "<init>", desc := "()V", sig := { parameters := [], returnType := none }, accessFlags := 1, code := none }
def k7c1 : Code := { maxStack := 5, maxLocals := 2, code := jdk_42_method_3_code, exceptionTable := #[], attributes := #[] }
def k7m1 : Method := { name := "<init>", desc := "([C)V", sig := { parameters := [(.array .char)], returnType := none }, accessFlags := 1, code := some k7c1 }
def k7c2 : Code := { maxStack := 2, maxLocals := 1, code := jdk_42_method_54_code, exceptionTable := #[], attributes := #[] }
def k7m2 : Method := { name := "length", desc := "()I", sig := { parameters := [], returnType := some .int }, accessFlags := 1, code := some k7c2 }
def k7c3 : Code := { maxStack := 1, maxLocals := 1, code := jdk_42_method_55_code, exceptionTable := #[], attributes := #[] }
def k7m3 : Method := { name := "isEmpty", desc := "()Z", sig := { parameters := [], returnType := some .boolean }, accessFlags := 1, code := some k7c3 }
def k7c4 : Code := { maxStack := 2, maxLocals := 2, code := jdk_42_method_56_code, exceptionTable := #[], attributes := #[] }
def k7m4 : Method := { name := "charAt", desc := "(I)C", sig := { parameters := [.int], returnType := some .char }, accessFlags := 1, code := some k7c4 }
def k7c5 : Code := { maxStack := 4, maxLocals := 6, code := jdk_42_method_149_code, exceptionTable := #[], attributes := #[] }
def k7m5 : Method := { name := "<init>", desc := "([CIILjava/lang/Void;)V", sig := { parameters := [(.array .char), .int, .int, (.object "java/lang/Void")], returnType := none }, accessFlags := 2, code := some k7c5 }
def k7c6 : Code := { maxStack := 1, maxLocals := 1, code := jdk_42_method_152_code, exceptionTable := #[], attributes := #[] }
def k7m6 : Method := { name := "coder", desc := "()B", sig := { parameters := [], returnType := some .byte }, accessFlags := 0, code := some k7c6 }
def k7c7 : Code := { maxStack := 1, maxLocals := 1, code := jdk_42_method_154_code, exceptionTable := #[], attributes := #[] }
def k7m7 : Method := { name := "isLatin1", desc := "()Z", sig := { parameters := [], returnType := some .boolean }, accessFlags := 0, code := some k7c7 }
def k7c8 : Code := { maxStack := 3, maxLocals := 2, code := jdk_42_method_155_code, exceptionTable := #[], attributes := #[] }
def k7m8 : Method := { name := "checkIndex", desc := "(II)V", sig := { parameters := [.int, .int], returnType := none }, accessFlags := 8, code := some k7c8 }
/-- java/lang/String -/
def k7 : Class := { plain "java/lang/String" (some 0) with
  accessFlags := 49
  interfaces := #[2, 3, 4, 5, 6]
  cf := some (fileOf pool7 10 #[.nestMembers #[1103]] #[{ accessFlags := 1, nameIndex := 5, descriptorIndex := 6, attributes := #[] }, { accessFlags := 1, nameIndex := 5, descriptorIndex := 1010, attributes := #[] }, { accessFlags := 1, nameIndex := 507, descriptorIndex := 334, attributes := #[] }, { accessFlags := 1, nameIndex := 692, descriptorIndex := 142, attributes := #[] }, { accessFlags := 1, nameIndex := 497, descriptorIndex := 427, attributes := #[] }, { accessFlags := 2, nameIndex := 5, descriptorIndex := 29, attributes := #[] }, { accessFlags := 0, nameIndex := 17, descriptorIndex := 337, attributes := #[] }, { accessFlags := 0, nameIndex := 494, descriptorIndex := 142, attributes := #[] }, { accessFlags := 8, nameIndex := 501, descriptorIndex := 391, attributes := #[] }] 49 2 #[1106, 1108, 575, 1110, 1112] #[{ accessFlags := 18, nameIndex := 13, descriptorIndex := 14, attributes := #[] }, { accessFlags := 18, nameIndex := 17, descriptorIndex := 18, attributes := #[] }, { accessFlags := 2, nameIndex := 21, descriptorIndex := 22, attributes := #[] }, { accessFlags := 2, nameIndex := 25, descriptorIndex := 26, attributes := #[] }, { accessFlags := 26, nameIndex := 1116, descriptorIndex := 1117, attributes := #[] }, { accessFlags := 24, nameIndex := 40, descriptorIndex := 26, attributes := #[] }, { accessFlags := 26, nameIndex := 1101, descriptorIndex := 1102, attributes := #[] }, { accessFlags := 26, nameIndex := 1121, descriptorIndex := 1122, attributes := #[] }, { accessFlags := 25, nameIndex := 599, descriptorIndex := 600, attributes := #[] }, { accessFlags := 24, nameIndex := 1125, descriptorIndex := 18, attributes := #[] }, { accessFlags := 24, nameIndex := 1127, descriptorIndex := 18, attributes := #[] }])
  fields := #[{ name := "value", type := (.array .byte), accessFlags := 18, slot := 0, constantValue := 0 }, { name := "coder", type := .byte, accessFlags := 18, slot := 1, constantValue := 0 }, { name := "hash", type := .int, accessFlags := 2, slot := 2, constantValue := 0 }, { name := "hashIsZero", type := .boolean, accessFlags := 2, slot := 3, constantValue := 0 }, { name := "serialVersionUID", type := .long, accessFlags := 26, slot := 0, constantValue := 0 }, { name := "COMPACT_STRINGS", type := .boolean, accessFlags := 24, slot := 1, constantValue := 0 }, { name := "serialPersistentFields", type := (.array (.object "java/io/ObjectStreamField")), accessFlags := 26, slot := 2, constantValue := 0 }, { name := "REPL", type := .char, accessFlags := 26, slot := 3, constantValue := 0 }, { name := "CASE_INSENSITIVE_ORDER", type := (.object "java/util/Comparator"), accessFlags := 25, slot := 4, constantValue := 0 }, { name := "LATIN1", type := .byte, accessFlags := 24, slot := 5, constantValue := 0 }, { name := "UTF16", type := .byte, accessFlags := 24, slot := 6, constantValue := 0 }]
  methods := #[k7m0, k7m1, k7m2, k7m3, k7m4, k7m5, k7m6, k7m7, k7m8]
  instanceTypes := #[(.array .byte), .byte, .int, .boolean]
  staticTypes := #[.long, .boolean, (.array (.object "java/io/ObjectStreamField")), .char, (.object "java/util/Comparator"), .byte, .byte]
  resolved := Array.replicate 1451 none
  statics := some 0 }

def pool8 : Array CpInfo := pool [(3, .class_ 4), (0, u "java/lang/String"), (1, .class_ 8), (1, u "java/lang/Object"), (0, u "<init>"), (0, u "()V"), (0, .methodref 12 13), (0, .class_ 14), (0, .nameAndType 15 16), (0, u "java/lang/StringUTF16"), (0, u "newBytesLength"), (0, u "(I)I"), (3, .integer 1073741823), (23, .fieldref 12 45), (0, .nameAndType 46 47), (0, u "$assertionsDisabled"), (0, u "Z"), (0, .methodref 12 49), (0, .nameAndType 50 51), (0, u "length"), (0, u "([B)I"), (7, .fieldref 12 60), (0, .nameAndType 61 62), (0, u "HI_BYTE_SHIFT"), (0, u "I"), (0, .fieldref 12 64), (0, .nameAndType 65 62), (0, u "LO_BYTE_SHIFT"), (1, .methodref 12 68), (0, .nameAndType 69 70), (0, u "checkIndex"), (0, u "(I[B)V"), (0, .methodref 12 72), (0, .nameAndType 73 74), (0, u "getChar"), (0, u "([BI)C"), (32, .methodref 12 108), (0, .nameAndType 109 110), (0, u "newBytesFor"), (0, u "(I)[B"), (0, .methodref 12 112), (0, .nameAndType 113 114), (0, u "putChar"), (0, u "([BII)V"), (0, .methodref 12 116), (0, .nameAndType 117 118), (0, u "compress"), (0, u "([CI[BII)I"), (0, .methodref 12 120), (0, .nameAndType 121 122), (0, u "toBytes"), (0, u "([CII)[B"), (138, u "coderFromArrayLen"), (0, u "([BI)B"), (106, .class_ 371), (1, u "java/lang/StringUTF16$LinesSpliterator"), (20, u "charAt"), (21, .methodref 3 415), (0, .nameAndType 69 416), (0, u "(II)V"), (13, u "MAX_LENGTH"), (196, .class_ 628), (0, u "java/lang/StringUTF16$CodePointsSpliterator"), (0, .class_ 630), (0, u "java/lang/StringUTF16$CharsSpliterator")] 4

def k8m0 : Method := { name := "<init>", desc := "()V", sig := { parameters := [], returnType := none }, accessFlags := 0, code := none }
def k8c1 : Code := { maxStack := 1, maxLocals := 1, code := jdk_52_method_2_code, exceptionTable := #[], attributes := #[] }
def k8m1 : Method := { name := "newBytesFor", desc := "(I)[B", sig := { parameters := [.int], returnType := some (.array .byte) }, accessFlags := 9, code := some k8c1 }
def k8c2 : Code := { maxStack := 4, maxLocals := 1, code := jdk_52_method_3_code, exceptionTable := #[], attributes := #[] }
def k8m2 : Method := { name := "newBytesLength", desc := "(I)I", sig := { parameters := [.int], returnType := some .int }, accessFlags := 9, code := some k8c2 }
def k8c3 : Code := { maxStack := 4, maxLocals := 3, code := jdk_52_method_4_code, exceptionTable := #[], attributes := #[] }
def k8m3 : Method := { name := "putChar", desc := "([BII)V", sig := { parameters := [(.array .byte), .int, .int], returnType := none }, accessFlags := 8, code := some k8c3 }
def k8c4 : Code := { maxStack := 3, maxLocals := 2, code := jdk_52_method_5_code, exceptionTable := #[], attributes := #[] }
def k8m4 : Method := { name := "getChar", desc := "([BI)C", sig := { parameters := [(.array .byte), .int], returnType := some .char }, accessFlags := 8, code := some k8c4 }
def k8c5 : Code := { maxStack := 2, maxLocals := 1, code := jdk_52_method_6_code, exceptionTable := #[], attributes := #[] }
def k8m5 : Method := { name := "length", desc := "([B)I", sig := { parameters := [(.array .byte)], returnType := some .int }, accessFlags := 9, code := some k8c5 }
def k8c6 : Code := { maxStack := 4, maxLocals := 5, code := jdk_52_method_14_code, exceptionTable := #[], attributes := #[] }
def k8m6 : Method := { name := "toBytes", desc := "([CII)[B", sig := { parameters := [(.array .char), .int, .int], returnType := some (.array .byte) }, accessFlags := 9, code := some k8c6 }
def k8c7 : Code := { maxStack := 2, maxLocals := 2, code := jdk_52_method_15_code, exceptionTable := #[], attributes := #[] }
def k8m7 : Method := { name := "coderFromArrayLen", desc := "([BI)B", sig := { parameters := [(.array .byte), .int], returnType := some .byte }, accessFlags := 8, code := some k8c7 }
def k8c8 : Code := { maxStack := 5, maxLocals := 6, code := jdk_52_method_16_code, exceptionTable := #[], attributes := #[] }
def k8m8 : Method := { name := "compress", desc := "([CII)[B", sig := { parameters := [(.array .char), .int, .int], returnType := some (.array .byte) }, accessFlags := 9, code := some k8c8 }
def k8c9 : Code := { maxStack := 3, maxLocals := 7, code := jdk_52_method_21_code, exceptionTable := #[], attributes := #[] }
def k8m9 : Method := { name := "compress", desc := "([CI[BII)I", sig := { parameters := [(.array .char), .int, (.array .byte), .int, .int], returnType := some .int }, accessFlags := 9, code := some k8c9 }
def k8c10 : Code := { maxStack := 2, maxLocals := 2, code := jdk_52_method_83_code, exceptionTable := #[], attributes := #[] }
def k8m10 : Method := { name := "charAt", desc := "([BI)C", sig := { parameters := [(.array .byte), .int], returnType := some .char }, accessFlags := 9, code := some k8c10 }
def k8c11 : Code := { maxStack := 2, maxLocals := 2, code := jdk_52_method_91_code, exceptionTable := #[], attributes := #[] }
def k8m11 : Method := { name := "checkIndex", desc := "(I[B)V", sig := { parameters := [.int, (.array .byte)], returnType := none }, accessFlags := 9, code := some k8c11 }
/-- java/lang/StringUTF16 -/
def k8 : Class := { plain "java/lang/StringUTF16" (some 0) with
  accessFlags := 48
  interfaces := #[]
  cf := some (fileOf pool8 12 #[.nestMembers #[627, 629, 369]] #[{ accessFlags := 0, nameIndex := 9, descriptorIndex := 10, attributes := #[] }, { accessFlags := 9, nameIndex := 109, descriptorIndex := 110, attributes := #[] }, { accessFlags := 9, nameIndex := 15, descriptorIndex := 16, attributes := #[] }, { accessFlags := 8, nameIndex := 113, descriptorIndex := 114, attributes := #[] }, { accessFlags := 8, nameIndex := 73, descriptorIndex := 74, attributes := #[] }, { accessFlags := 9, nameIndex := 50, descriptorIndex := 51, attributes := #[] }, { accessFlags := 9, nameIndex := 121, descriptorIndex := 122, attributes := #[] }, { accessFlags := 8, nameIndex := 261, descriptorIndex := 262, attributes := #[] }, { accessFlags := 9, nameIndex := 117, descriptorIndex := 122, attributes := #[] }, { accessFlags := 9, nameIndex := 117, descriptorIndex := 118, attributes := #[] }, { accessFlags := 9, nameIndex := 392, descriptorIndex := 74, attributes := #[] }, { accessFlags := 9, nameIndex := 69, descriptorIndex := 70, attributes := #[] }] 48 6 #[] #[{ accessFlags := 26, nameIndex := 61, descriptorIndex := 62, attributes := #[] }, { accessFlags := 26, nameIndex := 65, descriptorIndex := 62, attributes := #[] }, { accessFlags := 24, nameIndex := 430, descriptorIndex := 62, attributes := #[] }, { accessFlags := 4120, nameIndex := 46, descriptorIndex := 47, attributes := #[] }])
  fields := #[{ name := "HI_BYTE_SHIFT", type := .int, accessFlags := 26, slot := 0, constantValue := 0 }, { name := "LO_BYTE_SHIFT", type := .int, accessFlags := 26, slot := 1, constantValue := 0 }, { name := "MAX_LENGTH", type := .int, accessFlags := 24, slot := 2, constantValue := 0 }, { name := "$assertionsDisabled", type := .boolean, accessFlags := 4120, slot := 3, constantValue := 0 }]
  methods := #[k8m0, k8m1, k8m2, k8m3, k8m4, k8m5, k8m6, k8m7, k8m8, k8m9, k8m10, k8m11]
  instanceTypes := #[]
  staticTypes := #[.int, .int, .int, .boolean]
  resolved := Array.replicate 635 none
  statics := some 1 }

def pool9 : Array CpInfo := pool [(2, .class_ 4), (1, u "java/lang/Object"), (0, u "<init>"), (0, u "()V"), (0, .class_ 8), (0, u "java/lang/Record")] 13

def k9m0 : Method := { name := "<init>", desc := "()V", sig := { parameters := [], returnType := none }, accessFlags := 4, code := none }
/-- java/lang/Record -/
def k9 : Class := { plain "java/lang/Record" (some 0) with
  accessFlags := 1057
  interfaces := #[]
  cf := some (fileOf pool9 7 #[] #[{ accessFlags := 4, nameIndex := 5, descriptorIndex := 6, attributes := #[] }] 1057 2 #[] #[])
  fields := #[]
  methods := #[k9m0]
  instanceTypes := #[]
  staticTypes := #[]
  resolved := Array.replicate 22 none
  statics := none }

def pool10 : Array CpInfo := pool [(1, .class_ 2), (0, u "com/example/tynwald/tynwald/complaints/Comment"), (1, .class_ 6), (1, u "java/lang/Record"), (3, u "commentId"), (0, .methodref 12 13), (0, .class_ 14), (0, .nameAndType 15 16), (0, u "java/util/Objects"), (0, u "requireNonNull"), (0, u "(Ljava/lang/Object;Ljava/lang/String;)Ljava/lang/Object;"), (1, u "complaintId"), (0, .string 20), (0, u "text"), (1, u "createdAt"), (1, u "attachments"), (2, u "parseText"), (0, u "(Ljava/lang/String;)Ljava/lang/String;"), (18, u "Ljava/lang/String;"), (4, u "agentId"), (4, u "state"), (0, u "Lcom/example/tynwald/tynwald/complaints/ComplaintState;"), (2, u "Ljava/time/Instant;"), (2, u "Ljava/util/List;"), (0, .methodref 66 67), (0, .class_ 68), (0, .nameAndType 69 70), (0, u "java/lang/String"), (0, u "isEmpty"), (0, u "()Z"), (73, u "MAX_ATTACHMENTS"), (0, u "I"), (2, u "MAX_ATTACHMENT_LENGTH"), (1, u "NOT_AN_ATTACHMENT")] 42

def k10c0 : Code := { maxStack := 3, maxLocals := 1, code := prog_31_method_2_code, exceptionTable := #[], attributes := #[] }
def k10m0 : Method := { name := "parseText", desc := "(Ljava/lang/String;)Ljava/lang/String;", sig := { parameters := [(.object "java/lang/String")], returnType := some (.object "java/lang/String") }, accessFlags := 9, code := some k10c0 }
/-- com/example/tynwald/tynwald/complaints/Comment -/
def k10 : Class := { plain "com/example/tynwald/tynwald/complaints/Comment" (some 9) with
  accessFlags := 49
  interfaces := #[]
  cf := some (fileOf pool10 1 #[] #[{ accessFlags := 9, nameIndex := 27, descriptorIndex := 28, attributes := #[] }] 49 4 #[] #[{ accessFlags := 18, nameIndex := 10, descriptorIndex := 47, attributes := #[] }, { accessFlags := 18, nameIndex := 18, descriptorIndex := 47, attributes := #[] }, { accessFlags := 18, nameIndex := 52, descriptorIndex := 47, attributes := #[] }, { accessFlags := 18, nameIndex := 20, descriptorIndex := 47, attributes := #[] }, { accessFlags := 18, nameIndex := 57, descriptorIndex := 58, attributes := #[] }, { accessFlags := 18, nameIndex := 22, descriptorIndex := 61, attributes := #[] }, { accessFlags := 18, nameIndex := 24, descriptorIndex := 64, attributes := #[] }, { accessFlags := 25, nameIndex := 144, descriptorIndex := 145, attributes := #[] }, { accessFlags := 25, nameIndex := 148, descriptorIndex := 145, attributes := #[] }, { accessFlags := 26, nameIndex := 150, descriptorIndex := 47, attributes := #[] }])
  fields := #[{ name := "commentId", type := (.object "java/lang/String"), accessFlags := 18, slot := 0, constantValue := 0 }, { name := "complaintId", type := (.object "java/lang/String"), accessFlags := 18, slot := 1, constantValue := 0 }, { name := "agentId", type := (.object "java/lang/String"), accessFlags := 18, slot := 2, constantValue := 0 }, { name := "text", type := (.object "java/lang/String"), accessFlags := 18, slot := 3, constantValue := 0 }, { name := "state", type := (.object "com/example/tynwald/tynwald/complaints/ComplaintState"), accessFlags := 18, slot := 4, constantValue := 0 }, { name := "createdAt", type := (.object "java/time/Instant"), accessFlags := 18, slot := 5, constantValue := 0 }, { name := "attachments", type := (.object "java/util/List"), accessFlags := 18, slot := 6, constantValue := 0 }, { name := "MAX_ATTACHMENTS", type := .int, accessFlags := 25, slot := 0, constantValue := 0 }, { name := "MAX_ATTACHMENT_LENGTH", type := .int, accessFlags := 25, slot := 1, constantValue := 0 }, { name := "NOT_AN_ATTACHMENT", type := (.object "java/lang/String"), accessFlags := 26, slot := 2, constantValue := 0 }]
  methods := #[k10m0]
  instanceTypes := #[(.object "java/lang/String"), (.object "java/lang/String"), (.object "java/lang/String"), (.object "java/lang/String"), (.object "com/example/tynwald/tynwald/complaints/ComplaintState"), (.object "java/time/Instant"), (.object "java/util/List")]
  staticTypes := #[.int, .int, (.object "java/lang/String")]
  resolved := Array.replicate 193 none
  statics := none }

def pool11 : Array CpInfo := pool [(2, .class_ 4), (1, u "java/lang/Object"), (0, u "<init>"), (0, u "()V"), (35, .class_ 44), (1, u "java/util/Objects"), (0, u "requireNonNull"), (48, u "(Ljava/lang/Object;Ljava/lang/String;)Ljava/lang/Object;")] 89

def k11m0 : Method := { name := "<init>", desc := "()V", sig := { parameters := [], returnType := none }, accessFlags := 2, code := none }
def k11c1 : Code := { maxStack := 3, maxLocals := 2, code := jdk_31_method_11_code, exceptionTable := #[], attributes := #[] }
def k11m1 : Method := { name := "requireNonNull", desc := "(Ljava/lang/Object;Ljava/lang/String;)Ljava/lang/Object;", sig := { parameters := [(.object "java/lang/Object"), (.object "java/lang/String")], returnType := some (.object "java/lang/Object") }, accessFlags := 9, code := some k11c1 }
/-- java/util/Objects -/
def k11 : Class := { plain "java/util/Objects" (some 0) with
  accessFlags := 49
  interfaces := #[]
  cf := some (fileOf pool11 42 #[] #[{ accessFlags := 2, nameIndex := 5, descriptorIndex := 6, attributes := #[] }, { accessFlags := 9, nameIndex := 45, descriptorIndex := 94, attributes := #[] }] 49 2 #[] #[])
  fields := #[]
  methods := #[k11m0, k11m1]
  instanceTypes := #[]
  staticTypes := #[]
  resolved := Array.replicate 184 none
  statics := none }

def pool12 : Array CpInfo := pool [(1, .class_ 2), (0, u "java/lang/String"), (1, .class_ 6), (1, u "java/lang/Object"), (0, u "<init>"), (0, u "()V"), (0, .methodref 1 10), (0, .nameAndType 11 12), (0, u "checkIndex"), (0, u "(II)V"), (1, .class_ 16), (1, u "java/lang/StringLatin1"), (36, u "([BI)C"), (67, u "$assertionsDisabled"), (0, u "Z"), (98, .class_ 223), (1, u "java/lang/StringLatin1$LinesSpliterator"), (28, u "charAt"), (137, .class_ 391), (0, u "java/lang/StringLatin1$CharsSpliterator")] 3

def k12m0 : Method := { name := "<init>", desc := "()V", sig := { parameters := [], returnType := none }, accessFlags := 0, code := none }
def k12c1 : Code := { maxStack := 2, maxLocals := 2, code := jdk_43_method_2_code, exceptionTable := #[], attributes := #[] }
def k12m1 : Method := { name := "charAt", desc := "([BI)C", sig := { parameters := [(.array .byte), .int], returnType := some .char }, accessFlags := 9, code := some k12c1 }
/-- java/lang/StringLatin1 -/
def k12 : Class := { plain "java/lang/StringLatin1" (some 0) with
  accessFlags := 48
  interfaces := #[]
  cf := some (fileOf pool12 14 #[.nestMembers #[390, 221]] #[{ accessFlags := 0, nameIndex := 7, descriptorIndex := 8, attributes := #[] }, { accessFlags := 9, nameIndex := 252, descriptorIndex := 53, attributes := #[] }] 48 4 #[] #[{ accessFlags := 4120, nameIndex := 121, descriptorIndex := 122, attributes := #[] }])
  fields := #[{ name := "$assertionsDisabled", type := .boolean, accessFlags := 4120, slot := 0, constantValue := 0 }]
  methods := #[k12m0, k12m1]
  instanceTypes := #[]
  staticTypes := #[.boolean]
  resolved := Array.replicate 395 none
  statics := none }

def pool13 : Array CpInfo := pool [(2, .class_ 4), (1, u "java/lang/Object"), (0, u "<init>"), (0, u "()V"), (17, .class_ 26), (1, u "jdk/internal/util/Preconditions"), (6, u "checkIndex"), (21, .class_ 56), (0, u "jdk/internal/util/Preconditions$4"), (57, .class_ 115), (0, u "jdk/internal/util/Preconditions$1"), (7, u "SIOOBE_FORMATTER"), (0, u "Ljava/util/function/BiFunction;"), (0, .class_ 126), (0, u "jdk/internal/util/Preconditions$2"), (3, u "AIOOBE_FORMATTER"), (0, .class_ 132), (0, u "jdk/internal/util/Preconditions$3"), (3, u "IOOBE_FORMATTER"), (41, u "(IILjava/util/function/BiFunction;)I")] 15

def k13m0 : Method := { name := "<init>", desc := "()V", sig := { parameters := [], returnType := none }, accessFlags := 1, code := none }
def k13c1 : Code := { maxStack := 3, maxLocals := 3, code := jdk_41_method_11_code, exceptionTable := #[], attributes := #[] }
def k13m1 : Method := { name := "checkIndex", desc := "(IILjava/util/function/BiFunction;)I", sig := { parameters := [.int, .int, (.object "java/util/function/BiFunction")], returnType := some .int }, accessFlags := 9, code := some k13c1 }
/-- jdk/internal/util/Preconditions -/
def k13 : Class := { plain "jdk/internal/util/Preconditions" (some 0) with
  accessFlags := 33
  interfaces := #[]
  cf := some (fileOf pool13 24 #[.nestMembers #[55, 131, 125, 114]] #[{ accessFlags := 1, nameIndex := 5, descriptorIndex := 6, attributes := #[] }, { accessFlags := 9, nameIndex := 33, descriptorIndex := 178, attributes := #[] }] 33 2 #[] #[{ accessFlags := 25, nameIndex := 123, descriptorIndex := 124, attributes := #[] }, { accessFlags := 25, nameIndex := 130, descriptorIndex := 124, attributes := #[] }, { accessFlags := 25, nameIndex := 136, descriptorIndex := 124, attributes := #[] }])
  fields := #[{ name := "SIOOBE_FORMATTER", type := (.object "java/util/function/BiFunction"), accessFlags := 25, slot := 0, constantValue := 0 }, { name := "AIOOBE_FORMATTER", type := (.object "java/util/function/BiFunction"), accessFlags := 25, slot := 1, constantValue := 0 }, { name := "IOOBE_FORMATTER", type := (.object "java/util/function/BiFunction"), accessFlags := 25, slot := 2, constantValue := 0 }]
  methods := #[k13m0, k13m1]
  instanceTypes := #[]
  staticTypes := #[(.object "java/util/function/BiFunction"), (.object "java/util/function/BiFunction"), (.object "java/util/function/BiFunction")]
  resolved := Array.replicate 194 none
  statics := some 2 }

def pool14 : Array CpInfo := pool [(9, u "<init>"), (6, .class_ 18), (1, u "java/lang/Object"), (0, u "()V"), (1, .class_ 23), (1, u "jdk/internal/util/ArraysSupport"), (0, u "LOG2_ARRAY_LONG_INDEX_SCALE"), (0, u "I"), (2, u "U"), (0, u "Ljdk/internal/misc/Unsafe;"), (8, u "BIG_ENDIAN"), (0, u "Z"), (8, u "LOG2_BYTE_BIT_SIZE"), (4, u "LOG2_ARRAY_INT_INDEX_SCALE"), (54, u "JLA"), (0, u "Ljdk/internal/access/JavaLangAccess;"), (11, u "LOG2_ARRAY_BOOLEAN_INDEX_SCALE"), (9, u "LOG2_ARRAY_BYTE_INDEX_SCALE"), (5, u "LOG2_ARRAY_CHAR_INDEX_SCALE"), (5, u "LOG2_ARRAY_SHORT_INDEX_SCALE"), (18, u "LOG2_ARRAY_FLOAT_INDEX_SCALE"), (24, u "LOG2_ARRAY_DOUBLE_INDEX_SCALE"), (89, u "T_BOOLEAN"), (2, u "T_CHAR"), (1, u "T_FLOAT"), (1, u "T_DOUBLE"), (1, u "T_BYTE"), (1, u "T_SHORT"), (1, u "T_INT"), (1, u "T_LONG"), (1, u "SOFT_MAX_ARRAY_LENGTH")] 83

def k14m0 : Method := { name := "<init>", desc := "()V", sig := { parameters := [], returnType := none }, accessFlags := 2, code := none }
/-- jdk/internal/util/ArraysSupport -/
def k14 : Class := { plain "jdk/internal/util/ArraysSupport" (some 0) with
  accessFlags := 33
  interfaces := #[]
  cf := some (fileOf pool14 21 #[] #[{ accessFlags := 2, nameIndex := 9, descriptorIndex := 19, attributes := #[] }] 33 16 #[] #[{ accessFlags := 24, nameIndex := 28, descriptorIndex := 29, attributes := #[] }, { accessFlags := 26, nameIndex := 38, descriptorIndex := 39, attributes := #[] }, { accessFlags := 25, nameIndex := 121, descriptorIndex := 25, attributes := #[] }, { accessFlags := 25, nameIndex := 131, descriptorIndex := 25, attributes := #[] }, { accessFlags := 25, nameIndex := 137, descriptorIndex := 25, attributes := #[] }, { accessFlags := 25, nameIndex := 143, descriptorIndex := 25, attributes := #[] }, { accessFlags := 25, nameIndex := 53, descriptorIndex := 25, attributes := #[] }, { accessFlags := 25, nameIndex := 24, descriptorIndex := 25, attributes := #[] }, { accessFlags := 25, nameIndex := 162, descriptorIndex := 25, attributes := #[] }, { accessFlags := 25, nameIndex := 187, descriptorIndex := 25, attributes := #[] }, { accessFlags := 26, nameIndex := 48, descriptorIndex := 25, attributes := #[] }, { accessFlags := 25, nameIndex := 277, descriptorIndex := 25, attributes := #[] }, { accessFlags := 25, nameIndex := 280, descriptorIndex := 25, attributes := #[] }, { accessFlags := 25, nameIndex := 282, descriptorIndex := 25, attributes := #[] }, { accessFlags := 25, nameIndex := 284, descriptorIndex := 25, attributes := #[] }, { accessFlags := 25, nameIndex := 286, descriptorIndex := 25, attributes := #[] }, { accessFlags := 25, nameIndex := 288, descriptorIndex := 25, attributes := #[] }, { accessFlags := 25, nameIndex := 290, descriptorIndex := 25, attributes := #[] }, { accessFlags := 25, nameIndex := 292, descriptorIndex := 25, attributes := #[] }, { accessFlags := 26, nameIndex := 108, descriptorIndex := 109, attributes := #[] }, { accessFlags := 25, nameIndex := 294, descriptorIndex := 25, attributes := #[] }])
  fields := #[{ name := "U", type := (.object "jdk/internal/misc/Unsafe"), accessFlags := 24, slot := 0, constantValue := 0 }, { name := "BIG_ENDIAN", type := .boolean, accessFlags := 26, slot := 1, constantValue := 0 }, { name := "LOG2_ARRAY_BOOLEAN_INDEX_SCALE", type := .int, accessFlags := 25, slot := 2, constantValue := 0 }, { name := "LOG2_ARRAY_BYTE_INDEX_SCALE", type := .int, accessFlags := 25, slot := 3, constantValue := 0 }, { name := "LOG2_ARRAY_CHAR_INDEX_SCALE", type := .int, accessFlags := 25, slot := 4, constantValue := 0 }, { name := "LOG2_ARRAY_SHORT_INDEX_SCALE", type := .int, accessFlags := 25, slot := 5, constantValue := 0 }, { name := "LOG2_ARRAY_INT_INDEX_SCALE", type := .int, accessFlags := 25, slot := 6, constantValue := 0 }, { name := "LOG2_ARRAY_LONG_INDEX_SCALE", type := .int, accessFlags := 25, slot := 7, constantValue := 0 }, { name := "LOG2_ARRAY_FLOAT_INDEX_SCALE", type := .int, accessFlags := 25, slot := 8, constantValue := 0 }, { name := "LOG2_ARRAY_DOUBLE_INDEX_SCALE", type := .int, accessFlags := 25, slot := 9, constantValue := 0 }, { name := "LOG2_BYTE_BIT_SIZE", type := .int, accessFlags := 26, slot := 10, constantValue := 0 }, { name := "T_BOOLEAN", type := .int, accessFlags := 25, slot := 11, constantValue := 0 }, { name := "T_CHAR", type := .int, accessFlags := 25, slot := 12, constantValue := 0 }, { name := "T_FLOAT", type := .int, accessFlags := 25, slot := 13, constantValue := 0 }, { name := "T_DOUBLE", type := .int, accessFlags := 25, slot := 14, constantValue := 0 }, { name := "T_BYTE", type := .int, accessFlags := 25, slot := 15, constantValue := 0 }, { name := "T_SHORT", type := .int, accessFlags := 25, slot := 16, constantValue := 0 }, { name := "T_INT", type := .int, accessFlags := 25, slot := 17, constantValue := 0 }, { name := "T_LONG", type := .int, accessFlags := 25, slot := 18, constantValue := 0 }, { name := "JLA", type := (.object "jdk/internal/access/JavaLangAccess"), accessFlags := 26, slot := 19, constantValue := 0 }, { name := "SOFT_MAX_ARRAY_LENGTH", type := .int, accessFlags := 25, slot := 20, constantValue := 0 }]
  methods := #[k14m0]
  instanceTypes := #[]
  staticTypes := #[(.object "jdk/internal/misc/Unsafe"), .boolean, .int, .int, .int, .int, .int, .int, .int, .int, .int, .int, .int, .int, .int, .int, .int, .int, .int, (.object "jdk/internal/access/JavaLangAccess"), .int]
  resolved := Array.replicate 378 none
  statics := none }

def pool15 : Array CpInfo := pool [(1, u "java/lang/Cloneable"), (0, .class_ 1), (0, u "java/lang/Object"), (0, .class_ 3)] 3

/-- java/lang/Cloneable -/
def k15 : Class := { plain "java/lang/Cloneable" (some 0) with
  accessFlags := 1537
  interfaces := #[]
  cf := some (fileOf pool15 2 #[] #[] 1537 4 #[] #[])
  fields := #[]
  methods := #[]
  instanceTypes := #[]
  staticTypes := #[]
  resolved := Array.replicate 8 none
  statics := none }

/-- the primitive byte -/
def k16 : Class := { plain "byte" none with kind := .primitive 'B', accessFlags := 0x411 }
/-- [B -/
def k17 : Class := { plain "[B" (some 0) with kind := .array 16 .byte, interfaces := #[15, 2], accessFlags := 1041 }

/-- the primitive char -/
def k18 : Class := { plain "char" none with kind := .primitive 'C', accessFlags := 0x411 }
/-- [C -/
def k19 : Class := { plain "[C" (some 0) with kind := .array 18 .char, interfaces := #[15, 2], accessFlags := 1041 }

/-- the primitive int -/
def k20 : Class := { plain "int" none with kind := .primitive 'I', accessFlags := 0x411 }
/-- [I -/
def k21 : Class := { plain "[I" (some 0) with kind := .array 20 .int, interfaces := #[15, 2], accessFlags := 1041 }

def heap : Heap := #[{ cls := 7, slots := #[.long 0, .int 1, .null, .int 0, .null, .int 0, .int 0], vm := .statics 7 },
  { cls := 8, slots := #[.int 0, .int 8, .int 0, .int 1], vm := .statics 8 },
  { cls := 13, slots := #[.null, .null, .null], vm := .statics 13 }]
def classes : Array Class := #[k0, k1, k2, k3, k4, k5, k6, k7, k8, k9, k10, k11, k12, k13, k14, k15, k16, k17, k18, k19, k20, k21]
def interned : List (Array UInt16 × Addr) := []
def slotsUsed : Nat := 14
def theMethod : MethodId := ⟨1, 1⟩
def args0 : Array Value := #[.int 5, .int 5, .int 5, .int 5]
def aboutOver (below : List Frame) : State where
  vm := { classes := classes, interned := interned.toArray }
  heap := heap
  slotsUsed := slotsUsed
  threads := #[{ frames := .invoking theMethod args0 :: below }]
def below0 : List Frame := [.native { method := ⟨0, 0⟩, args := #[] }]
def about1 : State := aboutOver below0
def p0 : Program := .bare "" "" ""
def e0 : Env := launch0.env 0 0 0
theorem w_frames : about1.frames = Frame.invoking theMethod args0 :: below0 := rfl
set_option maxRecDepth 65536 in
theorem w_args : argsFit about1.vm theMethod args0 = true := by decide +kernel
set_option maxRecDepth 65536 in
theorem w_heap : heapFits about1 = true := by decide +kernel
set_option maxRecDepth 65536 in
theorem w_runnable : about1.curStatus? = some .runnable := by decide +kernel
set_option maxRecDepth 65536 in
theorem w_alone : about1.alone = true := by decide +kernel
set_option maxRecDepth 65536 in
theorem w_named : about1.methodNamed? x = some theMethod := by decide +kernel
set_option maxRecDepth 65536 in
theorem w_hears : about1.hears theMethod below0 = true := by decide +kernel
set_option maxRecDepth 65536 in
theorem w_ripe : about1.ripe theMethod args0 below0 = true := by decide +kernel
theorem w_running : about1.status = .running := rfl
set_option maxRecDepth 65536 in
theorem w_room : about1.hasRoom e0.platform room_1 = true :=
  launch0.hasRoom_least _ room_1 (by decide +kernel) (by decide +kernel) (by decide +kernel) (by decide +kernel) (by decide +kernel) (by decide +kernel)
theorem allAtoms_all (ts : List Jvm.Cond) (a : Array Jvm.Value) (st : Jvm.State) : (allAtoms ts).before a st = ts.all (fun c => c.before a st) := by
  induction ts with
  | nil => rfl
  | cons c t ih =>
    show (Jvm.Cond.and c (allAtoms t)).before a st = _
    rw [Jvm.Cond.before_and, ih, List.all_cons]
def words1 : List Jvm.Cond := Jvm.Cond.code x code maxLocals ret :: tables_1
/-- a 'code' word, met by the world's own term for the bytes: nothing is compared byte by byte -/
theorem code_word {y : MethodName} {bytes : ByteArray} {mx : Nat} {rt : Option FieldType} {a : Array Value} {s : State} {m : MethodId} {meth : Method} {c : Code} (h1 : s.methodNamed? y = some m) (h2 : s.vm.method? m = some meth) (h3 : meth.code = some c) (h4 : c.code = bytes)
    (h5 : (c.maxLocals == mx && c.exceptionTable.isEmpty && decide (c.maxStack ≤ mostOperands) && decide (meth.sig.returnType = rt) && !meth.locks && decide (parseMethodDescriptor y.desc = some meth.sig)) = true) : (Jvm.Cond.code y bytes mx rt).before a s = true := by
  simp only [Bool.and_eq_true, beq_iff_eq, Bool.not_eq_true', decide_eq_true_eq] at h5
  obtain ⟨⟨⟨⟨⟨g1, g2⟩, g3⟩, g4⟩, g5⟩, g6⟩ := h5
  simp [Cond.before, Cond.holds, Cond.value, h1, h2, h3, h4, g1, g2, g3, g4, g5, g6]
def isCode : Jvm.Cond → Bool
  | .code _ _ _ _ => true
  | _ => false
theorem all_split {L : List Jvm.Cond} {P : Jvm.Cond → Bool} (h1 : L.all (fun c => isCode c || P c) = true) (h2 : ∀ c ∈ L.filter isCode, P c = true) : L.all P = true := by
  refine List.all_eq_true.mpr fun c hc => ?_
  have h := List.all_eq_true.mp h1 c hc
  rcases Bool.eq_false_or_eq_true (isCode c) with hi | hi
  · exact h2 c (List.mem_filter.mpr ⟨hc, hi⟩)
  · simpa [hi] using h
set_option maxRecDepth 65536 in
theorem w_c0 : (Jvm.Cond.code x code maxLocals ret).before args0 about1 = true := code_word (m := ⟨1, 1⟩) (meth := k1m1) (c := k1c1) (by decide +kernel) rfl rfl rfl (by decide +kernel)
set_option maxRecDepth 65536 in
theorem w_c1 : (Jvm.Cond.code ({ cls := "java/lang/String", name := "<init>", desc := "([C)V" } : Jvm.MethodName) jdk_42_method_3_code (2 : Nat) (Option.none : Option Jvm.ClassFile.FieldType)).before args0 about1 = true := code_word (m := ⟨7, 1⟩) (meth := k7m1) (c := k7c1) (by decide +kernel) rfl rfl rfl (by decide +kernel)
set_option maxRecDepth 65536 in
theorem w_c2 : (Jvm.Cond.code ({ cls := "java/lang/String", name := "<init>", desc := "([CIILjava/lang/Void;)V" } : Jvm.MethodName) jdk_42_method_149_code (6 : Nat) (Option.none : Option Jvm.ClassFile.FieldType)).before args0 about1 = true := code_word (m := ⟨7, 5⟩) (meth := k7m5) (c := k7c5) (by decide +kernel) rfl rfl rfl (by decide +kernel)
set_option maxRecDepth 65536 in
theorem w_c3 : (Jvm.Cond.code ({ cls := "java/lang/Object", name := "<init>", desc := "()V" } : Jvm.MethodName) object_method_1_code (1 : Nat) (Option.none : Option Jvm.ClassFile.FieldType)).before args0 about1 = true := code_word (m := ⟨0, 0⟩) (meth := k0m0) (c := k0c0) (by decide +kernel) rfl rfl rfl (by decide +kernel)
set_option maxRecDepth 65536 in
theorem w_c4 : (Jvm.Cond.code ({ cls := "java/lang/StringUTF16", name := "compress", desc := "([CII)[B" } : Jvm.MethodName) jdk_52_method_16_code (6 : Nat) (Option.some (Jvm.ClassFile.FieldType.array Jvm.ClassFile.FieldType.byte))).before args0 about1 = true := code_word (m := ⟨8, 8⟩) (meth := k8m8) (c := k8c8) (by decide +kernel) rfl rfl rfl (by decide +kernel)
set_option maxRecDepth 65536 in
theorem w_c5 : (Jvm.Cond.code ({ cls := "java/lang/StringUTF16", name := "compress", desc := "([CI[BII)I" } : Jvm.MethodName) jdk_52_method_21_code (7 : Nat) (Option.some Jvm.ClassFile.FieldType.int)).before args0 about1 = true := code_word (m := ⟨8, 9⟩) (meth := k8m9) (c := k8c9) (by decide +kernel) rfl rfl rfl (by decide +kernel)
set_option maxRecDepth 65536 in
theorem w_c6 : (Jvm.Cond.code ({ cls := "java/lang/StringUTF16", name := "coderFromArrayLen", desc := "([BI)B" } : Jvm.MethodName) jdk_52_method_15_code (2 : Nat) (Option.some Jvm.ClassFile.FieldType.byte)).before args0 about1 = true := code_word (m := ⟨8, 7⟩) (meth := k8m7) (c := k8c7) (by decide +kernel) rfl rfl rfl (by decide +kernel)
set_option maxRecDepth 65536 in
theorem w_c7 : (Jvm.Cond.code ({ cls := "com/example/tynwald/tynwald/complaints/Comment", name := "parseText", desc := "(Ljava/lang/String;)Ljava/lang/String;" } : Jvm.MethodName) prog_31_method_2_code (1 : Nat) (Option.some (Jvm.ClassFile.FieldType.object "java/lang/String"))).before args0 about1 = true := code_word (m := ⟨10, 0⟩) (meth := k10m0) (c := k10c0) (by decide +kernel) rfl rfl rfl (by decide +kernel)
set_option maxRecDepth 65536 in
theorem w_c8 : (Jvm.Cond.code ({ cls := "java/util/Objects", name := "requireNonNull", desc := "(Ljava/lang/Object;Ljava/lang/String;)Ljava/lang/Object;" } : Jvm.MethodName) jdk_31_method_11_code (2 : Nat) (Option.some (Jvm.ClassFile.FieldType.object "java/lang/Object"))).before args0 about1 = true := code_word (m := ⟨11, 1⟩) (meth := k11m1) (c := k11c1) (by decide +kernel) rfl rfl rfl (by decide +kernel)
set_option maxRecDepth 65536 in
theorem w_c9 : (Jvm.Cond.code ({ cls := "java/lang/String", name := "isEmpty", desc := "()Z" } : Jvm.MethodName) jdk_42_method_55_code (1 : Nat) (Option.some Jvm.ClassFile.FieldType.boolean)).before args0 about1 = true := code_word (m := ⟨7, 3⟩) (meth := k7m3) (c := k7c3) (by decide +kernel) rfl rfl rfl (by decide +kernel)
set_option maxRecDepth 65536 in
theorem w_c10 : (Jvm.Cond.code ({ cls := "java/lang/String", name := "length", desc := "()I" } : Jvm.MethodName) jdk_42_method_54_code (1 : Nat) (Option.some Jvm.ClassFile.FieldType.int)).before args0 about1 = true := code_word (m := ⟨7, 2⟩) (meth := k7m2) (c := k7c2) (by decide +kernel) rfl rfl rfl (by decide +kernel)
set_option maxRecDepth 65536 in
theorem w_c11 : (Jvm.Cond.code ({ cls := "java/lang/String", name := "coder", desc := "()B" } : Jvm.MethodName) jdk_42_method_152_code (1 : Nat) (Option.some Jvm.ClassFile.FieldType.byte)).before args0 about1 = true := code_word (m := ⟨7, 6⟩) (meth := k7m6) (c := k7c6) (by decide +kernel) rfl rfl rfl (by decide +kernel)
set_option maxRecDepth 65536 in
theorem w_c12 : (Jvm.Cond.code ({ cls := "java/lang/String", name := "charAt", desc := "(I)C" } : Jvm.MethodName) jdk_42_method_56_code (2 : Nat) (Option.some Jvm.ClassFile.FieldType.char)).before args0 about1 = true := code_word (m := ⟨7, 4⟩) (meth := k7m4) (c := k7c4) (by decide +kernel) rfl rfl rfl (by decide +kernel)
set_option maxRecDepth 65536 in
theorem w_c13 : (Jvm.Cond.code ({ cls := "java/lang/String", name := "isLatin1", desc := "()Z" } : Jvm.MethodName) jdk_42_method_154_code (1 : Nat) (Option.some Jvm.ClassFile.FieldType.boolean)).before args0 about1 = true := code_word (m := ⟨7, 7⟩) (meth := k7m7) (c := k7c7) (by decide +kernel) rfl rfl rfl (by decide +kernel)
set_option maxRecDepth 65536 in
theorem w_c14 : (Jvm.Cond.code ({ cls := "java/lang/StringLatin1", name := "charAt", desc := "([BI)C" } : Jvm.MethodName) jdk_43_method_2_code (2 : Nat) (Option.some Jvm.ClassFile.FieldType.char)).before args0 about1 = true := code_word (m := ⟨12, 1⟩) (meth := k12m1) (c := k12c1) (by decide +kernel) rfl rfl rfl (by decide +kernel)
set_option maxRecDepth 65536 in
theorem w_c15 : (Jvm.Cond.code ({ cls := "java/lang/String", name := "checkIndex", desc := "(II)V" } : Jvm.MethodName) jdk_42_method_155_code (2 : Nat) (Option.none : Option Jvm.ClassFile.FieldType)).before args0 about1 = true := code_word (m := ⟨7, 8⟩) (meth := k7m8) (c := k7c8) (by decide +kernel) rfl rfl rfl (by decide +kernel)
set_option maxRecDepth 65536 in
theorem w_c16 : (Jvm.Cond.code ({ cls := "jdk/internal/util/Preconditions", name := "checkIndex", desc := "(IILjava/util/function/BiFunction;)I" } : Jvm.MethodName) jdk_41_method_11_code (3 : Nat) (Option.some Jvm.ClassFile.FieldType.int)).before args0 about1 = true := code_word (m := ⟨13, 1⟩) (meth := k13m1) (c := k13c1) (by decide +kernel) rfl rfl rfl (by decide +kernel)
set_option maxRecDepth 65536 in
theorem w_c17 : (Jvm.Cond.code ({ cls := "java/lang/StringUTF16", name := "toBytes", desc := "([CII)[B" } : Jvm.MethodName) jdk_52_method_14_code (5 : Nat) (Option.some (Jvm.ClassFile.FieldType.array Jvm.ClassFile.FieldType.byte))).before args0 about1 = true := code_word (m := ⟨8, 6⟩) (meth := k8m6) (c := k8c6) (by decide +kernel) rfl rfl rfl (by decide +kernel)
set_option maxRecDepth 65536 in
theorem w_c18 : (Jvm.Cond.code ({ cls := "java/lang/StringUTF16", name := "newBytesFor", desc := "(I)[B" } : Jvm.MethodName) jdk_52_method_2_code (1 : Nat) (Option.some (Jvm.ClassFile.FieldType.array Jvm.ClassFile.FieldType.byte))).before args0 about1 = true := code_word (m := ⟨8, 1⟩) (meth := k8m1) (c := k8c1) (by decide +kernel) rfl rfl rfl (by decide +kernel)
set_option maxRecDepth 65536 in
theorem w_c19 : (Jvm.Cond.code ({ cls := "java/lang/StringUTF16", name := "newBytesLength", desc := "(I)I" } : Jvm.MethodName) jdk_52_method_3_code (1 : Nat) (Option.some Jvm.ClassFile.FieldType.int)).before args0 about1 = true := code_word (m := ⟨8, 2⟩) (meth := k8m2) (c := k8c2) (by decide +kernel) rfl rfl rfl (by decide +kernel)
set_option maxRecDepth 65536 in
theorem w_c20 : (Jvm.Cond.code ({ cls := "java/lang/StringUTF16", name := "putChar", desc := "([BII)V" } : Jvm.MethodName) jdk_52_method_4_code (3 : Nat) (Option.none : Option Jvm.ClassFile.FieldType)).before args0 about1 = true := code_word (m := ⟨8, 3⟩) (meth := k8m3) (c := k8c3) (by decide +kernel) rfl rfl rfl (by decide +kernel)
set_option maxRecDepth 65536 in
theorem w_c21 : (Jvm.Cond.code ({ cls := "java/lang/StringUTF16", name := "getChar", desc := "([BI)C" } : Jvm.MethodName) jdk_52_method_5_code (2 : Nat) (Option.some Jvm.ClassFile.FieldType.char)).before args0 about1 = true := code_word (m := ⟨8, 4⟩) (meth := k8m4) (c := k8c4) (by decide +kernel) rfl rfl rfl (by decide +kernel)
set_option maxRecDepth 65536 in
theorem w_c22 : (Jvm.Cond.code ({ cls := "java/lang/StringUTF16", name := "charAt", desc := "([BI)C" } : Jvm.MethodName) jdk_52_method_83_code (2 : Nat) (Option.some Jvm.ClassFile.FieldType.char)).before args0 about1 = true := code_word (m := ⟨8, 10⟩) (meth := k8m10) (c := k8c10) (by decide +kernel) rfl rfl rfl (by decide +kernel)
set_option maxRecDepth 65536 in
theorem w_c23 : (Jvm.Cond.code ({ cls := "java/lang/StringUTF16", name := "checkIndex", desc := "(I[B)V" } : Jvm.MethodName) jdk_52_method_91_code (2 : Nat) (Option.none : Option Jvm.ClassFile.FieldType)).before args0 about1 = true := code_word (m := ⟨8, 11⟩) (meth := k8m11) (c := k8c11) (by decide +kernel) rfl rfl rfl (by decide +kernel)
set_option maxRecDepth 65536 in
theorem w_c24 : (Jvm.Cond.code ({ cls := "java/lang/StringUTF16", name := "length", desc := "([B)I" } : Jvm.MethodName) jdk_52_method_6_code (1 : Nat) (Option.some Jvm.ClassFile.FieldType.int)).before args0 about1 = true := code_word (m := ⟨8, 5⟩) (meth := k8m5) (c := k8c5) (by decide +kernel) rfl rfl rfl (by decide +kernel)
def codes1 : List Jvm.Cond := [Jvm.Cond.code x code maxLocals ret, Jvm.Cond.code ({ cls := "java/lang/String", name := "<init>", desc := "([C)V" } : Jvm.MethodName) jdk_42_method_3_code (2 : Nat) (Option.none : Option Jvm.ClassFile.FieldType), Jvm.Cond.code ({ cls := "java/lang/String", name := "<init>", desc := "([CIILjava/lang/Void;)V" } : Jvm.MethodName) jdk_42_method_149_code (6 : Nat) (Option.none : Option Jvm.ClassFile.FieldType), Jvm.Cond.code ({ cls := "java/lang/Object", name := "<init>", desc := "()V" } : Jvm.MethodName) object_method_1_code (1 : Nat) (Option.none : Option Jvm.ClassFile.FieldType), Jvm.Cond.code ({ cls := "java/lang/StringUTF16", name := "compress", desc := "([CII)[B" } : Jvm.MethodName) jdk_52_method_16_code (6 : Nat) (Option.some (Jvm.ClassFile.FieldType.array Jvm.ClassFile.FieldType.byte)), Jvm.Cond.code ({ cls := "java/lang/StringUTF16", name := "compress", desc := "([CI[BII)I" } : Jvm.MethodName) jdk_52_method_21_code (7 : Nat) (Option.some Jvm.ClassFile.FieldType.int), Jvm.Cond.code ({ cls := "java/lang/StringUTF16", name := "coderFromArrayLen", desc := "([BI)B" } : Jvm.MethodName) jdk_52_method_15_code (2 : Nat) (Option.some Jvm.ClassFile.FieldType.byte), Jvm.Cond.code ({ cls := "com/example/tynwald/tynwald/complaints/Comment", name := "parseText", desc := "(Ljava/lang/String;)Ljava/lang/String;" } : Jvm.MethodName) prog_31_method_2_code (1 : Nat) (Option.some (Jvm.ClassFile.FieldType.object "java/lang/String")), Jvm.Cond.code ({ cls := "java/util/Objects", name := "requireNonNull", desc := "(Ljava/lang/Object;Ljava/lang/String;)Ljava/lang/Object;" } : Jvm.MethodName) jdk_31_method_11_code (2 : Nat) (Option.some (Jvm.ClassFile.FieldType.object "java/lang/Object")), Jvm.Cond.code ({ cls := "java/lang/String", name := "isEmpty", desc := "()Z" } : Jvm.MethodName) jdk_42_method_55_code (1 : Nat) (Option.some Jvm.ClassFile.FieldType.boolean), Jvm.Cond.code ({ cls := "java/lang/String", name := "length", desc := "()I" } : Jvm.MethodName) jdk_42_method_54_code (1 : Nat) (Option.some Jvm.ClassFile.FieldType.int), Jvm.Cond.code ({ cls := "java/lang/String", name := "coder", desc := "()B" } : Jvm.MethodName) jdk_42_method_152_code (1 : Nat) (Option.some Jvm.ClassFile.FieldType.byte), Jvm.Cond.code ({ cls := "java/lang/String", name := "charAt", desc := "(I)C" } : Jvm.MethodName) jdk_42_method_56_code (2 : Nat) (Option.some Jvm.ClassFile.FieldType.char), Jvm.Cond.code ({ cls := "java/lang/String", name := "isLatin1", desc := "()Z" } : Jvm.MethodName) jdk_42_method_154_code (1 : Nat) (Option.some Jvm.ClassFile.FieldType.boolean), Jvm.Cond.code ({ cls := "java/lang/StringLatin1", name := "charAt", desc := "([BI)C" } : Jvm.MethodName) jdk_43_method_2_code (2 : Nat) (Option.some Jvm.ClassFile.FieldType.char), Jvm.Cond.code ({ cls := "java/lang/String", name := "checkIndex", desc := "(II)V" } : Jvm.MethodName) jdk_42_method_155_code (2 : Nat) (Option.none : Option Jvm.ClassFile.FieldType), Jvm.Cond.code ({ cls := "jdk/internal/util/Preconditions", name := "checkIndex", desc := "(IILjava/util/function/BiFunction;)I" } : Jvm.MethodName) jdk_41_method_11_code (3 : Nat) (Option.some Jvm.ClassFile.FieldType.int), Jvm.Cond.code ({ cls := "java/lang/StringUTF16", name := "toBytes", desc := "([CII)[B" } : Jvm.MethodName) jdk_52_method_14_code (5 : Nat) (Option.some (Jvm.ClassFile.FieldType.array Jvm.ClassFile.FieldType.byte)), Jvm.Cond.code ({ cls := "java/lang/StringUTF16", name := "newBytesFor", desc := "(I)[B" } : Jvm.MethodName) jdk_52_method_2_code (1 : Nat) (Option.some (Jvm.ClassFile.FieldType.array Jvm.ClassFile.FieldType.byte)), Jvm.Cond.code ({ cls := "java/lang/StringUTF16", name := "newBytesLength", desc := "(I)I" } : Jvm.MethodName) jdk_52_method_3_code (1 : Nat) (Option.some Jvm.ClassFile.FieldType.int), Jvm.Cond.code ({ cls := "java/lang/StringUTF16", name := "putChar", desc := "([BII)V" } : Jvm.MethodName) jdk_52_method_4_code (3 : Nat) (Option.none : Option Jvm.ClassFile.FieldType), Jvm.Cond.code ({ cls := "java/lang/StringUTF16", name := "getChar", desc := "([BI)C" } : Jvm.MethodName) jdk_52_method_5_code (2 : Nat) (Option.some Jvm.ClassFile.FieldType.char), Jvm.Cond.code ({ cls := "java/lang/StringUTF16", name := "charAt", desc := "([BI)C" } : Jvm.MethodName) jdk_52_method_83_code (2 : Nat) (Option.some Jvm.ClassFile.FieldType.char), Jvm.Cond.code ({ cls := "java/lang/StringUTF16", name := "checkIndex", desc := "(I[B)V" } : Jvm.MethodName) jdk_52_method_91_code (2 : Nat) (Option.none : Option Jvm.ClassFile.FieldType), Jvm.Cond.code ({ cls := "java/lang/StringUTF16", name := "length", desc := "([B)I" } : Jvm.MethodName) jdk_52_method_6_code (1 : Nat) (Option.some Jvm.ClassFile.FieldType.int)]
set_option maxRecDepth 65536 in
theorem codes_eq : words1.filter isCode = codes1 := rfl
theorem w_codes : ∀ c ∈ words1.filter isCode, c.before args0 about1 = true := by
  rw [codes_eq]
  intro c hc
  simp only [codes1, List.mem_cons, List.not_mem_nil, or_false] at hc
  rcases hc with rfl | rfl | rfl | rfl | rfl | rfl | rfl | rfl | rfl | rfl | rfl | rfl | rfl | rfl | rfl | rfl | rfl | rfl | rfl | rfl | rfl | rfl | rfl | rfl | rfl
  · exact w_c0
  · exact w_c1
  · exact w_c2
  · exact w_c3
  · exact w_c4
  · exact w_c5
  · exact w_c6
  · exact w_c7
  · exact w_c8
  · exact w_c9
  · exact w_c10
  · exact w_c11
  · exact w_c12
  · exact w_c13
  · exact w_c14
  · exact w_c15
  · exact w_c16
  · exact w_c17
  · exact w_c18
  · exact w_c19
  · exact w_c20
  · exact w_c21
  · exact w_c22
  · exact w_c23
  · exact w_c24
set_option maxRecDepth 65536 in
theorem w_t1 : (words1.take 24).all (fun c => isCode c || c.before args0 about1) = true := by decide +kernel
set_option maxRecDepth 65536 in
theorem w_t2 : ((words1.drop 24).take 24).all (fun c => isCode c || c.before args0 about1) = true := by decide +kernel
set_option maxRecDepth 65536 in
theorem w_t3 : (((words1.drop 24).drop 24).take 24).all (fun c => isCode c || c.before args0 about1) = true := by decide +kernel
set_option maxRecDepth 65536 in
theorem w_t4 : ((((words1.drop 24).drop 24).drop 24).take 24).all (fun c => isCode c || c.before args0 about1) = true := by decide +kernel
set_option maxRecDepth 65536 in
theorem w_t5 : ((((words1.drop 24).drop 24).drop 24).drop 24).all (fun c => isCode c || c.before args0 about1) = true := by decide +kernel
theorem w_tables : (allAtoms (Jvm.Cond.code x code maxLocals ret :: tables_1)).before args0 about1 = true := by
  rw [allAtoms_all]
  show words1.all (fun c => c.before args0 about1) = true
  refine all_split ?_ w_codes
  rw [← List.take_append_drop 24 words1, List.all_append, w_t1, ← List.take_append_drop 24 (words1.drop 24), List.all_append, w_t2, ← List.take_append_drop 24 ((words1.drop 24).drop 24), List.all_append, w_t3, ← List.take_append_drop 24 (((words1.drop 24).drop 24).drop 24), List.all_append, w_t4, w_t5]
  rfl
set_option maxRecDepth 65536 in
theorem w_rest : rest_1_c.before args0 about1 = true := by decide +kernel
set_option maxRecDepth 65536 in
theorem w_case : (Jvm.Cond.and given_1 narrow_1).before args0 about1 = true := by decide +kernel
theorem w_applies : (headSpec (Jvm.Cond.code x code maxLocals ret :: tables_1) room_1).applies x e0.platform about1 = true :=
  (Spec.applies_iff w_frames).mpr ⟨w_running, w_runnable, w_alone, w_named, w_hears, w_ripe, w_room, w_tables⟩
theorem atStart : AtStart classFile x code maxLocals ret World_1 tables_1 room_1 Calls_1 rest_1 Pre_1 launch0 p0 e0 about1 theMethod args0 below0 :=
  ⟨lists_1, trivial, launch0.admits_env _ _ _, launch0.least_env, fairChoices_fair.cas, fairChoices_fair.clock, w_frames, w_args, w_heap, w_applies, trivial, w_rest, w_case⟩
end start1
theorem witness_1 : WitnessClaimed_1 := ⟨start1.p0, start1.e0, start1.about1, start1.theMethod, start1.args0, start1.below0, start1.atStart⟩
end Jvm.Pilot.@@N@@
