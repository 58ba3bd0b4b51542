import JvmDerived
import JvmDerived.Pilot.@@N@@Statement
import JvmDerived.Pilot.@@N@@Code
set_option linter.unusedVariables false
set_option linter.unusedSimpArgs false

namespace Jvm.OwnK
open Sem ClassFile Op Lib Bundle Jvm.Free Jvm.Stand Jvm.LawKit Jvm.RoadKit
/-- is nothing ever interned? -/
def NW : Bool := true
/-- the tables since the start; where nothing is ever interned, the narrow word too -/
def Sn (EL : List (String × Nat)) (s : State) (vm0 : Vm) (k0 : Nat) : Prop := s.Since vm0 k0 ∧ (NW = true → s.WarmedH vm0)
/-- the end of an invocation, likewise -/
def RE (EL : List (String × Nat)) (s : State) (o : Outcome) (t : State) (L : List Loc) (k n : Nat) : Prop := ReturnedEndW s o t L k n ∧ (NW = true → s.WarmedH t.vm)
/-- where a walk stands: its Stand over the start with the tables at hand, what is known of the tables and the heap, and the fixed facts of the body -/
def Wk (p : Program) (l : Launch) (e : Env) (R : Room) (s : State) (m : MethodId) (args : Array Value) (below : List Frame) (meth : Method) (c : Code) (Z : State) (a0 : Array Value) (EL : List (String × Nat)) (n0 : Nat) (own nm : String) (bytes : ByteArray) (maxL : Nat) (ret : Option FieldType) (T : State) (vm0 : Vm) (h : Heap) (cells slots : Nat) : Prop :=
  (∃ (k0 : Nat) (locs : List Loc), Stand p l e R (s.setVm vm0) m args below meth c T locs cells slots ∧ Sn EL s vm0 k0 ∧ k0 ≤ h.size ∧ Fr n0 locs) ∧
  (T.heap = h ∧ Z.Warmed39 vm0 ∧ vm0.findClass own = some m.cls ∧ CHr Z EL s.vm s.heap vm0 h) ∧
  (Old Z n0 s.heap ∧ p.tables.exec = Jvm.exec ∧ c.code = bytes ∧ c.maxLocals = maxL ∧ meth.sig.returnType = ret ∧ meth.locks = false ∧ meth.name = nm ∧ EW Z a0 EL)
/-- from U the invocation comes to its end, returns, and Q holds there -/
def Go (p : Program) (e : Env) (below : List Frame) (s : State) (R : Room) (Z : State) (EL : List (String × Nat)) (n0 : Nat) (Q : Option Value → Vm → Heap → Prop) (U : State) : Prop :=
  ∃ s₂ o, Steps p.tables e below U s₂ ∧ s₂.status = .running ∧ Ended s₂ below o ∧ ∃ v L, o = .returned v ∧ Q v s₂.vm s₂.heap ∧ Fr n0 L ∧ CHr Z EL s.vm s.heap s₂.vm s₂.heap ∧ RE EL s o s₂ L R.cells R.slots
/-- a callee's contract -/
def Con (l : Launch) (Z : State) (EL : List (String × Nat)) (n0 : Nat) (y : MethodName) (bytes : ByteArray) (maxL : Nat) (ret : Option FieldType) (ws : List Cond) (rm : Room) (as' : Array Value) (h : Heap) (S : List Addr) (Q : Option Value → Vm → Heap → Prop) : Prop :=
  MetFree l y (head1 (Cond.code y bytes maxL ret :: ws) rm) (fun a U => a = as' ∧ Z.Warmed39 U.vm ∧ U.heap = h ∧ CHv Z EL U.vm h ∧ ∀ x ∈ S, Safe Z EL U.vm h x) (fun _ _ _ _ _ => True)
    (fun _ U o U' => ∃ v L, o = .returned v ∧ Q v U'.vm U'.heap ∧ Fr n0 L ∧ CHr Z EL U.vm U.heap U'.vm U'.heap ∧ RE EL U o U' L rm.cells rm.slots)
/-- a cell that this law made and that no booked literal is -/
def Mine (Z : State) (EL : List (String × Nat)) (n0 : Nat) (vm : Vm) (h : Heap) (a : Addr) : Prop := n0 ≤ a ∧ a < h.size ∧ Safe Z EL vm h a
section
variable {p : Program} {l : Launch} {e : Env} {R : Room} {s : State} {m : MethodId} {args : Array Value} {below : List Frame} {meth : Method} {c : Code} {Z : State} {a0 : Array Value} {EL : List (String × Nat)} {n0 : Nat} {own nm : String} {bytes : ByteArray} {maxL : Nat} {ret : Option FieldType} {T : State} {vm0 : Vm} {h : Heap} {cells slots : Nat} {Q : Option Value → Vm → Heap → Prop} {pc pc' : Nat} {Ls : Array Slot} {st : List Value}
theorem bl {a b : Nat} (h : Nat.ble a b = true) : a ≤ b := Nat.le_of_ble_eq_true h
theorem le {a b : Nat} (h : a = b) : a ≤ b := Nat.le_of_eq h
theorem bt {a b : Nat} (h : Nat.ble (a + 1) b = true) : a < b := Nat.le_of_ble_eq_true h
theorem nlt {a : Addr} {n : Nat} (h : a < n) : @LT.lt Nat instLTNat a n := h
theorem Mine.mv {vm vm' : Vm} {h h' : Heap} {a : Addr} (M : Mine Z EL n0 vm h a) (C : CHr Z EL vm h vm' h') : Mine Z EL n0 vm' h' a := ⟨M.1, Nat.lt_of_lt_of_le M.2.1 C.2.1, C.safe M.2.1 M.2.2⟩
theorem Go.up {U U' : State} (f : ∀ t, Steps p.tables e below U' t → Steps p.tables e below U t) (g : Go p e below s R Z EL n0 Q U') : Go p e below s R Z EL n0 Q U := by
  obtain ⟨s2, o, a, b⟩ := g
  exact ⟨s2, o, f _ a, b⟩
theorem Go.imp {U : State} {Q' : Option Value → Vm → Heap → Prop} (f : ∀ v vm h, Q v vm h → Q' v vm h) (g : Go p e below s R Z EL n0 Q U) : Go p e below s R Z EL n0 Q' U := by
  obtain ⟨s2, o, a, b, d, v, L, h1, h2, h3⟩ := g
  exact ⟨s2, o, a, b, d, v, L, h1, f _ _ _ h2, h3⟩
theorem Wk.here (W : Wk p l e R s m args below meth c Z a0 EL n0 own nm bytes maxL ret T vm0 h cells slots) : At T m c below := by obtain ⟨⟨_, _, X, _⟩, _⟩ := W; exact X.here
theorem Wk.ex (W : Wk p l e R s m args below meth c Z a0 EL n0 own nm bytes maxL ret T vm0 h cells slots) : p.tables.exec = Jvm.exec := W.2.2.2.1
theorem Wk.dec (W : Wk p l e R s m args below meth c Z a0 EL n0 own nm bytes maxL ret T vm0 h cells slots) {r : Except DecodeError (Instr × Nat)} (hd : decode bytes pc = r) : decode c.code pc = r := hb W.2.2.2.2.1 hd
theorem Wk.eh (W : Wk p l e R s m args below meth c Z a0 EL n0 own nm bytes maxL ret T vm0 h cells slots) : T.heap = h := W.2.1.1
theorem Wk.hz (W : Wk p l e R s m args below meth c Z a0 EL n0 own nm bytes maxL ret T vm0 h cells slots) : Z.Warmed39 vm0 := W.2.1.2.1
theorem Wk.hown (W : Wk p l e R s m args below meth c Z a0 EL n0 own nm bytes maxL ret T vm0 h cells slots) : vm0.findClass own = some m.cls := W.2.1.2.2.1
theorem Wk.chr (W : Wk p l e R s m args below meth c Z a0 EL n0 own nm bytes maxL ret T vm0 h cells slots) : CHr Z EL s.vm s.heap vm0 h := W.2.1.2.2.2
theorem Wk.chv (W : Wk p l e R s m args below meth c Z a0 EL n0 own nm bytes maxL ret T vm0 h cells slots) : CHv Z EL vm0 h := W.2.1.2.2.2.1
theorem Wk.el (W : Wk p l e R s m args below meth c Z a0 EL n0 own nm bytes maxL ret T vm0 h cells slots) : EW Z a0 EL := W.2.2.2.2.2.2.2.2.2
theorem Wk.ml (W : Wk p l e R s m args below meth c Z a0 EL n0 own nm bytes maxL ret T vm0 h cells slots) : c.maxLocals = maxL := W.2.2.2.2.2.1
theorem Wk.rt (W : Wk p l e R s m args below meth c Z a0 EL n0 own nm bytes maxL ret T vm0 h cells slots) : meth.sig.returnType = ret := W.2.2.2.2.2.2.1
theorem Wk.lk (W : Wk p l e R s m args below meth c Z a0 EL n0 own nm bytes maxL ret T vm0 h cells slots) : meth.locks = false := W.2.2.2.2.2.2.2.1
theorem Wk.name (W : Wk p l e R s m args below meth c Z a0 EL n0 own nm bytes maxL ret T vm0 h cells slots) : meth.name = nm := W.2.2.2.2.2.2.2.2.1
theorem Wk.grew (W : Wk p l e R s m args below meth c Z a0 EL n0 own nm bytes maxL ret T vm0 h cells slots) : s.heap.size ≤ h.size := W.chr.2.1
theorem Wk.old (W : Wk p l e R s m args below meth c Z a0 EL n0 own nm bytes maxL ret T vm0 h cells slots) : Old Z n0 h := by
  obtain ⟨⟨k0, locs, X, -, -, N⟩, ⟨rfl, -⟩, ⟨O, -⟩⟩ := W
  refine ⟨O.1, Nat.le_trans O.2.1 X.same.2.1, fun b cl hcl => ?_⟩
  have hs := O.2.2 b cl hcl
  obtain ⟨c', h1, h2, -, h4⟩ := X.same.2.2.2.2.2 b cl hs
  have hb := (Array.getElem?_eq_some_iff.mp hcl).1
  rw [O.1] at hb
  have hsl : c'.slots = cl.slots := Array.ext_getElem? fun i => h4 i fun hm => absurd (N _ hm) (Nat.not_le.mpr hb)
  have hcc : c' = cl := by rw [h2, hsl]
  rw [← hcc]; exact h1
theorem Wk.n0le (W : Wk p l e R s m args below meth c Z a0 EL n0 own nm bytes maxL ret T vm0 h cells slots) : n0 ≤ h.size := W.old.1 ▸ W.old.2.1
theorem Wk.more (W : Wk p l e R s m args below meth c Z a0 EL n0 own nm bytes maxL ret T vm0 h cells slots) {cells' slots' : Nat} (h1 : cells ≤ cells') (h2 : slots ≤ slots') : Wk p l e R s m args below meth c Z a0 EL n0 own nm bytes maxL ret T vm0 h cells' slots' := by
  obtain ⟨⟨k0, locs, X, r⟩, q⟩ := W
  exact ⟨⟨k0, locs, X.more h1 h2, r⟩, q⟩

theorem s_aload_n (W : Wk p l e R s m args below meth c Z a0 EL n0 own nm bytes maxL ret T vm0 h cells slots) {k : Fin 4} {v : Value} (hd : decode bytes pc = .ok (.aload_n k, 1)) (hl : Ls[k.val]? = some (.val v)) (hv : v.isRef = true) (hp : pc + 1 = pc') (k : Go p e below s R Z EL n0 Q (T.setTop (mkF m pc' Ls (v :: st)))) : Go p e below s R Z EL n0 Q (T.setTop (mkF m pc Ls st)) := by
  subst hp; exact Go.up (fun t q => Jvm.Free.XS.aloadN W.here W.ex rfl (W.dec hd) hl hv q) k
theorem s_aload (W : Wk p l e R s m args below meth c Z a0 EL n0 own nm bytes maxL ret T vm0 h cells slots) {k : Nat} {v : Value} (hd : decode bytes pc = .ok (.aload k, 2)) (hl : Ls[k]? = some (.val v)) (hv : v.isRef = true) (hp : pc + 2 = pc') (k : Go p e below s R Z EL n0 Q (T.setTop (mkF m pc' Ls (v :: st)))) : Go p e below s R Z EL n0 Q (T.setTop (mkF m pc Ls st)) := by
  subst hp; exact Go.up (fun t q => Jvm.Free.XS.aload W.here W.ex rfl (W.dec hd) hl hv q) k
theorem s_iload_n (W : Wk p l e R s m args below meth c Z a0 EL n0 own nm bytes maxL ret T vm0 h cells slots) {k : Fin 4} {v : Int32} (hd : decode bytes pc = .ok (.iload_n k, 1)) (hl : Ls[k.val]? = some (.val (.int v))) (hp : pc + 1 = pc') (k : Go p e below s R Z EL n0 Q (T.setTop (mkF m pc' Ls (.int v :: st)))) : Go p e below s R Z EL n0 Q (T.setTop (mkF m pc Ls st)) := by
  subst hp; exact Go.up (fun t q => Jvm.Free.XS.iloadN W.here W.ex rfl (W.dec hd) hl q) k
theorem s_iload (W : Wk p l e R s m args below meth c Z a0 EL n0 own nm bytes maxL ret T vm0 h cells slots) {k : Nat} {v : Int32} (hd : decode bytes pc = .ok (.iload k, 2)) (hl : Ls[k]? = some (.val (.int v))) (hp : pc + 2 = pc') (k : Go p e below s R Z EL n0 Q (T.setTop (mkF m pc' Ls (.int v :: st)))) : Go p e below s R Z EL n0 Q (T.setTop (mkF m pc Ls st)) := by
  subst hp; exact Go.up (fun t q => Jvm.Free.XS.iload W.here W.ex rfl (W.dec hd) hl q) k
theorem s_lload_n (W : Wk p l e R s m args below meth c Z a0 EL n0 own nm bytes maxL ret T vm0 h cells slots) {k : Fin 4} {v : Int64} (hd : decode bytes pc = .ok (.lload_n k, 1)) (hl : Ls[k.val]? = some (.val (.long v))) (hp : pc + 1 = pc') (k : Go p e below s R Z EL n0 Q (T.setTop (mkF m pc' Ls (.long v :: st)))) : Go p e below s R Z EL n0 Q (T.setTop (mkF m pc Ls st)) := by
  subst hp; exact Go.up (fun t q => Jvm.Free.XT.lloadN W.here W.ex rfl (W.dec hd) hl q) k
theorem s_lload (W : Wk p l e R s m args below meth c Z a0 EL n0 own nm bytes maxL ret T vm0 h cells slots) {k : Nat} {v : Int64} (hd : decode bytes pc = .ok (.lload k, 2)) (hl : Ls[k]? = some (.val (.long v))) (hp : pc + 2 = pc') (k : Go p e below s R Z EL n0 Q (T.setTop (mkF m pc' Ls (.long v :: st)))) : Go p e below s R Z EL n0 Q (T.setTop (mkF m pc Ls st)) := by
  subst hp; exact Go.up (fun t q => Jvm.Free.XT.lload W.here W.ex rfl (W.dec hd) hl q) k
theorem s_iconst (W : Wk p l e R s m args below meth c Z a0 EL n0 own nm bytes maxL ret T vm0 h cells slots) {i : Int} (v : Int32) (hd : decode bytes pc = .ok (.iconst i, 1)) (hv : Int32.ofInt i = v) (hp : pc + 1 = pc') (k : Go p e below s R Z EL n0 Q (T.setTop (mkF m pc' Ls (.int v :: st)))) : Go p e below s R Z EL n0 Q (T.setTop (mkF m pc Ls st)) := by
  subst hp; exact Go.up (fun t q => Jvm.Free.XT.iconstV W.here W.ex rfl v (W.dec hd) hv q) k
theorem s_bipush (W : Wk p l e R s m args below meth c Z a0 EL n0 own nm bytes maxL ret T vm0 h cells slots) {i : Int} (v : Int32) (hd : decode bytes pc = .ok (.bipush i, 2)) (hv : (Int8.ofInt i).toInt32 = v) (hp : pc + 2 = pc') (k : Go p e below s R Z EL n0 Q (T.setTop (mkF m pc' Ls (.int v :: st)))) : Go p e below s R Z EL n0 Q (T.setTop (mkF m pc Ls st)) := by
  subst hp; exact Go.up (fun t q => Jvm.Free.XT.bipushV W.here W.ex rfl v (W.dec hd) hv q) k
theorem s_sipush (W : Wk p l e R s m args below meth c Z a0 EL n0 own nm bytes maxL ret T vm0 h cells slots) {i : Int} (v : Int32) (hd : decode bytes pc = .ok (.sipush i, 3)) (hv : (Int16.ofInt i).toInt32 = v) (hp : pc + 3 = pc') (k : Go p e below s R Z EL n0 Q (T.setTop (mkF m pc' Ls (.int v :: st)))) : Go p e below s R Z EL n0 Q (T.setTop (mkF m pc Ls st)) := by
  subst hp; exact Go.up (fun t q => Jvm.Free.XT.sipushV W.here W.ex rfl v (W.dec hd) hv q) k
theorem s_lconst (W : Wk p l e R s m args below meth c Z a0 EL n0 own nm bytes maxL ret T vm0 h cells slots) {k : Fin 2} (v : Int64) (hd : decode bytes pc = .ok (.lconst k, 1)) (hv : Int64.ofNat k = v) (hp : pc + 1 = pc') (k : Go p e below s R Z EL n0 Q (T.setTop (mkF m pc' Ls (.long v :: st)))) : Go p e below s R Z EL n0 Q (T.setTop (mkF m pc Ls st)) := by
  subst hp; exact Go.up (fun t q => Jvm.Free.XT.lconstV W.here W.ex rfl v (W.dec hd) hv q) k
theorem s_aconst_null (W : Wk p l e R s m args below meth c Z a0 EL n0 own nm bytes maxL ret T vm0 h cells slots)  (hd : decode bytes pc = .ok (.aconst_null, 1))  (hp : pc + 1 = pc') (k : Go p e below s R Z EL n0 Q (T.setTop (mkF m pc' Ls (.null :: st)))) : Go p e below s R Z EL n0 Q (T.setTop (mkF m pc Ls st)) := by
  subst hp; exact Go.up (fun t q => Jvm.Free.XS.aconstNull W.here W.ex rfl (W.dec hd)  q) k
theorem s_iadd (W : Wk p l e R s m args below meth c Z a0 EL n0 own nm bytes maxL ret T vm0 h cells slots) {x y : Int32} (hd : decode bytes pc = .ok (.iadd, 1))  (hp : pc + 1 = pc') (k : Go p e below s R Z EL n0 Q (T.setTop (mkF m pc' Ls (.int (x + y) :: st)))) : Go p e below s R Z EL n0 Q (T.setTop (mkF m pc Ls (.int y :: .int x :: st))) := by
  subst hp; exact Go.up (fun t q => Jvm.Free.XS.iadd W.here W.ex rfl (W.dec hd) rfl q) k
theorem s_isub (W : Wk p l e R s m args below meth c Z a0 EL n0 own nm bytes maxL ret T vm0 h cells slots) {x y : Int32} (hd : decode bytes pc = .ok (.isub, 1))  (hp : pc + 1 = pc') (k : Go p e below s R Z EL n0 Q (T.setTop (mkF m pc' Ls (.int (x - y) :: st)))) : Go p e below s R Z EL n0 Q (T.setTop (mkF m pc Ls (.int y :: .int x :: st))) := by
  subst hp; exact Go.up (fun t q => Jvm.Free.XS.isub W.here W.ex rfl (W.dec hd) rfl q) k
theorem s_iand (W : Wk p l e R s m args below meth c Z a0 EL n0 own nm bytes maxL ret T vm0 h cells slots) {x y : Int32} (hd : decode bytes pc = .ok (.iand, 1))  (hp : pc + 1 = pc') (k : Go p e below s R Z EL n0 Q (T.setTop (mkF m pc' Ls (.int (x &&& y) :: st)))) : Go p e below s R Z EL n0 Q (T.setTop (mkF m pc Ls (.int y :: .int x :: st))) := by
  subst hp; exact Go.up (fun t q => Jvm.Free.XS.iand W.here W.ex rfl (W.dec hd) rfl q) k
theorem s_imul (W : Wk p l e R s m args below meth c Z a0 EL n0 own nm bytes maxL ret T vm0 h cells slots) {x y : Int32} (hd : decode bytes pc = .ok (.imul, 1))  (hp : pc + 1 = pc') (k : Go p e below s R Z EL n0 Q (T.setTop (mkF m pc' Ls (.int (x * y) :: st)))) : Go p e below s R Z EL n0 Q (T.setTop (mkF m pc Ls (.int y :: .int x :: st))) := by
  subst hp; exact Go.up (fun t q => Jvm.Free.XS.imul W.here W.ex rfl (W.dec hd) rfl q) k
theorem s_ixor (W : Wk p l e R s m args below meth c Z a0 EL n0 own nm bytes maxL ret T vm0 h cells slots) {x y : Int32} (hd : decode bytes pc = .ok (.ixor, 1))  (hp : pc + 1 = pc') (k : Go p e below s R Z EL n0 Q (T.setTop (mkF m pc' Ls (.int (x ^^^ y) :: st)))) : Go p e below s R Z EL n0 Q (T.setTop (mkF m pc Ls (.int y :: .int x :: st))) := by
  subst hp; exact Go.up (fun t q => Jvm.Free.XT.ixor W.here W.ex rfl (W.dec hd) rfl q) k
theorem s_ior (W : Wk p l e R s m args below meth c Z a0 EL n0 own nm bytes maxL ret T vm0 h cells slots) {x y : Int32} (hd : decode bytes pc = .ok (.ior, 1))  (hp : pc + 1 = pc') (k : Go p e below s R Z EL n0 Q (T.setTop (mkF m pc' Ls (.int (x ||| y) :: st)))) : Go p e below s R Z EL n0 Q (T.setTop (mkF m pc Ls (.int y :: .int x :: st))) := by
  subst hp; exact Go.up (fun t q => Jvm.Free.XT.ior W.here W.ex rfl (W.dec hd) rfl q) k
theorem s_ishl (W : Wk p l e R s m args below meth c Z a0 EL n0 own nm bytes maxL ret T vm0 h cells slots) {x y : Int32} (hd : decode bytes pc = .ok (.ishl, 1))  (hp : pc + 1 = pc') (k : Go p e below s R Z EL n0 Q (T.setTop (mkF m pc' Ls (.int (x <<< (y &&& 31)) :: st)))) : Go p e below s R Z EL n0 Q (T.setTop (mkF m pc Ls (.int y :: .int x :: st))) := by
  subst hp; exact Go.up (fun t q => Jvm.Free.XT.ishl W.here W.ex rfl (W.dec hd) rfl q) k
theorem s_ishr (W : Wk p l e R s m args below meth c Z a0 EL n0 own nm bytes maxL ret T vm0 h cells slots) {x y : Int32} (hd : decode bytes pc = .ok (.ishr, 1))  (hp : pc + 1 = pc') (k : Go p e below s R Z EL n0 Q (T.setTop (mkF m pc' Ls (.int (x >>> (y &&& 31)) :: st)))) : Go p e below s R Z EL n0 Q (T.setTop (mkF m pc Ls (.int y :: .int x :: st))) := by
  subst hp; exact Go.up (fun t q => Jvm.Free.XT.ishr W.here W.ex rfl (W.dec hd) rfl q) k
theorem s_iushr (W : Wk p l e R s m args below meth c Z a0 EL n0 own nm bytes maxL ret T vm0 h cells slots) {x y : Int32} (hd : decode bytes pc = .ok (.iushr, 1))  (hp : pc + 1 = pc') (k : Go p e below s R Z EL n0 Q (T.setTop (mkF m pc' Ls (.int (Jvm.Free.XT.ushr x y) :: st)))) : Go p e below s R Z EL n0 Q (T.setTop (mkF m pc Ls (.int y :: .int x :: st))) := by
  subst hp; exact Go.up (fun t q => Jvm.Free.XT.iushr W.here W.ex rfl (W.dec hd) rfl q) k
theorem s_ladd (W : Wk p l e R s m args below meth c Z a0 EL n0 own nm bytes maxL ret T vm0 h cells slots) {x y : Int64} (hd : decode bytes pc = .ok (.ladd, 1))  (hp : pc + 1 = pc') (k : Go p e below s R Z EL n0 Q (T.setTop (mkF m pc' Ls (.long (x + y) :: st)))) : Go p e below s R Z EL n0 Q (T.setTop (mkF m pc Ls (.long y :: .long x :: st))) := by
  subst hp; exact Go.up (fun t q => Jvm.Free.XT.ladd W.here W.ex rfl (W.dec hd) rfl q) k
theorem s_lsub (W : Wk p l e R s m args below meth c Z a0 EL n0 own nm bytes maxL ret T vm0 h cells slots) {x y : Int64} (hd : decode bytes pc = .ok (.lsub, 1))  (hp : pc + 1 = pc') (k : Go p e below s R Z EL n0 Q (T.setTop (mkF m pc' Ls (.long (x - y) :: st)))) : Go p e below s R Z EL n0 Q (T.setTop (mkF m pc Ls (.long y :: .long x :: st))) := by
  subst hp; exact Go.up (fun t q => Jvm.Free.XT.lsub W.here W.ex rfl (W.dec hd) rfl q) k
theorem s_lmul (W : Wk p l e R s m args below meth c Z a0 EL n0 own nm bytes maxL ret T vm0 h cells slots) {x y : Int64} (hd : decode bytes pc = .ok (.lmul, 1))  (hp : pc + 1 = pc') (k : Go p e below s R Z EL n0 Q (T.setTop (mkF m pc' Ls (.long (x * y) :: st)))) : Go p e below s R Z EL n0 Q (T.setTop (mkF m pc Ls (.long y :: .long x :: st))) := by
  subst hp; exact Go.up (fun t q => Jvm.Free.XT.lmul W.here W.ex rfl (W.dec hd) rfl q) k
theorem s_land (W : Wk p l e R s m args below meth c Z a0 EL n0 own nm bytes maxL ret T vm0 h cells slots) {x y : Int64} (hd : decode bytes pc = .ok (.land, 1))  (hp : pc + 1 = pc') (k : Go p e below s R Z EL n0 Q (T.setTop (mkF m pc' Ls (.long (x &&& y) :: st)))) : Go p e below s R Z EL n0 Q (T.setTop (mkF m pc Ls (.long y :: .long x :: st))) := by
  subst hp; exact Go.up (fun t q => Jvm.Free.XT.land W.here W.ex rfl (W.dec hd) rfl q) k
theorem s_lor (W : Wk p l e R s m args below meth c Z a0 EL n0 own nm bytes maxL ret T vm0 h cells slots) {x y : Int64} (hd : decode bytes pc = .ok (.lor, 1))  (hp : pc + 1 = pc') (k : Go p e below s R Z EL n0 Q (T.setTop (mkF m pc' Ls (.long (x ||| y) :: st)))) : Go p e below s R Z EL n0 Q (T.setTop (mkF m pc Ls (.long y :: .long x :: st))) := by
  subst hp; exact Go.up (fun t q => Jvm.Free.XT.lor W.here W.ex rfl (W.dec hd) rfl q) k
theorem s_lxor (W : Wk p l e R s m args below meth c Z a0 EL n0 own nm bytes maxL ret T vm0 h cells slots) {x y : Int64} (hd : decode bytes pc = .ok (.lxor, 1))  (hp : pc + 1 = pc') (k : Go p e below s R Z EL n0 Q (T.setTop (mkF m pc' Ls (.long (x ^^^ y) :: st)))) : Go p e below s R Z EL n0 Q (T.setTop (mkF m pc Ls (.long y :: .long x :: st))) := by
  subst hp; exact Go.up (fun t q => Jvm.Free.XT.lxor W.here W.ex rfl (W.dec hd) rfl q) k
theorem s_lshl (W : Wk p l e R s m args below meth c Z a0 EL n0 own nm bytes maxL ret T vm0 h cells slots) {x : Int64} {y : Int32} (hd : decode bytes pc = .ok (.lshl, 1))  (hp : pc + 1 = pc') (k : Go p e below s R Z EL n0 Q (T.setTop (mkF m pc' Ls (.long (x <<< (y.toInt64 &&& 63)) :: st)))) : Go p e below s R Z EL n0 Q (T.setTop (mkF m pc Ls (.int y :: .long x :: st))) := by
  subst hp; exact Go.up (fun t q => Jvm.Free.XT.lshl W.here W.ex rfl (W.dec hd) rfl q) k
theorem s_lshr (W : Wk p l e R s m args below meth c Z a0 EL n0 own nm bytes maxL ret T vm0 h cells slots) {x : Int64} {y : Int32} (hd : decode bytes pc = .ok (.lshr, 1))  (hp : pc + 1 = pc') (k : Go p e below s R Z EL n0 Q (T.setTop (mkF m pc' Ls (.long (x >>> (y.toInt64 &&& 63)) :: st)))) : Go p e below s R Z EL n0 Q (T.setTop (mkF m pc Ls (.int y :: .long x :: st))) := by
  subst hp; exact Go.up (fun t q => Jvm.Free.XT.lshr W.here W.ex rfl (W.dec hd) rfl q) k
theorem s_lushr (W : Wk p l e R s m args below meth c Z a0 EL n0 own nm bytes maxL ret T vm0 h cells slots) {x : Int64} {y : Int32} (hd : decode bytes pc = .ok (.lushr, 1))  (hp : pc + 1 = pc') (k : Go p e below s R Z EL n0 Q (T.setTop (mkF m pc' Ls (.long (Jvm.Free.XT.ushrL x y) :: st)))) : Go p e below s R Z EL n0 Q (T.setTop (mkF m pc Ls (.int y :: .long x :: st))) := by
  subst hp; exact Go.up (fun t q => Jvm.Free.XT.lushr W.here W.ex rfl (W.dec hd) rfl q) k
theorem s_ineg (W : Wk p l e R s m args below meth c Z a0 EL n0 own nm bytes maxL ret T vm0 h cells slots) {x : Int32} (hd : decode bytes pc = .ok (.ineg, 1))  (hp : pc + 1 = pc') (k : Go p e below s R Z EL n0 Q (T.setTop (mkF m pc' Ls (.int (-x) :: st)))) : Go p e below s R Z EL n0 Q (T.setTop (mkF m pc Ls (.int x :: st))) := by
  subst hp; exact Go.up (fun t q => Jvm.Free.XS.ineg W.here W.ex rfl (W.dec hd) rfl q) k
theorem s_lneg (W : Wk p l e R s m args below meth c Z a0 EL n0 own nm bytes maxL ret T vm0 h cells slots) {x : Int64} (hd : decode bytes pc = .ok (.lneg, 1))  (hp : pc + 1 = pc') (k : Go p e below s R Z EL n0 Q (T.setTop (mkF m pc' Ls (.long (-x) :: st)))) : Go p e below s R Z EL n0 Q (T.setTop (mkF m pc Ls (.long x :: st))) := by
  subst hp; exact Go.up (fun t q => Jvm.Free.XT.lneg W.here W.ex rfl (W.dec hd) rfl q) k
theorem s_i2l (W : Wk p l e R s m args below meth c Z a0 EL n0 own nm bytes maxL ret T vm0 h cells slots) {x : Int32} (hd : decode bytes pc = .ok (.i2l, 1))  (hp : pc + 1 = pc') (k : Go p e below s R Z EL n0 Q (T.setTop (mkF m pc' Ls (.long x.toInt64 :: st)))) : Go p e below s R Z EL n0 Q (T.setTop (mkF m pc Ls (.int x :: st))) := by
  subst hp; exact Go.up (fun t q => Jvm.Free.XT.i2l W.here W.ex rfl (W.dec hd) rfl q) k
theorem s_l2i (W : Wk p l e R s m args below meth c Z a0 EL n0 own nm bytes maxL ret T vm0 h cells slots) {x : Int64} (hd : decode bytes pc = .ok (.l2i, 1))  (hp : pc + 1 = pc') (k : Go p e below s R Z EL n0 Q (T.setTop (mkF m pc' Ls (.int x.toInt32 :: st)))) : Go p e below s R Z EL n0 Q (T.setTop (mkF m pc Ls (.long x :: st))) := by
  subst hp; exact Go.up (fun t q => Jvm.Free.XT.l2i W.here W.ex rfl (W.dec hd) rfl q) k
theorem s_i2b (W : Wk p l e R s m args below meth c Z a0 EL n0 own nm bytes maxL ret T vm0 h cells slots) {x : Int32} (hd : decode bytes pc = .ok (.i2b, 1))  (hp : pc + 1 = pc') (k : Go p e below s R Z EL n0 Q (T.setTop (mkF m pc' Ls (.int x.toInt8.toInt32 :: st)))) : Go p e below s R Z EL n0 Q (T.setTop (mkF m pc Ls (.int x :: st))) := by
  subst hp; exact Go.up (fun t q => Jvm.Free.XT.i2b W.here W.ex rfl (W.dec hd) rfl q) k
theorem s_i2c (W : Wk p l e R s m args below meth c Z a0 EL n0 own nm bytes maxL ret T vm0 h cells slots) {x : Int32} (hd : decode bytes pc = .ok (.i2c, 1))  (hp : pc + 1 = pc') (k : Go p e below s R Z EL n0 Q (T.setTop (mkF m pc' Ls (.int x.toUInt32.toUInt16.toUInt32.toInt32 :: st)))) : Go p e below s R Z EL n0 Q (T.setTop (mkF m pc Ls (.int x :: st))) := by
  subst hp; exact Go.up (fun t q => Jvm.Free.XT.i2c W.here W.ex rfl (W.dec hd) rfl q) k
theorem s_i2s (W : Wk p l e R s m args below meth c Z a0 EL n0 own nm bytes maxL ret T vm0 h cells slots) {x : Int32} (hd : decode bytes pc = .ok (.i2s, 1))  (hp : pc + 1 = pc') (k : Go p e below s R Z EL n0 Q (T.setTop (mkF m pc' Ls (.int x.toInt16.toInt32 :: st)))) : Go p e below s R Z EL n0 Q (T.setTop (mkF m pc Ls (.int x :: st))) := by
  subst hp; exact Go.up (fun t q => Jvm.Free.XT.i2s W.here W.ex rfl (W.dec hd) rfl q) k
theorem s_lcmp (W : Wk p l e R s m args below meth c Z a0 EL n0 own nm bytes maxL ret T vm0 h cells slots) {x y : Int64} (hd : decode bytes pc = .ok (.lcmp, 1))  (hp : pc + 1 = pc') (k : Go p e below s R Z EL n0 Q (T.setTop (mkF m pc' Ls (.int (Jvm.Free.XT.cmpL x y) :: st)))) : Go p e below s R Z EL n0 Q (T.setTop (mkF m pc Ls (.long y :: .long x :: st))) := by
  subst hp; exact Go.up (fun t q => Jvm.Free.XT.lcmp W.here W.ex rfl (W.dec hd) rfl q) k
theorem s_idiv (W : Wk p l e R s m args below meth c Z a0 EL n0 own nm bytes maxL ret T vm0 h cells slots) {x y : Int32} (hd : decode bytes pc = .ok (.idiv, 1)) (hy : y ≠ 0) (hp : pc + 1 = pc') (k : Go p e below s R Z EL n0 Q (T.setTop (mkF m pc' Ls (.int (x / y) :: st)))) : Go p e below s R Z EL n0 Q (T.setTop (mkF m pc Ls (.int y :: .int x :: st))) := by
  subst hp; exact Go.up (fun t q => Jvm.Free.XS.idiv W.here W.ex rfl (W.dec hd) rfl hy q) k
theorem s_ldiv (W : Wk p l e R s m args below meth c Z a0 EL n0 own nm bytes maxL ret T vm0 h cells slots) {x y : Int64} (hd : decode bytes pc = .ok (.ldiv, 1)) (hy : y ≠ 0) (hp : pc + 1 = pc') (k : Go p e below s R Z EL n0 Q (T.setTop (mkF m pc' Ls (.long (x / y) :: st)))) : Go p e below s R Z EL n0 Q (T.setTop (mkF m pc Ls (.long y :: .long x :: st))) := by
  subst hp; exact Go.up (fun t q => Jvm.Free.XT.ldiv W.here W.ex rfl (W.dec hd) rfl hy q) k
theorem s_irem (W : Wk p l e R s m args below meth c Z a0 EL n0 own nm bytes maxL ret T vm0 h cells slots) {x y : Int32} (hd : decode bytes pc = .ok (.irem, 1)) (hy : y ≠ 0) (hp : pc + 1 = pc') (k : Go p e below s R Z EL n0 Q (T.setTop (mkF m pc' Ls (.int (x % y) :: st)))) : Go p e below s R Z EL n0 Q (T.setTop (mkF m pc Ls (.int y :: .int x :: st))) := by
  subst hp; exact Go.up (fun t q => Jvm.Free.XS.irem W.here W.ex rfl (W.dec hd) rfl hy (by rw [show x - x / y * y = x % y from irem_eq_mod x y]; exact q)) k
theorem s_lrem (W : Wk p l e R s m args below meth c Z a0 EL n0 own nm bytes maxL ret T vm0 h cells slots) {x y : Int64} (hd : decode bytes pc = .ok (.lrem, 1)) (hy : y ≠ 0) (hp : pc + 1 = pc') (k : Go p e below s R Z EL n0 Q (T.setTop (mkF m pc' Ls (.long (x % y) :: st)))) : Go p e below s R Z EL n0 Q (T.setTop (mkF m pc Ls (.long y :: .long x :: st))) := by
  subst hp; exact Go.up (fun t q => Jvm.Free.XT.lrem W.here W.ex rfl (W.dec hd) rfl hy (by rw [show x - x / y * y = x % y from lrem_mod x y]; exact q)) k
theorem s_dup (W : Wk p l e R s m args below meth c Z a0 EL n0 own nm bytes maxL ret T vm0 h cells slots) {x : Value} (hd : decode bytes pc = .ok (.dup, 1)) (hc : x.category = 1) (hp : pc + 1 = pc') (k : Go p e below s R Z EL n0 Q (T.setTop (mkF m pc' Ls (x :: x :: st)))) : Go p e below s R Z EL n0 Q (T.setTop (mkF m pc Ls (x :: st))) := by
  subst hp; exact Go.up (fun t q => Jvm.Free.XS.dup W.here W.ex rfl (W.dec hd) rfl hc q) k
theorem s_pop (W : Wk p l e R s m args below meth c Z a0 EL n0 own nm bytes maxL ret T vm0 h cells slots) {x : Value} (hd : decode bytes pc = .ok (.pop, 1)) (hc : x.category = 1) (hp : pc + 1 = pc') (k : Go p e below s R Z EL n0 Q (T.setTop (mkF m pc' Ls st))) : Go p e below s R Z EL n0 Q (T.setTop (mkF m pc Ls (x :: st))) := by
  subst hp; exact Go.up (fun t q => Jvm.Free.XT.pop W.here W.ex rfl (W.dec hd) rfl hc q) k
theorem s_dup_x1 (W : Wk p l e R s m args below meth c Z a0 EL n0 own nm bytes maxL ret T vm0 h cells slots) {x y : Value} (hd : decode bytes pc = .ok (.dup_x1, 1)) (hc : x.category = 1) (hc' : y.category = 1) (hp : pc + 1 = pc') (k : Go p e below s R Z EL n0 Q (T.setTop (mkF m pc' Ls (x :: y :: x :: st)))) : Go p e below s R Z EL n0 Q (T.setTop (mkF m pc Ls (x :: y :: st))) := by
  subst hp; exact Go.up (fun t q => Jvm.Free.XT.dupX1 W.here W.ex rfl (W.dec hd) rfl hc hc' q) k
theorem s_dup2 (W : Wk p l e R s m args below meth c Z a0 EL n0 own nm bytes maxL ret T vm0 h cells slots) {x y : Value} (hd : decode bytes pc = .ok (.dup2, 1)) (hc : x.category = 1) (hc' : y.category = 1) (hp : pc + 1 = pc') (k : Go p e below s R Z EL n0 Q (T.setTop (mkF m pc' Ls (x :: y :: x :: y :: st)))) : Go p e below s R Z EL n0 Q (T.setTop (mkF m pc Ls (x :: y :: st))) := by
  subst hp; exact Go.up (fun t q => Jvm.Free.XT.dup2 W.here W.ex rfl (W.dec hd) rfl hc hc' q) k
theorem s_dup2L (W : Wk p l e R s m args below meth c Z a0 EL n0 own nm bytes maxL ret T vm0 h cells slots) {x : Int64} (hd : decode bytes pc = .ok (.dup2, 1))  (hp : pc + 1 = pc') (k : Go p e below s R Z EL n0 Q (T.setTop (mkF m pc' Ls (.long x :: .long x :: st)))) : Go p e below s R Z EL n0 Q (T.setTop (mkF m pc Ls (.long x :: st))) := by
  subst hp; exact Go.up (fun t q => Jvm.Free.XT.dup2L W.here W.ex rfl (W.dec hd) rfl q) k
theorem s_istore_n (W : Wk p l e R s m args below meth c Z a0 EL n0 own nm bytes maxL ret T vm0 h cells slots) {k : Fin 4} {x : Int32} (l' : Array Slot) (hd : decode bytes pc = .ok (.istore_n k, 1)) (hl : storeLocals Ls k.val (.int x) = some l') (hp : pc + 1 = pc') (k : Go p e below s R Z EL n0 Q (T.setTop (mkF m pc' l' st))) : Go p e below s R Z EL n0 Q (T.setTop (mkF m pc Ls (.int x :: st))) := by
  subst hp; exact Go.up (fun t q => Jvm.Free.XS.istoreN W.here W.ex rfl (W.dec hd) rfl hl q) k
theorem s_istore (W : Wk p l e R s m args below meth c Z a0 EL n0 own nm bytes maxL ret T vm0 h cells slots) {k : Nat} {x : Int32} (l' : Array Slot) (hd : decode bytes pc = .ok (.istore k, 2)) (hl : storeLocals Ls k (.int x) = some l') (hp : pc + 2 = pc') (k : Go p e below s R Z EL n0 Q (T.setTop (mkF m pc' l' st))) : Go p e below s R Z EL n0 Q (T.setTop (mkF m pc Ls (.int x :: st))) := by
  subst hp; exact Go.up (fun t q => Jvm.Free.XS.istore W.here W.ex rfl (W.dec hd) rfl hl q) k
theorem s_astore_n (W : Wk p l e R s m args below meth c Z a0 EL n0 own nm bytes maxL ret T vm0 h cells slots) {k : Fin 4} {x : Value} (l' : Array Slot) (hd : decode bytes pc = .ok (.astore_n k, 1)) (hv : x.isRef = true) (hl : storeLocals Ls k.val x = some l') (hp : pc + 1 = pc') (k : Go p e below s R Z EL n0 Q (T.setTop (mkF m pc' l' st))) : Go p e below s R Z EL n0 Q (T.setTop (mkF m pc Ls (x :: st))) := by
  subst hp; exact Go.up (fun t q => Jvm.Free.XS.astoreN W.here W.ex rfl (W.dec hd) rfl hv hl q) k
theorem s_astore (W : Wk p l e R s m args below meth c Z a0 EL n0 own nm bytes maxL ret T vm0 h cells slots) {k : Nat} {x : Value} (l' : Array Slot) (hd : decode bytes pc = .ok (.astore k, 2)) (hv : x.isRef = true) (hl : storeLocals Ls k x = some l') (hp : pc + 2 = pc') (k : Go p e below s R Z EL n0 Q (T.setTop (mkF m pc' l' st))) : Go p e below s R Z EL n0 Q (T.setTop (mkF m pc Ls (x :: st))) := by
  subst hp; exact Go.up (fun t q => Jvm.Free.XS.astore W.here W.ex rfl (W.dec hd) rfl hv hl q) k
theorem s_lstore_n (W : Wk p l e R s m args below meth c Z a0 EL n0 own nm bytes maxL ret T vm0 h cells slots) {k : Fin 4} {x : Int64} (l' : Array Slot) (hd : decode bytes pc = .ok (.lstore_n k, 1)) (hl : storeLocals Ls k.val (.long x) = some l') (hp : pc + 1 = pc') (k : Go p e below s R Z EL n0 Q (T.setTop (mkF m pc' l' st))) : Go p e below s R Z EL n0 Q (T.setTop (mkF m pc Ls (.long x :: st))) := by
  subst hp; exact Go.up (fun t q => Jvm.Free.XT.lstoreN W.here W.ex rfl (W.dec hd) rfl hl q) k
theorem s_lstore (W : Wk p l e R s m args below meth c Z a0 EL n0 own nm bytes maxL ret T vm0 h cells slots) {k : Nat} {x : Int64} (l' : Array Slot) (hd : decode bytes pc = .ok (.lstore k, 2)) (hl : storeLocals Ls k (.long x) = some l') (hp : pc + 2 = pc') (k : Go p e below s R Z EL n0 Q (T.setTop (mkF m pc' l' st))) : Go p e below s R Z EL n0 Q (T.setTop (mkF m pc Ls (.long x :: st))) := by
  subst hp; exact Go.up (fun t q => Jvm.Free.XT.lstore W.here W.ex rfl (W.dec hd) rfl hl q) k
theorem s_iinc (W : Wk p l e R s m args below meth c Z a0 EL n0 own nm bytes maxL ret T vm0 h cells slots) {k : Nat} {cst : Int} {x : Int32} (v : Int32) (l' : Array Slot) (hd : decode bytes pc = .ok (.iinc k cst, 3)) (hv : Int32.ofInt cst = v) (hl : Ls[k]? = some (.val (.int x))) (hl' : storeLocals Ls k (.int (x + v)) = some l') (hp : pc + 3 = pc') (k : Go p e below s R Z EL n0 Q (T.setTop (mkF m pc' l' st))) : Go p e below s R Z EL n0 Q (T.setTop (mkF m pc Ls st)) := by
  subst hp; exact Go.up (fun t q => Jvm.Free.XT.iincV W.here W.ex rfl v (W.dec hd) hv hl hl' q) k
theorem s_goto (W : Wk p l e R s m args below meth c Z a0 EL n0 own nm bytes maxL ret T vm0 h cells slots) {o : Int} (hd : decode bytes pc = .ok (.goto o, 3)) (ho : 0 ≤ (pc : Int) + o) (hp : ((pc : Int) + o).toNat = pc') (k : Go p e below s R Z EL n0 Q (T.setTop (mkF m pc' Ls st))) : Go p e below s R Z EL n0 Q (T.setTop (mkF m pc Ls st)) :=
  Go.up (fun t q => Jvm.Free.XS.goto W.here W.ex rfl rfl (W.dec hd) ho hp q) k
theorem s_ifeq (W : Wk p l e R s m args below meth c Z a0 EL n0 own nm bytes maxL ret T vm0 h cells slots) {x : Int32} {o : Int} {pcT : Nat} (hd : decode bytes pc = .ok (.ifCond .eq o, 3)) (ho : 0 ≤ (pc : Int) + o) (hpT : ((pc : Int) + o).toNat = pcT) (hp : pc + 3 = pc') (ky : x = 0 → Go p e below s R Z EL n0 Q (T.setTop (mkF m pcT Ls st))) (kn : ¬ x = 0 → Go p e below s R Z EL n0 Q (T.setTop (mkF m pc' Ls st))) : Go p e below s R Z EL n0 Q (T.setTop (mkF m pc Ls (.int x :: st))) := by
  by_cases hc : x = 0
  · exact Go.up (fun t q => Jvm.Free.XS.ifYes W.here W.ex rfl rfl (W.dec hd) rfl (Jvm.Free.XT.i0_eq_t hc) ho hpT q) (ky hc)
  · subst hp; exact Go.up (fun t q => Jvm.Free.XS.ifNo W.here W.ex rfl (W.dec hd) rfl (Jvm.Free.XT.i0_eq_f hc) q) (kn hc)
theorem s_icmpeq (W : Wk p l e R s m args below meth c Z a0 EL n0 own nm bytes maxL ret T vm0 h cells slots) {x y : Int32} {o : Int} {pcT : Nat} (hd : decode bytes pc = .ok (.if_icmp .eq o, 3)) (ho : 0 ≤ (pc : Int) + o) (hpT : ((pc : Int) + o).toNat = pcT) (hp : pc + 3 = pc') (ky : x = y → Go p e below s R Z EL n0 Q (T.setTop (mkF m pcT Ls st))) (kn : ¬ x = y → Go p e below s R Z EL n0 Q (T.setTop (mkF m pc' Ls st))) : Go p e below s R Z EL n0 Q (T.setTop (mkF m pc Ls (.int y :: .int x :: st))) := by
  by_cases hc : x = y
  · exact Go.up (fun t q => Jvm.Free.XS.icmpYes W.here W.ex rfl rfl (W.dec hd) rfl (Jvm.Free.XT.ii_eq_t hc) ho hpT q) (ky hc)
  · subst hp; exact Go.up (fun t q => Jvm.Free.XS.icmpNo W.here W.ex rfl (W.dec hd) rfl (Jvm.Free.XT.ii_eq_f hc) q) (kn hc)
theorem s_ifleq (W : Wk p l e R s m args below meth c Z a0 EL n0 own nm bytes maxL ret T vm0 h cells slots) {x y : Int64} {o : Int} {pcT : Nat} (hd : decode bytes pc = .ok (.ifCond .eq o, 3)) (ho : 0 ≤ (pc : Int) + o) (hpT : ((pc : Int) + o).toNat = pcT) (hp : pc + 3 = pc') (ky : x = y → Go p e below s R Z EL n0 Q (T.setTop (mkF m pcT Ls st))) (kn : ¬ x = y → Go p e below s R Z EL n0 Q (T.setTop (mkF m pc' Ls st))) : Go p e below s R Z EL n0 Q (T.setTop (mkF m pc Ls (.int (Jvm.Free.XT.cmpL x y) :: st))) := by
  by_cases hc : x = y
  · exact Go.up (fun t q => Jvm.Free.XS.ifYes W.here W.ex rfl rfl (W.dec hd) rfl (Jvm.Free.XT.ll_eq_t hc) ho hpT q) (ky hc)
  · subst hp; exact Go.up (fun t q => Jvm.Free.XS.ifNo W.here W.ex rfl (W.dec hd) rfl (Jvm.Free.XT.ll_eq_f hc) q) (kn hc)
theorem s_ifne (W : Wk p l e R s m args below meth c Z a0 EL n0 own nm bytes maxL ret T vm0 h cells slots) {x : Int32} {o : Int} {pcT : Nat} (hd : decode bytes pc = .ok (.ifCond .ne o, 3)) (ho : 0 ≤ (pc : Int) + o) (hpT : ((pc : Int) + o).toNat = pcT) (hp : pc + 3 = pc') (ky : ¬ x = 0 → Go p e below s R Z EL n0 Q (T.setTop (mkF m pcT Ls st))) (kn : x = 0 → Go p e below s R Z EL n0 Q (T.setTop (mkF m pc' Ls st))) : Go p e below s R Z EL n0 Q (T.setTop (mkF m pc Ls (.int x :: st))) := by
  by_cases hc : x = 0
  · subst hp; exact Go.up (fun t q => Jvm.Free.XS.ifNo W.here W.ex rfl (W.dec hd) rfl (Jvm.Free.XT.i0_ne_f hc) q) (kn hc)
  · exact Go.up (fun t q => Jvm.Free.XS.ifYes W.here W.ex rfl rfl (W.dec hd) rfl (Jvm.Free.XT.i0_ne_t hc) ho hpT q) (ky hc)
theorem s_icmpne (W : Wk p l e R s m args below meth c Z a0 EL n0 own nm bytes maxL ret T vm0 h cells slots) {x y : Int32} {o : Int} {pcT : Nat} (hd : decode bytes pc = .ok (.if_icmp .ne o, 3)) (ho : 0 ≤ (pc : Int) + o) (hpT : ((pc : Int) + o).toNat = pcT) (hp : pc + 3 = pc') (ky : ¬ x = y → Go p e below s R Z EL n0 Q (T.setTop (mkF m pcT Ls st))) (kn : x = y → Go p e below s R Z EL n0 Q (T.setTop (mkF m pc' Ls st))) : Go p e below s R Z EL n0 Q (T.setTop (mkF m pc Ls (.int y :: .int x :: st))) := by
  by_cases hc : x = y
  · subst hp; exact Go.up (fun t q => Jvm.Free.XS.icmpNo W.here W.ex rfl (W.dec hd) rfl (Jvm.Free.XT.ii_ne_f hc) q) (kn hc)
  · exact Go.up (fun t q => Jvm.Free.XS.icmpYes W.here W.ex rfl rfl (W.dec hd) rfl (Jvm.Free.XT.ii_ne_t hc) ho hpT q) (ky hc)
theorem s_iflne (W : Wk p l e R s m args below meth c Z a0 EL n0 own nm bytes maxL ret T vm0 h cells slots) {x y : Int64} {o : Int} {pcT : Nat} (hd : decode bytes pc = .ok (.ifCond .ne o, 3)) (ho : 0 ≤ (pc : Int) + o) (hpT : ((pc : Int) + o).toNat = pcT) (hp : pc + 3 = pc') (ky : ¬ x = y → Go p e below s R Z EL n0 Q (T.setTop (mkF m pcT Ls st))) (kn : x = y → Go p e below s R Z EL n0 Q (T.setTop (mkF m pc' Ls st))) : Go p e below s R Z EL n0 Q (T.setTop (mkF m pc Ls (.int (Jvm.Free.XT.cmpL x y) :: st))) := by
  by_cases hc : x = y
  · subst hp; exact Go.up (fun t q => Jvm.Free.XS.ifNo W.here W.ex rfl (W.dec hd) rfl (Jvm.Free.XT.ll_ne_f hc) q) (kn hc)
  · exact Go.up (fun t q => Jvm.Free.XS.ifYes W.here W.ex rfl rfl (W.dec hd) rfl (Jvm.Free.XT.ll_ne_t hc) ho hpT q) (ky hc)
theorem s_iflt (W : Wk p l e R s m args below meth c Z a0 EL n0 own nm bytes maxL ret T vm0 h cells slots) {x : Int32} {o : Int} {pcT : Nat} (hd : decode bytes pc = .ok (.ifCond .lt o, 3)) (ho : 0 ≤ (pc : Int) + o) (hpT : ((pc : Int) + o).toNat = pcT) (hp : pc + 3 = pc') (ky : x < 0 → Go p e below s R Z EL n0 Q (T.setTop (mkF m pcT Ls st))) (kn : ¬ x < 0 → Go p e below s R Z EL n0 Q (T.setTop (mkF m pc' Ls st))) : Go p e below s R Z EL n0 Q (T.setTop (mkF m pc Ls (.int x :: st))) := by
  by_cases hc : x < 0
  · exact Go.up (fun t q => Jvm.Free.XS.ifYes W.here W.ex rfl rfl (W.dec hd) rfl (Jvm.Free.XT.i0_lt_t hc) ho hpT q) (ky hc)
  · subst hp; exact Go.up (fun t q => Jvm.Free.XS.ifNo W.here W.ex rfl (W.dec hd) rfl (Jvm.Free.XT.i0_lt_f hc) q) (kn hc)
theorem s_icmplt (W : Wk p l e R s m args below meth c Z a0 EL n0 own nm bytes maxL ret T vm0 h cells slots) {x y : Int32} {o : Int} {pcT : Nat} (hd : decode bytes pc = .ok (.if_icmp .lt o, 3)) (ho : 0 ≤ (pc : Int) + o) (hpT : ((pc : Int) + o).toNat = pcT) (hp : pc + 3 = pc') (ky : x < y → Go p e below s R Z EL n0 Q (T.setTop (mkF m pcT Ls st))) (kn : ¬ x < y → Go p e below s R Z EL n0 Q (T.setTop (mkF m pc' Ls st))) : Go p e below s R Z EL n0 Q (T.setTop (mkF m pc Ls (.int y :: .int x :: st))) := by
  by_cases hc : x < y
  · exact Go.up (fun t q => Jvm.Free.XS.icmpYes W.here W.ex rfl rfl (W.dec hd) rfl (Jvm.Free.XT.ii_lt_t hc) ho hpT q) (ky hc)
  · subst hp; exact Go.up (fun t q => Jvm.Free.XS.icmpNo W.here W.ex rfl (W.dec hd) rfl (Jvm.Free.XT.ii_lt_f hc) q) (kn hc)
theorem s_ifllt (W : Wk p l e R s m args below meth c Z a0 EL n0 own nm bytes maxL ret T vm0 h cells slots) {x y : Int64} {o : Int} {pcT : Nat} (hd : decode bytes pc = .ok (.ifCond .lt o, 3)) (ho : 0 ≤ (pc : Int) + o) (hpT : ((pc : Int) + o).toNat = pcT) (hp : pc + 3 = pc') (ky : x < y → Go p e below s R Z EL n0 Q (T.setTop (mkF m pcT Ls st))) (kn : ¬ x < y → Go p e below s R Z EL n0 Q (T.setTop (mkF m pc' Ls st))) : Go p e below s R Z EL n0 Q (T.setTop (mkF m pc Ls (.int (Jvm.Free.XT.cmpL x y) :: st))) := by
  by_cases hc : x < y
  · exact Go.up (fun t q => Jvm.Free.XS.ifYes W.here W.ex rfl rfl (W.dec hd) rfl (Jvm.Free.XT.ll_lt_t hc) ho hpT q) (ky hc)
  · subst hp; exact Go.up (fun t q => Jvm.Free.XS.ifNo W.here W.ex rfl (W.dec hd) rfl (Jvm.Free.XT.ll_lt_f hc) q) (kn hc)
theorem s_ifge (W : Wk p l e R s m args below meth c Z a0 EL n0 own nm bytes maxL ret T vm0 h cells slots) {x : Int32} {o : Int} {pcT : Nat} (hd : decode bytes pc = .ok (.ifCond .ge o, 3)) (ho : 0 ≤ (pc : Int) + o) (hpT : ((pc : Int) + o).toNat = pcT) (hp : pc + 3 = pc') (ky : ¬ x < 0 → Go p e below s R Z EL n0 Q (T.setTop (mkF m pcT Ls st))) (kn : x < 0 → Go p e below s R Z EL n0 Q (T.setTop (mkF m pc' Ls st))) : Go p e below s R Z EL n0 Q (T.setTop (mkF m pc Ls (.int x :: st))) := by
  by_cases hc : x < 0
  · subst hp; exact Go.up (fun t q => Jvm.Free.XS.ifNo W.here W.ex rfl (W.dec hd) rfl (Jvm.Free.XT.i0_ge_f hc) q) (kn hc)
  · exact Go.up (fun t q => Jvm.Free.XS.ifYes W.here W.ex rfl rfl (W.dec hd) rfl (Jvm.Free.XT.i0_ge_t hc) ho hpT q) (ky hc)
theorem s_icmpge (W : Wk p l e R s m args below meth c Z a0 EL n0 own nm bytes maxL ret T vm0 h cells slots) {x y : Int32} {o : Int} {pcT : Nat} (hd : decode bytes pc = .ok (.if_icmp .ge o, 3)) (ho : 0 ≤ (pc : Int) + o) (hpT : ((pc : Int) + o).toNat = pcT) (hp : pc + 3 = pc') (ky : ¬ x < y → Go p e below s R Z EL n0 Q (T.setTop (mkF m pcT Ls st))) (kn : x < y → Go p e below s R Z EL n0 Q (T.setTop (mkF m pc' Ls st))) : Go p e below s R Z EL n0 Q (T.setTop (mkF m pc Ls (.int y :: .int x :: st))) := by
  by_cases hc : x < y
  · subst hp; exact Go.up (fun t q => Jvm.Free.XS.icmpNo W.here W.ex rfl (W.dec hd) rfl (Jvm.Free.XT.ii_ge_f hc) q) (kn hc)
  · exact Go.up (fun t q => Jvm.Free.XS.icmpYes W.here W.ex rfl rfl (W.dec hd) rfl (Jvm.Free.XT.ii_ge_t hc) ho hpT q) (ky hc)
theorem s_iflge (W : Wk p l e R s m args below meth c Z a0 EL n0 own nm bytes maxL ret T vm0 h cells slots) {x y : Int64} {o : Int} {pcT : Nat} (hd : decode bytes pc = .ok (.ifCond .ge o, 3)) (ho : 0 ≤ (pc : Int) + o) (hpT : ((pc : Int) + o).toNat = pcT) (hp : pc + 3 = pc') (ky : ¬ x < y → Go p e below s R Z EL n0 Q (T.setTop (mkF m pcT Ls st))) (kn : x < y → Go p e below s R Z EL n0 Q (T.setTop (mkF m pc' Ls st))) : Go p e below s R Z EL n0 Q (T.setTop (mkF m pc Ls (.int (Jvm.Free.XT.cmpL x y) :: st))) := by
  by_cases hc : x < y
  · subst hp; exact Go.up (fun t q => Jvm.Free.XS.ifNo W.here W.ex rfl (W.dec hd) rfl (Jvm.Free.XT.ll_ge_f hc) q) (kn hc)
  · exact Go.up (fun t q => Jvm.Free.XS.ifYes W.here W.ex rfl rfl (W.dec hd) rfl (Jvm.Free.XT.ll_ge_t hc) ho hpT q) (ky hc)
theorem s_ifgt (W : Wk p l e R s m args below meth c Z a0 EL n0 own nm bytes maxL ret T vm0 h cells slots) {x : Int32} {o : Int} {pcT : Nat} (hd : decode bytes pc = .ok (.ifCond .gt o, 3)) (ho : 0 ≤ (pc : Int) + o) (hpT : ((pc : Int) + o).toNat = pcT) (hp : pc + 3 = pc') (ky : 0 < x → Go p e below s R Z EL n0 Q (T.setTop (mkF m pcT Ls st))) (kn : ¬ 0 < x → Go p e below s R Z EL n0 Q (T.setTop (mkF m pc' Ls st))) : Go p e below s R Z EL n0 Q (T.setTop (mkF m pc Ls (.int x :: st))) := by
  by_cases hc : 0 < x
  · exact Go.up (fun t q => Jvm.Free.XS.ifYes W.here W.ex rfl rfl (W.dec hd) rfl (Jvm.Free.XT.i0_gt_t hc) ho hpT q) (ky hc)
  · subst hp; exact Go.up (fun t q => Jvm.Free.XS.ifNo W.here W.ex rfl (W.dec hd) rfl (Jvm.Free.XT.i0_gt_f hc) q) (kn hc)
theorem s_icmpgt (W : Wk p l e R s m args below meth c Z a0 EL n0 own nm bytes maxL ret T vm0 h cells slots) {x y : Int32} {o : Int} {pcT : Nat} (hd : decode bytes pc = .ok (.if_icmp .gt o, 3)) (ho : 0 ≤ (pc : Int) + o) (hpT : ((pc : Int) + o).toNat = pcT) (hp : pc + 3 = pc') (ky : y < x → Go p e below s R Z EL n0 Q (T.setTop (mkF m pcT Ls st))) (kn : ¬ y < x → Go p e below s R Z EL n0 Q (T.setTop (mkF m pc' Ls st))) : Go p e below s R Z EL n0 Q (T.setTop (mkF m pc Ls (.int y :: .int x :: st))) := by
  by_cases hc : y < x
  · exact Go.up (fun t q => Jvm.Free.XS.icmpYes W.here W.ex rfl rfl (W.dec hd) rfl (Jvm.Free.XT.ii_gt_t hc) ho hpT q) (ky hc)
  · subst hp; exact Go.up (fun t q => Jvm.Free.XS.icmpNo W.here W.ex rfl (W.dec hd) rfl (Jvm.Free.XT.ii_gt_f hc) q) (kn hc)
theorem s_iflgt (W : Wk p l e R s m args below meth c Z a0 EL n0 own nm bytes maxL ret T vm0 h cells slots) {x y : Int64} {o : Int} {pcT : Nat} (hd : decode bytes pc = .ok (.ifCond .gt o, 3)) (ho : 0 ≤ (pc : Int) + o) (hpT : ((pc : Int) + o).toNat = pcT) (hp : pc + 3 = pc') (ky : y < x → Go p e below s R Z EL n0 Q (T.setTop (mkF m pcT Ls st))) (kn : ¬ y < x → Go p e below s R Z EL n0 Q (T.setTop (mkF m pc' Ls st))) : Go p e below s R Z EL n0 Q (T.setTop (mkF m pc Ls (.int (Jvm.Free.XT.cmpL x y) :: st))) := by
  by_cases hc : y < x
  · exact Go.up (fun t q => Jvm.Free.XS.ifYes W.here W.ex rfl rfl (W.dec hd) rfl (Jvm.Free.XT.ll_gt_t hc) ho hpT q) (ky hc)
  · subst hp; exact Go.up (fun t q => Jvm.Free.XS.ifNo W.here W.ex rfl (W.dec hd) rfl (Jvm.Free.XT.ll_gt_f hc) q) (kn hc)
theorem s_ifle (W : Wk p l e R s m args below meth c Z a0 EL n0 own nm bytes maxL ret T vm0 h cells slots) {x : Int32} {o : Int} {pcT : Nat} (hd : decode bytes pc = .ok (.ifCond .le o, 3)) (ho : 0 ≤ (pc : Int) + o) (hpT : ((pc : Int) + o).toNat = pcT) (hp : pc + 3 = pc') (ky : ¬ 0 < x → Go p e below s R Z EL n0 Q (T.setTop (mkF m pcT Ls st))) (kn : 0 < x → Go p e below s R Z EL n0 Q (T.setTop (mkF m pc' Ls st))) : Go p e below s R Z EL n0 Q (T.setTop (mkF m pc Ls (.int x :: st))) := by
  by_cases hc : 0 < x
  · subst hp; exact Go.up (fun t q => Jvm.Free.XS.ifNo W.here W.ex rfl (W.dec hd) rfl (Jvm.Free.XT.i0_le_f hc) q) (kn hc)
  · exact Go.up (fun t q => Jvm.Free.XS.ifYes W.here W.ex rfl rfl (W.dec hd) rfl (Jvm.Free.XT.i0_le_t hc) ho hpT q) (ky hc)
theorem s_icmple (W : Wk p l e R s m args below meth c Z a0 EL n0 own nm bytes maxL ret T vm0 h cells slots) {x y : Int32} {o : Int} {pcT : Nat} (hd : decode bytes pc = .ok (.if_icmp .le o, 3)) (ho : 0 ≤ (pc : Int) + o) (hpT : ((pc : Int) + o).toNat = pcT) (hp : pc + 3 = pc') (ky : ¬ y < x → Go p e below s R Z EL n0 Q (T.setTop (mkF m pcT Ls st))) (kn : y < x → Go p e below s R Z EL n0 Q (T.setTop (mkF m pc' Ls st))) : Go p e below s R Z EL n0 Q (T.setTop (mkF m pc Ls (.int y :: .int x :: st))) := by
  by_cases hc : y < x
  · subst hp; exact Go.up (fun t q => Jvm.Free.XS.icmpNo W.here W.ex rfl (W.dec hd) rfl (Jvm.Free.XT.ii_le_f hc) q) (kn hc)
  · exact Go.up (fun t q => Jvm.Free.XS.icmpYes W.here W.ex rfl rfl (W.dec hd) rfl (Jvm.Free.XT.ii_le_t hc) ho hpT q) (ky hc)
theorem s_iflle (W : Wk p l e R s m args below meth c Z a0 EL n0 own nm bytes maxL ret T vm0 h cells slots) {x y : Int64} {o : Int} {pcT : Nat} (hd : decode bytes pc = .ok (.ifCond .le o, 3)) (ho : 0 ≤ (pc : Int) + o) (hpT : ((pc : Int) + o).toNat = pcT) (hp : pc + 3 = pc') (ky : ¬ y < x → Go p e below s R Z EL n0 Q (T.setTop (mkF m pcT Ls st))) (kn : y < x → Go p e below s R Z EL n0 Q (T.setTop (mkF m pc' Ls st))) : Go p e below s R Z EL n0 Q (T.setTop (mkF m pc Ls (.int (Jvm.Free.XT.cmpL x y) :: st))) := by
  by_cases hc : y < x
  · subst hp; exact Go.up (fun t q => Jvm.Free.XS.ifNo W.here W.ex rfl (W.dec hd) rfl (Jvm.Free.XT.ll_le_f hc) q) (kn hc)
  · exact Go.up (fun t q => Jvm.Free.XS.ifYes W.here W.ex rfl rfl (W.dec hd) rfl (Jvm.Free.XT.ll_le_t hc) ho hpT q) (ky hc)
theorem s_ifnullY (W : Wk p l e R s m args below meth c Z a0 EL n0 own nm bytes maxL ret T vm0 h cells slots) {o : Int} {pcT : Nat} (hd : decode bytes pc = .ok (.ifnull o, 3)) (ho : 0 ≤ (pc : Int) + o) (hpT : ((pc : Int) + o).toNat = pcT) (k : Go p e below s R Z EL n0 Q (T.setTop (mkF m pcT Ls st))) : Go p e below s R Z EL n0 Q (T.setTop (mkF m pc Ls (.null :: st))) := Go.up (fun t q => Jvm.Free.XS.ifnullYes W.here W.ex rfl rfl (W.dec hd) rfl ho hpT q) k
theorem s_ifnullN (W : Wk p l e R s m args below meth c Z a0 EL n0 own nm bytes maxL ret T vm0 h cells slots) {o : Int} {b : Addr} (hd : decode bytes pc = .ok (.ifnull o, 3)) (hp : pc + 3 = pc') (k : Go p e below s R Z EL n0 Q (T.setTop (mkF m pc' Ls st))) : Go p e below s R Z EL n0 Q (T.setTop (mkF m pc Ls (.ref b :: st))) := by subst hp; exact Go.up (fun t q => Jvm.Free.XS.ifnullNo W.here W.ex rfl (W.dec hd) rfl q) k
theorem s_ifnonnullY (W : Wk p l e R s m args below meth c Z a0 EL n0 own nm bytes maxL ret T vm0 h cells slots) {o : Int} {b : Addr} {pcT : Nat} (hd : decode bytes pc = .ok (.ifnonnull o, 3)) (ho : 0 ≤ (pc : Int) + o) (hpT : ((pc : Int) + o).toNat = pcT) (k : Go p e below s R Z EL n0 Q (T.setTop (mkF m pcT Ls st))) : Go p e below s R Z EL n0 Q (T.setTop (mkF m pc Ls (.ref b :: st))) := Go.up (fun t q => Jvm.Free.XT.ifnonnullYes W.here W.ex rfl rfl (W.dec hd) rfl ho hpT q) k
theorem s_ifnonnullN (W : Wk p l e R s m args below meth c Z a0 EL n0 own nm bytes maxL ret T vm0 h cells slots) {o : Int} (hd : decode bytes pc = .ok (.ifnonnull o, 3)) (hp : pc + 3 = pc') (k : Go p e below s R Z EL n0 Q (T.setTop (mkF m pc' Ls st))) : Go p e below s R Z EL n0 Q (T.setTop (mkF m pc Ls (.null :: st))) := by subst hp; exact Go.up (fun t q => Jvm.Free.XT.ifnonnullNo W.here W.ex rfl (W.dec hd) rfl q) k
theorem s_acmpY (W : Wk p l e R s m args below meth c Z a0 EL n0 own nm bytes maxL ret T vm0 h cells slots) {cd : ClassFile.ACond} {x y : Value} {o : Int} {pcT : Nat} (hd : decode bytes pc = .ok (.if_acmp cd o, 3)) (hx : x.isRef = true) (hy : y.isRef = true) (hc : Jvm.Free.XT.acmp cd x y = true) (ho : 0 ≤ (pc : Int) + o) (hpT : ((pc : Int) + o).toNat = pcT) (k : Go p e below s R Z EL n0 Q (T.setTop (mkF m pcT Ls st))) : Go p e below s R Z EL n0 Q (T.setTop (mkF m pc Ls (y :: x :: st))) := Go.up (fun t q => Jvm.Free.XT.acmpYes W.here W.ex rfl rfl (W.dec hd) rfl hx hy hc ho hpT q) k
theorem s_acmpN (W : Wk p l e R s m args below meth c Z a0 EL n0 own nm bytes maxL ret T vm0 h cells slots) {cd : ClassFile.ACond} {x y : Value} {o : Int} (hd : decode bytes pc = .ok (.if_acmp cd o, 3)) (hx : x.isRef = true) (hy : y.isRef = true) (hc : Jvm.Free.XT.acmp cd x y = false) (hp : pc + 3 = pc') (k : Go p e below s R Z EL n0 Q (T.setTop (mkF m pc' Ls st))) : Go p e below s R Z EL n0 Q (T.setTop (mkF m pc Ls (y :: x :: st))) := by subst hp; exact Go.up (fun t q => Jvm.Free.XT.acmpNo W.here W.ex rfl (W.dec hd) rfl hx hy hc q) k
theorem s_ldcI (W : Wk p l e R s m args below meth c Z a0 EL n0 own nm bytes maxL ret T vm0 h cells slots) {index : Nat} {v : Int32} (w : (Cond.constant own index v).before a0 Z = true) (hd : decode bytes pc = .ok (.ldc index, 2)) (hp : pc + 2 = pc') (k : Go p e below s R Z EL n0 Q (T.setTop (mkF m pc' Ls (.int v :: st)))) : Go p e below s R Z EL n0 Q (T.setTop (mkF m pc Ls st)) := by
  obtain ⟨⟨k0, locs, X, hS, hk, N⟩, ⟨eT, hZ, hown, C⟩, hh⟩ := W
  subst hp
  exact Go.up (fun t q => Jvm.Stand.ldcI X hh.2.1 (own := own) hown (mv (s := s.setVm vm0) hZ w) rfl (hb hh.2.2.1 hd) q) k
theorem s_ldcWI (W : Wk p l e R s m args below meth c Z a0 EL n0 own nm bytes maxL ret T vm0 h cells slots) {index : Nat} {v : Int32} (w : (Cond.constant own index v).before a0 Z = true) (hd : decode bytes pc = .ok (.ldc_w index, 3)) (hp : pc + 3 = pc') (k : Go p e below s R Z EL n0 Q (T.setTop (mkF m pc' Ls (.int v :: st)))) : Go p e below s R Z EL n0 Q (T.setTop (mkF m pc Ls st)) := by
  obtain ⟨⟨k0, locs, X, hS, hk, N⟩, ⟨eT, hZ, hown, C⟩, hh⟩ := W
  subst hp
  exact Go.up (fun t q => Jvm.Stand.ldcWI X hh.2.1 (own := own) hown (mv (s := s.setVm vm0) hZ w) rfl (hb hh.2.2.1 hd) q) k
theorem s_ldc2J (W : Wk p l e R s m args below meth c Z a0 EL n0 own nm bytes maxL ret T vm0 h cells slots) {index : Nat} {v : Int64} (w : (Cond.constantLong own index v).before a0 Z = true) (hd : decode bytes pc = .ok (.ldc2_w index, 3)) (hp : pc + 3 = pc') (k : Go p e below s R Z EL n0 Q (T.setTop (mkF m pc' Ls (.long v :: st)))) : Go p e below s R Z EL n0 Q (T.setTop (mkF m pc Ls st)) := by
  obtain ⟨⟨k0, locs, X, hS, hk, N⟩, ⟨eT, hZ, hown, C⟩, hh⟩ := W
  subst hp
  exact Go.up (fun t q => Jvm.Stand.ldc2J X hh.2.1 (own := own) hown (mv (s := s.setVm vm0) hZ w) rfl (hb hh.2.2.1 hd) q) k
theorem s_getf (W : Wk p l e R s m args below meth c Z a0 EL n0 own nm bytes maxL ret T vm0 h cells slots) {R0 O n d : String} {index : Nat} (w : (Cond.fieldLink own index R0 n d).before a0 Z = true) (via : Via Z R0 O n d) {a : Addr} {v : Value} (F : Fld Z h a O n d v) (hd : decode bytes pc = .ok (.getfield index, 3)) (hp : pc + 3 = pc') (k : ∀ T', Wk p l e R s m args below meth c Z a0 EL n0 own nm bytes maxL ret T' vm0 h cells slots → Go p e below s R Z EL n0 Q (T'.setTop (mkF m pc' Ls (v :: st)))) : Go p e below s R Z EL n0 Q (T.setTop (mkF m pc Ls (.ref a :: st))) := by
  obtain ⟨⟨k0, locs, X, hS, hk, N⟩, ⟨eT, hZ, hown, C⟩, hh⟩ := W
  obtain ⟨T', X', e', st'⟩ := getF X hh.2.1 (show Z.Warmed39 (s.setVm vm0).vm from hZ) (own := own) (host := "") hown (Or.inl w) via eT F (g := mkF m pc Ls (.ref a :: st)) rfl rfl (hb hh.2.2.1 hd)
  subst hp
  exact Go.up st' (k T' ⟨⟨k0, locs, X', hS, hk, N⟩, ⟨e', hZ, hown, C⟩, hh⟩)
theorem s_getfN (W : Wk p l e R s m args below meth c Z a0 EL n0 own nm bytes maxL ret T vm0 h cells slots) {R0 O n d host : String} {index : Nat} (w : (Cond.fieldLinkNest own index R0 n d host).before a0 Z = true) (via : Via Z R0 O n d) {a : Addr} {v : Value} (F : Fld Z h a O n d v) (hd : decode bytes pc = .ok (.getfield index, 3)) (hp : pc + 3 = pc') (k : ∀ T', Wk p l e R s m args below meth c Z a0 EL n0 own nm bytes maxL ret T' vm0 h cells slots → Go p e below s R Z EL n0 Q (T'.setTop (mkF m pc' Ls (v :: st)))) : Go p e below s R Z EL n0 Q (T.setTop (mkF m pc Ls (.ref a :: st))) := by
  obtain ⟨⟨k0, locs, X, hS, hk, N⟩, ⟨eT, hZ, hown, C⟩, hh⟩ := W
  obtain ⟨T', X', e', st'⟩ := getF X hh.2.1 (show Z.Warmed39 (s.setVm vm0).vm from hZ) (own := own) (host := host) hown (Or.inr w) via eT F (g := mkF m pc Ls (.ref a :: st)) rfl rfl (hb hh.2.2.1 hd)
  subst hp
  exact Go.up st' (k T' ⟨⟨k0, locs, X', hS, hk, N⟩, ⟨e', hZ, hown, C⟩, hh⟩)
theorem s_gets (W : Wk p l e R s m args below meth c Z a0 EL n0 own nm bytes maxL ret T vm0 h cells slots) {R0 O n d : String} {index : Nat} (w : (Cond.fieldLink own index R0 n d).before a0 Z = true) (via : Via Z R0 O n d) {v : Value} (F : Sta Z Z.heap O n d v) (hd : decode bytes pc = .ok (.getstatic index, 3)) (hp : pc + 3 = pc') (k : ∀ T', Wk p l e R s m args below meth c Z a0 EL n0 own nm bytes maxL ret T' vm0 h cells slots → Go p e below s R Z EL n0 Q (T'.setTop (mkF m pc' Ls (v :: st)))) : Go p e below s R Z EL n0 Q (T.setTop (mkF m pc Ls st)) := by
  have O := W.old
  obtain ⟨⟨k0, locs, X, hS, hk, N⟩, ⟨eT, hZ, hown, C⟩, hh⟩ := W
  obtain ⟨T', X', e', st'⟩ := getS X hh.2.1 (show Z.Warmed39 (s.setVm vm0).vm from hZ) (own := own) (host := "") hown w via eT (F.ext O.2) (g := mkF m pc Ls st) rfl (hb hh.2.2.1 hd)
  subst hp
  exact Go.up st' (k T' ⟨⟨k0, locs, X', hS, hk, N⟩, ⟨e', hZ, hown, C⟩, hh⟩)
theorem s_cast (W : Wk p l e R s m args below meth c Z a0 EL n0 own nm bytes maxL ret T vm0 h cells slots) {K : String} {index : Nat} (w : (Cond.classLink own index K).before a0 Z = true) {a : Addr} (F : Ins Z h a K true) (hd : decode bytes pc = .ok (.checkcast index, 3)) (hp : pc + 3 = pc') (k : ∀ T', Wk p l e R s m args below meth c Z a0 EL n0 own nm bytes maxL ret T' vm0 h cells slots → Go p e below s R Z EL n0 Q (T'.setTop (mkF m pc' Ls (.ref a :: st)))) : Go p e below s R Z EL n0 Q (T.setTop (mkF m pc Ls (.ref a :: st))) := by
  obtain ⟨⟨k0, locs, X, hS, hk, N⟩, ⟨eT, hZ, hown, C⟩, hh⟩ := W
  obtain ⟨T', X', e', st'⟩ := castY X hh.2.1 (show Z.Warmed39 (s.setVm vm0).vm from hZ) (own := own) hown w eT F (g := mkF m pc Ls (.ref a :: st)) rfl rfl (hb hh.2.2.1 hd)
  subst hp
  exact Go.up st' (k T' ⟨⟨k0, locs, X', hS, hk, N⟩, ⟨e', hZ, hown, C⟩, hh⟩)
theorem s_inst (W : Wk p l e R s m args below meth c Z a0 EL n0 own nm bytes maxL ret T vm0 h cells slots) {K : String} {index : Nat} (w : (Cond.classLink own index K).before a0 Z = true) {a : Addr} (F : Ins Z h a K true) (hd : decode bytes pc = .ok (.instanceof index, 3)) (hp : pc + 3 = pc') (k : ∀ T', Wk p l e R s m args below meth c Z a0 EL n0 own nm bytes maxL ret T' vm0 h cells slots → Go p e below s R Z EL n0 Q (T'.setTop (mkF m pc' Ls (.int 1 :: st)))) : Go p e below s R Z EL n0 Q (T.setTop (mkF m pc Ls (.ref a :: st))) := by
  obtain ⟨⟨k0, locs, X, hS, hk, N⟩, ⟨eT, hZ, hown, C⟩, hh⟩ := W
  obtain ⟨T', X', e', st'⟩ := instY X hh.2.1 (show Z.Warmed39 (s.setVm vm0).vm from hZ) (own := own) hown w eT F (g := mkF m pc Ls (.ref a :: st)) rfl rfl (hb hh.2.2.1 hd)
  subst hp
  exact Go.up st' (k T' ⟨⟨k0, locs, X', hS, hk, N⟩, ⟨e', hZ, hown, C⟩, hh⟩)

theorem Wk.ext' {T' : State} {h' : Heap} {cells' slots' : Nat} (hZ : Z.Warmed39 vm0) (E : Ext h h') (H : CHv Z EL vm0 h) : CHr Z EL vm0 h vm0 h' ∧ Keep h h' [] := ⟨CHr.ext E H, (Keep.refl h []).ext E⟩

theorem s_new (W : Wk p l e R s m args below meth c Z a0 EL n0 own nm bytes maxL ret T vm0 h cells slots) {C : String} {index n : Nat} (w : (Cond.classLink own index C).before a0 Z = true) (wi : (Cond.instantiable C n).before a0 Z = true) (wz : (Cond.initialized C).before a0 Z = true) (hd : decode bytes pc = .ok (.new index, 3)) (hc : cells + 1 ≤ R.cells) (hl : slots + n ≤ R.slots) (hp : pc + 3 = pc')
    (k : ∀ b T' h', b = h.size → Wk p l e R s m args below meth c Z a0 EL n0 own nm bytes maxL ret T' vm0 h' (cells + 1) (slots + n) → Keep h h' [] → CHr Z EL vm0 h vm0 h' → Mine Z EL n0 vm0 h' b → Exa Z h' b C → (∀ {O nm d : String} {ty : FieldType}, Laid Z a0 C O nm d → parseFieldDescriptor d = some ty → Fld Z h' b O nm d (defaultValue ty)) → Unt h' b → Go p e below s R Z EL n0 Q (T'.setTop (mkF m pc' Ls (.ref b :: st)))) : Go p e below s R Z EL n0 Q (T.setTop (mkF m pc Ls st)) := by
  have n0h := W.n0le
  obtain ⟨⟨k0, locs, X, hS, hk, N⟩, ⟨eT, hZ, hown, C⟩, hh⟩ := W
  obtain ⟨T', h', X', e', E, A, D, U, st'⟩ := newO X hh.2.1 (show Z.Warmed39 (s.setVm vm0).vm from hZ) (own := own) hown w wi wz eT (g := mkF m pc Ls st) rfl (hb hh.2.2.1 hd) hc hl
  subst hp
  have Ch := CHr.ext E C.1
  exact Go.up st' (k h.size T' h' rfl ⟨⟨k0, locs, X', hS, Nat.le_trans hk E.1, N⟩, ⟨e', hZ, hown, C.trans Ch⟩, hh⟩ ((Keep.refl h []).ext E) Ch ⟨n0h, A.lt, Safe.ext E C.1 (Safe.new (Nat.le_refl _))⟩ A D U)
theorem s_newarr (W : Wk p l e R s m args below meth c Z a0 EL n0 own nm bytes maxL ret T vm0 h cells slots) {aty : ArrayType} {n : Int32} (cap : Nat) (ad : String) (had : "[" ++ (newarray.typeOf aty).toString = ad) (w : (Cond.arrayClass (newarray.typeOf aty)).before a0 Z = true) (hd : decode bytes pc = .ok (.newarray aty, 2)) (hn : ¬ n < 0) (hcap : n.toNatClampNeg ≤ cap) (hb8 : cap * 8 ≤ 536870912) (hc : cells + 1 ≤ R.cells) (hl : slots + cap ≤ R.slots) (hp : pc + 2 = pc')
    (k : ∀ b T' h' kA, b = h.size → Wk p l e R s m args below meth c Z a0 EL n0 own nm bytes maxL ret T' vm0 h' (cells + 1) (slots + cap) → Keep h h' [] → CHr Z EL vm0 h vm0 h' → Mine Z EL n0 vm0 h' b → Arv Z h' b kA (newarray.typeOf aty) n (List.replicate n.toNatClampNeg (defaultValue (newarray.typeOf aty))) (defaultValue (newarray.typeOf aty)) → Exa Z h' b ad → Go p e below s R Z EL n0 Q (T'.setTop (mkF m pc' Ls (.ref b :: st)))) : Go p e below s R Z EL n0 Q (T.setTop (mkF m pc Ls (.int n :: st))) := by
  have n0h := W.n0le
  obtain ⟨⟨k0, locs, X, hS, hk, N⟩, ⟨eT, hZ, hown, C⟩, hh⟩ := W
  obtain ⟨T', h', kA, X', e', E, A, EX, st'⟩ := newPE X hh.2.1 (show Z.Warmed39 (s.setVm vm0).vm from hZ) w eT (g := mkF m pc Ls (.int n :: st)) rfl (hb hh.2.2.1 hd) rfl hn hcap hb8 hc hl had
  subst hp
  have Ch := CHr.ext E C.1
  have V := (Arv.new A hn).pad (vs' := [] ++ List.replicate n.toNatClampNeg (defaultValue (newarray.typeOf aty))) (pad_rep _ _ _)
  exact Go.up st' (k h.size T' h' kA rfl ⟨⟨k0, locs, X', hS, Nat.le_trans hk E.1, N⟩, ⟨e', hZ, hown, C.trans Ch⟩, hh⟩ ((Keep.refl h []).ext E) Ch ⟨n0h, A.lt, Safe.ext E C.1 (Safe.new (Nat.le_refl _))⟩ V EX)
theorem s_clone (W : Wk p l e R s m args below meth c Z a0 EL n0 own nm bytes maxL ret T vm0 h cells slots) {index : Nat} {ad : String} (w1 : (Cond.methodLink own index ⟨ad, "clone", "()Ljava/lang/Object;"⟩).before a0 Z = true) (w2 : (Cond.sameMethod ad "java/lang/Object" "clone" "()Ljava/lang/Object;").before a0 Z = true) (w3 : (Cond.native ⟨"java/lang/Object", "clone", "()Ljava/lang/Object;"⟩).before a0 Z = true) (w4 : (Cond.instanceMethod ⟨"java/lang/Object", "clone", "()Ljava/lang/Object;"⟩).before a0 Z = true) (w5 : (Cond.selects ad ⟨ad, "clone", "()Ljava/lang/Object;"⟩ ⟨"java/lang/Object", "clone", "()Ljava/lang/Object;"⟩).before a0 Z = true) (w6 : (Cond.castable ad "java/lang/Cloneable").before a0 Z = true) {a : Addr} {kA : ClassId} {ty : FieldType} {z : Int32} {vs : List Value} {dv : Value} (V : Arv Z h a kA ty z vs dv) (E : Exa Z h a ad) (cap : Nat) (hcap : z.toNatClampNeg ≤ cap) (hsz : Ls.size = maxL) (hd : decode bytes pc = .ok (.invokevirtual index, 3)) (Wd : Nat) (hWd : (st.map fun v => v.category).sum ≤ Wd) (hf : 1 ≤ R.frames) (hlo : Wd + 14 ≤ R.locals) (hc : cells + 1 ≤ R.cells) (hl : slots + cap ≤ R.slots) (hp : pc + 3 = pc')
    (k : ∀ b T' h', b = h.size → Wk p l e R s m args below meth c Z a0 EL n0 own nm bytes maxL ret T' vm0 h' (cells + 1) (slots + cap) → Keep h h' [] → CHr Z EL vm0 h vm0 h' → Mine Z EL n0 vm0 h' b → Arv Z h' b kA ty z vs dv → Exa Z h' b ad → Go p e below s R Z EL n0 Q (T'.setTop (mkF m pc' Ls (.ref b :: st)))) : Go p e below s R Z EL n0 Q (T.setTop (mkF m pc Ls (.ref a :: st))) := by
  have n0h := W.n0le
  obtain ⟨⟨k0, locs, X, hS, hk, N⟩, ⟨eT, hZ, hown, C⟩, hh⟩ := W
  have V' : Arh Z h a kA ty z [] vs dv := V
  obtain ⟨T', h', X', e', ex, A', EX, st'⟩ := cloneH X hh.2.1 (show Z.Warmed39 (s.setVm vm0).vm from hZ) (own := own) hown w1 w2 w3 w4 w5 w6 eT V' E (g := mkF m pc Ls (.ref a :: st)) rfl (hsz.trans hh.2.2.2.1.symm) rfl (hb hh.2.2.1 hd) hf (W := Wd) (by show 2 * 0 + _ ≤ _; omega) hlo hcap hc hl
  subst hp
  have Ch := CHr.ext ex C.1
  have A2 : Arv Z h' h.size kA ty z vs dv := A'
  exact Go.up st' (k h.size T' h' rfl ⟨⟨k0, locs, X', hS, Nat.le_trans hk ex.1, N⟩, ⟨e', hZ, hown, C.trans Ch⟩, hh⟩ ((Keep.refl h []).ext ex) Ch ⟨n0h, A2.lt, Safe.ext ex C.1 (Safe.new (Nat.le_refl _))⟩ A2 EX)
theorem s_anew (W : Wk p l e R s m args below meth c Z a0 EL n0 own nm bytes maxL ret T vm0 h cells slots) {C : String} {index : Nat} {n : Int32} (cap : Nat) (w : (Cond.classLink own index C).before a0 Z = true) (w2 : (Cond.arrayOver (.object C)).before a0 Z = true) (hd : decode bytes pc = .ok (.anewarray index, 3)) (hn : ¬ n < 0) (hcap : n.toNatClampNeg ≤ cap) (hb8 : cap * 8 ≤ 536870912) (hc : cells + 1 ≤ R.cells) (hl : slots + cap ≤ R.slots) (hp : pc + 3 = pc')
    (k : ∀ b T' h' kA, b = h.size → Wk p l e R s m args below meth c Z a0 EL n0 own nm bytes maxL ret T' vm0 h' (cells + 1) (slots + cap) → Keep h h' [] → CHr Z EL vm0 h vm0 h' → Mine Z EL n0 vm0 h' b → Arv Z h' b kA (.object C) n (List.replicate n.toNatClampNeg .null) .null → Ovr Z kA C → Go p e below s R Z EL n0 Q (T'.setTop (mkF m pc' Ls (.ref b :: st)))) : Go p e below s R Z EL n0 Q (T.setTop (mkF m pc Ls (.int n :: st))) := by
  have n0h := W.n0le
  obtain ⟨⟨k0, locs, X, hS, hk, N⟩, ⟨eT, hZ, hown, C⟩, hh⟩ := W
  obtain ⟨T', h', kA, X', e', E, A, O, st'⟩ := newR X hh.2.1 (show Z.Warmed39 (s.setVm vm0).vm from hZ) (own := own) hown w w2 eT (g := mkF m pc Ls (.int n :: st)) rfl (hb hh.2.2.1 hd) rfl hn hcap hb8 hc hl
  subst hp
  have Ch := CHr.ext E C.1
  have V := (Arv.new A hn).pad (vs' := [] ++ List.replicate n.toNatClampNeg .null) (pad_rep _ _ _)
  exact Go.up st' (k h.size T' h' kA rfl ⟨⟨k0, locs, X', hS, Nat.le_trans hk E.1, N⟩, ⟨e', hZ, hown, C.trans Ch⟩, hh⟩ ((Keep.refl h []).ext E) Ch ⟨n0h, A.lt, Safe.ext E C.1 (Safe.new (Nat.le_refl _))⟩ V O)
theorem s_putf (W : Wk p l e R s m args below meth c Z a0 EL n0 own nm bytes maxL ret T vm0 h cells slots) {R0 O n d C : String} {index kk : Nat} {ty : FieldType} (w : (Cond.fieldLink own index R0 n d).before a0 Z = true) (via : Via Z R0 O n d) {a : Addr} {v old : Value} (F : Fld Z h a O n d old) (E : Exa Z h a C) (M : Mine Z EL n0 vm0 h a) (L : (Cond.lays C O n d).before a0 Z = true ∨ ((Cond.laysFinal C O n d).before a0 Z = true ∧ own = O ∧ nm = "<init>")) (wi : (Cond.instantiable C kk).before a0 Z = true) (hty : parseFieldDescriptor d = some ty) (hn : narrow ty v = v) (hf : fits ty v = true) (hd : decode bytes pc = .ok (.putfield index, 3)) (hp : pc + 3 = pc')
    (k : ∀ T' h', Wk p l e R s m args below meth c Z a0 EL n0 own nm bytes maxL ret T' vm0 h' cells slots → Keep h h' [a] → CHr Z EL vm0 h vm0 h' → Wr h h' a (Jvm.RoadKit.slotOf Z O n d) v → Fld Z h' a O n d v → Go p e below s R Z EL n0 Q (T'.setTop (mkF m pc' Ls st))) : Go p e below s R Z EL n0 Q (T.setTop (mkF m pc Ls (v :: .ref a :: st))) := by
  have hnm := W.name
  obtain ⟨⟨k0, locs, X, hS, hk, N⟩, ⟨eT, hZ, hown, C⟩, hh⟩ := W
  subst hnm
  obtain ⟨T', h', X', e', Wr', st'⟩ := putF X hh.2.1 (show Z.Warmed39 (s.setVm vm0).vm from hZ) (own := own) (host := "") hown (Or.inl w) via eT F E L wi hty hn hf (g := mkF m pc Ls (v :: .ref a :: st)) rfl rfl (hb hh.2.2.1 hd)
  subst hp
  have Ch := CHr.wr Wr' M.2.2 C.1
  exact Go.up st' (k T' h' ⟨⟨k0, _, X', hS, Nat.le_trans hk Ch.2.1, Fr.snoc X' N M.1⟩, ⟨e', hZ, hown, C.trans Ch⟩, hh⟩ (Keep.of_wr Wr') Ch Wr' (F.same Wr'))
theorem s_putfn (W : Wk p l e R s m args below meth c Z a0 EL n0 own nm bytes maxL ret T vm0 h cells slots) {R0 O n d C : String} {index kk : Nat} {ty : FieldType} (w : (Cond.fieldLink own index R0 n d).before a0 Z = true) (via : Via Z R0 O n d) {a : Addr} {v v' old : Value} (F : Fld Z h a O n d old) (E : Exa Z h a C) (M : Mine Z EL n0 vm0 h a) (L : (Cond.lays C O n d).before a0 Z = true ∨ ((Cond.laysFinal C O n d).before a0 Z = true ∧ own = O ∧ nm = "<init>")) (wi : (Cond.instantiable C kk).before a0 Z = true) (hty : parseFieldDescriptor d = some ty) (hn : narrow ty v = v') (hf : fits ty v' = true) (hd : decode bytes pc = .ok (.putfield index, 3)) (hp : pc + 3 = pc')
    (k : ∀ T' h', Wk p l e R s m args below meth c Z a0 EL n0 own nm bytes maxL ret T' vm0 h' cells slots → Keep h h' [a] → CHr Z EL vm0 h vm0 h' → Wr h h' a (Jvm.RoadKit.slotOf Z O n d) v' → Fld Z h' a O n d v' → Go p e below s R Z EL n0 Q (T'.setTop (mkF m pc' Ls st))) : Go p e below s R Z EL n0 Q (T.setTop (mkF m pc Ls (v :: .ref a :: st))) := by
  have hnm := W.name
  obtain ⟨⟨k0, locs, X, hS, hk, N⟩, ⟨eT, hZ, hown, C⟩, hh⟩ := W
  subst hnm
  obtain ⟨T', h', X', e', Wr', st'⟩ := putFN X hh.2.1 (show Z.Warmed39 (s.setVm vm0).vm from hZ) (own := own) hown w via eT F E L wi hty hn hf (g := mkF m pc Ls (v :: .ref a :: st)) rfl rfl (hb hh.2.2.1 hd)
  subst hp
  have Ch := CHr.wr Wr' M.2.2 C.1
  exact Go.up st' (k T' h' ⟨⟨k0, _, X', hS, Nat.le_trans hk Ch.2.1, Fr.snoc X' N M.1⟩, ⟨e', hZ, hown, C.trans Ch⟩, hh⟩ (Keep.of_wr Wr') Ch Wr' (F.same Wr'))
theorem s_castore (W : Wk p l e R s m args below meth c Z a0 EL n0 own nm bytes maxL ret T vm0 h cells slots) {a : Addr} {kA : ClassId} {z j : Int32} {vs : List Value} {dv : Value} {x : Int32} (i : Nat) (V : Arv Z h a kA .char z vs dv) (M : Mine Z EL n0 vm0 h a) (hj : j.toNatClampNeg = i) (h0 : ¬ j < 0) (hz : j < z) (hi : i < vs.length) (hd : decode bytes pc = .ok (.castore, 1)) (hp : pc + 1 = pc')
    (k : ∀ T' h', Wk p l e R s m args below meth c Z a0 EL n0 own nm bytes maxL ret T' vm0 h' cells slots → Keep h h' [a] → CHr Z EL vm0 h vm0 h' → Arv Z h' a kA .char z (vs.set i (.int (nar .char x))) dv → Go p e below s R Z EL n0 Q (T'.setTop (mkF m pc' Ls st))) : Go p e below s R Z EL n0 Q (T.setTop (mkF m pc Ls (.int x :: .int j :: .ref a :: st))) := by
  obtain ⟨⟨k0, locs, X, hS, hk, N⟩, ⟨eT, hZ, hown, C⟩, hh⟩ := W
  obtain ⟨cl, A, q1, S, q3, H, G⟩ := V
  have hin : ¬ (j < 0 ∨ cl.slots.size ≤ j.toNatClampNeg) := inb_of S ⟨h0, hz⟩
  obtain ⟨T', h', X', e', Wr', st'⟩ := stC X hh.2.1 (show Z.Warmed39 (s.setVm vm0).vm from hZ) eT A hin (g := mkF m pc Ls (.int x :: .int j :: .ref a :: st)) rfl rfl (hb hh.2.2.1 hd)
  subst hp
  have Ch := CHr.wr Wr' M.2.2 C.1
  exact Go.up st' (k T' h' ⟨⟨k0, _, X', hS, Nat.le_trans hk Ch.2.1, Fr.snoc X' N M.1⟩, ⟨e', hZ, hown, C.trans Ch⟩, hh⟩ (Keep.of_wr Wr') Ch (Arv.set A q1 S q3 H G (fits_nar_char x) Wr' i hj hi))
theorem s_iastore (W : Wk p l e R s m args below meth c Z a0 EL n0 own nm bytes maxL ret T vm0 h cells slots) {a : Addr} {kA : ClassId} {z j : Int32} {vs : List Value} {dv : Value} {x : Int32} (i : Nat) (V : Arv Z h a kA .int z vs dv) (M : Mine Z EL n0 vm0 h a) (hj : j.toNatClampNeg = i) (h0 : ¬ j < 0) (hz : j < z) (hi : i < vs.length) (hd : decode bytes pc = .ok (.iastore, 1)) (hp : pc + 1 = pc')
    (k : ∀ T' h', Wk p l e R s m args below meth c Z a0 EL n0 own nm bytes maxL ret T' vm0 h' cells slots → Keep h h' [a] → CHr Z EL vm0 h vm0 h' → Arv Z h' a kA .int z (vs.set i (.int x)) dv → Go p e below s R Z EL n0 Q (T'.setTop (mkF m pc' Ls st))) : Go p e below s R Z EL n0 Q (T.setTop (mkF m pc Ls (.int x :: .int j :: .ref a :: st))) := by
  obtain ⟨⟨k0, locs, X, hS, hk, N⟩, ⟨eT, hZ, hown, C⟩, hh⟩ := W
  obtain ⟨cl, A, q1, S, q3, H, G⟩ := V
  have hin : ¬ (j < 0 ∨ cl.slots.size ≤ j.toNatClampNeg) := inb_of S ⟨h0, hz⟩
  obtain ⟨T', h', X', e', Wr', st'⟩ := stI X hh.2.1 (show Z.Warmed39 (s.setVm vm0).vm from hZ) eT A hin (g := mkF m pc Ls (.int x :: .int j :: .ref a :: st)) rfl rfl (hb hh.2.2.1 hd)
  subst hp
  have Ch := CHr.wr Wr' M.2.2 C.1
  exact Go.up st' (k T' h' ⟨⟨k0, _, X', hS, Nat.le_trans hk Ch.2.1, Fr.snoc X' N M.1⟩, ⟨e', hZ, hown, C.trans Ch⟩, hh⟩ (Keep.of_wr Wr') Ch (Arv.set A q1 S q3 H G rfl Wr' i hj hi))
theorem s_bastore (W : Wk p l e R s m args below meth c Z a0 EL n0 own nm bytes maxL ret T vm0 h cells slots) {a : Addr} {kA : ClassId} {z j : Int32} {vs : List Value} {dv : Value} {x : Int32} (i : Nat) (V : Arv Z h a kA .byte z vs dv) (M : Mine Z EL n0 vm0 h a) (hj : j.toNatClampNeg = i) (h0 : ¬ j < 0) (hz : j < z) (hi : i < vs.length) (hd : decode bytes pc = .ok (.bastore, 1)) (hp : pc + 1 = pc')
    (k : ∀ T' h', Wk p l e R s m args below meth c Z a0 EL n0 own nm bytes maxL ret T' vm0 h' cells slots → Keep h h' [a] → CHr Z EL vm0 h vm0 h' → Arv Z h' a kA .byte z (vs.set i (.int x.toInt8.toInt32)) dv → Go p e below s R Z EL n0 Q (T'.setTop (mkF m pc' Ls st))) : Go p e below s R Z EL n0 Q (T.setTop (mkF m pc Ls (.int x :: .int j :: .ref a :: st))) := by
  obtain ⟨⟨k0, locs, X, hS, hk, N⟩, ⟨eT, hZ, hown, C⟩, hh⟩ := W
  obtain ⟨cl, A, q1, S, q3, H, G⟩ := V
  have hin : ¬ (j < 0 ∨ cl.slots.size ≤ j.toNatClampNeg) := inb_of S ⟨h0, hz⟩
  obtain ⟨T', h', X', e', Wr', st'⟩ := stB X hh.2.1 (show Z.Warmed39 (s.setVm vm0).vm from hZ) eT A hin (g := mkF m pc Ls (.int x :: .int j :: .ref a :: st)) rfl rfl (hb hh.2.2.1 hd)
  subst hp
  have Ch := CHr.wr Wr' M.2.2 C.1
  exact Go.up st' (k T' h' ⟨⟨k0, _, X', hS, Nat.le_trans hk Ch.2.1, Fr.snoc X' N M.1⟩, ⟨e', hZ, hown, C.trans Ch⟩, hh⟩ (Keep.of_wr Wr') Ch (Arv.set A q1 S q3 H G (fits_nar_byte x) Wr' i hj hi))
theorem s_lastore (W : Wk p l e R s m args below meth c Z a0 EL n0 own nm bytes maxL ret T vm0 h cells slots) {a : Addr} {kA : ClassId} {z j : Int32} {vs : List Value} {dv : Value} {x : Int64} (i : Nat) (V : Arv Z h a kA .long z vs dv) (M : Mine Z EL n0 vm0 h a) (hj : j.toNatClampNeg = i) (h0 : ¬ j < 0) (hz : j < z) (hi : i < vs.length) (hd : decode bytes pc = .ok (.lastore, 1)) (hp : pc + 1 = pc')
    (k : ∀ T' h', Wk p l e R s m args below meth c Z a0 EL n0 own nm bytes maxL ret T' vm0 h' cells slots → Keep h h' [a] → CHr Z EL vm0 h vm0 h' → Arv Z h' a kA .long z (vs.set i (.long x)) dv → Go p e below s R Z EL n0 Q (T'.setTop (mkF m pc' Ls st))) : Go p e below s R Z EL n0 Q (T.setTop (mkF m pc Ls (.long x :: .int j :: .ref a :: st))) := by
  obtain ⟨⟨k0, locs, X, hS, hk, N⟩, ⟨eT, hZ, hown, C⟩, hh⟩ := W
  obtain ⟨cl, A, q1, S, q3, H, G⟩ := V
  have hin : ¬ (j < 0 ∨ cl.slots.size ≤ j.toNatClampNeg) := inb_of S ⟨h0, hz⟩
  obtain ⟨T', h', X', e', Wr', st'⟩ := stJ X hh.2.1 (show Z.Warmed39 (s.setVm vm0).vm from hZ) eT A hin (g := mkF m pc Ls (.long x :: .int j :: .ref a :: st)) rfl rfl (hb hh.2.2.1 hd)
  subst hp
  have Ch := CHr.wr Wr' M.2.2 C.1
  exact Go.up st' (k T' h' ⟨⟨k0, _, X', hS, Nat.le_trans hk Ch.2.1, Fr.snoc X' N M.1⟩, ⟨e', hZ, hown, C.trans Ch⟩, hh⟩ (Keep.of_wr Wr') Ch (Arv.set A q1 S q3 H G rfl Wr' i hj hi))
theorem s_aastore (W : Wk p l e R s m args below meth c Z a0 EL n0 own nm bytes maxL ret T vm0 h cells slots) {a : Addr} {kA : ClassId} {z j : Int32} {vs : List Value} {dv v : Value} {ty : FieldType} (i : Nat) (V : Arv Z h a kA ty z vs dv) (hty : ty.isReference = true) (hv : fits ty v = true) (F : Sto Z h a v) (M : Mine Z EL n0 vm0 h a) (hj : j.toNatClampNeg = i) (h0 : ¬ j < 0) (hz : j < z) (hi : i < vs.length) (hd : decode bytes pc = .ok (.aastore, 1)) (hp : pc + 1 = pc')
    (k : ∀ T' h', Wk p l e R s m args below meth c Z a0 EL n0 own nm bytes maxL ret T' vm0 h' cells slots → Keep h h' [a] → CHr Z EL vm0 h vm0 h' → Arv Z h' a kA ty z (vs.set i v) dv → Go p e below s R Z EL n0 Q (T'.setTop (mkF m pc' Ls st))) : Go p e below s R Z EL n0 Q (T.setTop (mkF m pc Ls (v :: .int j :: .ref a :: st))) := by
  obtain ⟨⟨k0, locs, X, hS, hk, N⟩, ⟨eT, hZ, hown, C⟩, hh⟩ := W
  obtain ⟨cl, A, q1, S, q3, H, G⟩ := V
  have hin : ¬ (j < 0 ∨ cl.slots.size ≤ j.toNatClampNeg) := inb_of S ⟨h0, hz⟩
  obtain ⟨T', h', X', e', Wr', st'⟩ := stR X hh.2.1 (show Z.Warmed39 (s.setVm vm0).vm from hZ) eT A hin hty F (g := mkF m pc Ls (v :: .int j :: .ref a :: st)) rfl rfl (hb hh.2.2.1 hd)
  subst hp
  have Ch := CHr.wr Wr' M.2.2 C.1
  exact Go.up st' (k T' h' ⟨⟨k0, _, X', hS, Nat.le_trans hk Ch.2.1, Fr.snoc X' N M.1⟩, ⟨e', hZ, hown, C.trans Ch⟩, hh⟩ (Keep.of_wr Wr') Ch (Arv.set A q1 S q3 H G hv Wr' i hj hi))
theorem s_iaload (W : Wk p l e R s m args below meth c Z a0 EL n0 own nm bytes maxL ret T vm0 h cells slots) {a : Addr} {kA : ClassId} {z j : Int32} {vs : List Value} {dv : Value} (v : Value) (V : Arv Z h a kA .int z vs dv) (h0 : ¬ j < 0) (hz : j < z) (hv : vs.getD j.toNatClampNeg dv = v) (hd : decode bytes pc = .ok (.iaload, 1)) (hp : pc + 1 = pc') (k : Go p e below s R Z EL n0 Q (T.setTop (mkF m pc' Ls (v :: st)))) : Go p e below s R Z EL n0 Q (T.setTop (mkF m pc Ls (.int j :: .ref a :: st))) := by
  obtain ⟨⟨k0, locs, X, hS, hk, N⟩, ⟨eT, hZ, hown, C⟩, hh⟩ := W
  obtain ⟨cl, A, q1, S, q3, H, G⟩ := V
  have hin : ¬ (j < 0 ∨ cl.slots.size ≤ j.toNatClampNeg) := inb_of S ⟨h0, hz⟩
  subst hp
  exact Go.up (fun t q => X.iaload hh.2.1 (j := j) (v := v) (by rw [eT]; exact A.1) (State.isArrayOf_alike (show Z.vm.Alike (s.setVm vm0).vm from hZ.alike) A.2.1) A.2.2 hin (H.at hin hv) (g := mkF m pc Ls (.int j :: .ref a :: st)) rfl rfl (hb hh.2.2.1 hd) t q) k
theorem s_caload (W : Wk p l e R s m args below meth c Z a0 EL n0 own nm bytes maxL ret T vm0 h cells slots) {a : Addr} {kA : ClassId} {z j : Int32} {vs : List Value} {dv : Value} (v : Value) (V : Arv Z h a kA .char z vs dv) (h0 : ¬ j < 0) (hz : j < z) (hv : vs.getD j.toNatClampNeg dv = v) (hd : decode bytes pc = .ok (.caload, 1)) (hp : pc + 1 = pc') (k : Go p e below s R Z EL n0 Q (T.setTop (mkF m pc' Ls (v :: st)))) : Go p e below s R Z EL n0 Q (T.setTop (mkF m pc Ls (.int j :: .ref a :: st))) := by
  obtain ⟨⟨k0, locs, X, hS, hk, N⟩, ⟨eT, hZ, hown, C⟩, hh⟩ := W
  obtain ⟨cl, A, q1, S, q3, H, G⟩ := V
  have hin : ¬ (j < 0 ∨ cl.slots.size ≤ j.toNatClampNeg) := inb_of S ⟨h0, hz⟩
  subst hp
  exact Go.up (fun t q => X.caload hh.2.1 (j := j) (v := v) (by rw [eT]; exact A.1) (State.isArrayOf_alike (show Z.vm.Alike (s.setVm vm0).vm from hZ.alike) A.2.1) A.2.2 hin (H.at hin hv) (g := mkF m pc Ls (.int j :: .ref a :: st)) rfl rfl (hb hh.2.2.1 hd) t q) k
theorem s_baload (W : Wk p l e R s m args below meth c Z a0 EL n0 own nm bytes maxL ret T vm0 h cells slots) {a : Addr} {kA : ClassId} {z j : Int32} {vs : List Value} {dv : Value} (v : Value) (V : Arv Z h a kA .byte z vs dv) (h0 : ¬ j < 0) (hz : j < z) (hv : vs.getD j.toNatClampNeg dv = v) (hd : decode bytes pc = .ok (.baload, 1)) (hp : pc + 1 = pc') (k : Go p e below s R Z EL n0 Q (T.setTop (mkF m pc' Ls (v :: st)))) : Go p e below s R Z EL n0 Q (T.setTop (mkF m pc Ls (.int j :: .ref a :: st))) := by
  obtain ⟨⟨k0, locs, X, hS, hk, N⟩, ⟨eT, hZ, hown, C⟩, hh⟩ := W
  obtain ⟨cl, A, q1, S, q3, H, G⟩ := V
  have hin : ¬ (j < 0 ∨ cl.slots.size ≤ j.toNatClampNeg) := inb_of S ⟨h0, hz⟩
  subst hp
  exact Go.up (fun t q => X.baloadBytes hh.2.1 (j := j) (v := v) (by rw [eT]; exact A.1) (State.isArrayOf_alike (show Z.vm.Alike (s.setVm vm0).vm from hZ.alike) A.2.1) A.2.2 hin (H.at hin hv) (g := mkF m pc Ls (.int j :: .ref a :: st)) rfl rfl (hb hh.2.2.1 hd) t q) k
theorem s_laload (W : Wk p l e R s m args below meth c Z a0 EL n0 own nm bytes maxL ret T vm0 h cells slots) {a : Addr} {kA : ClassId} {z j : Int32} {vs : List Value} {dv : Value} (v : Value) (V : Arv Z h a kA .long z vs dv) (h0 : ¬ j < 0) (hz : j < z) (hv : vs.getD j.toNatClampNeg dv = v) (hd : decode bytes pc = .ok (.laload, 1)) (hp : pc + 1 = pc') (k : Go p e below s R Z EL n0 Q (T.setTop (mkF m pc' Ls (v :: st)))) : Go p e below s R Z EL n0 Q (T.setTop (mkF m pc Ls (.int j :: .ref a :: st))) := by
  obtain ⟨⟨k0, locs, X, hS, hk, N⟩, ⟨eT, hZ, hown, C⟩, hh⟩ := W
  obtain ⟨cl, A, q1, S, q3, H, G⟩ := V
  have hin : ¬ (j < 0 ∨ cl.slots.size ≤ j.toNatClampNeg) := inb_of S ⟨h0, hz⟩
  subst hp
  exact Go.up (fun t q => X.laload hh.2.1 (j := j) (v := v) (by rw [eT]; exact A.1) (State.isArrayOf_alike (show Z.vm.Alike (s.setVm vm0).vm from hZ.alike) A.2.1) A.2.2 hin (H.at hin hv) (g := mkF m pc Ls (.int j :: .ref a :: st)) rfl rfl (hb hh.2.2.1 hd) t q) k
theorem s_aaload (W : Wk p l e R s m args below meth c Z a0 EL n0 own nm bytes maxL ret T vm0 h cells slots) {a : Addr} {kA : ClassId} {z j : Int32} {vs : List Value} {dv : Value} {ty : FieldType} (v : Value) (V : Arv Z h a kA ty z vs dv) (hty : ty.isReference = true) (h0 : ¬ j < 0) (hz : j < z) (hv : vs.getD j.toNatClampNeg dv = v) (hd : decode bytes pc = .ok (.aaload, 1)) (hp : pc + 1 = pc') (k : Go p e below s R Z EL n0 Q (T.setTop (mkF m pc' Ls (v :: st)))) : Go p e below s R Z EL n0 Q (T.setTop (mkF m pc Ls (.int j :: .ref a :: st))) := by
  obtain ⟨⟨k0, locs, X, hS, hk, N⟩, ⟨eT, hZ, hown, C⟩, hh⟩ := W
  obtain ⟨cl, A, q1, S, q3, H, G⟩ := V
  have hin : ¬ (j < 0 ∨ cl.slots.size ≤ j.toNatClampNeg) := inb_of S ⟨h0, hz⟩
  subst hp
  exact Go.up (fun t q => X.aaload hh.2.1 (j := j) (v := v) (by rw [eT]; exact A.1) (State.isArrayOf_alike (show Z.vm.Alike (s.setVm vm0).vm from hZ.alike) A.2.1) hty A.2.2 hin (H.at hin hv) (g := mkF m pc Ls (.int j :: .ref a :: st)) rfl rfl (hb hh.2.2.1 hd) t q) k
theorem s_alen (W : Wk p l e R s m args below meth c Z a0 EL n0 own nm bytes maxL ret T vm0 h cells slots) {a : Addr} {kA : ClassId} {z : Int32} {vs : List Value} {dv : Value} {ty : FieldType} (V : Arv Z h a kA ty z vs dv) (hd : decode bytes pc = .ok (.arraylength, 1)) (hp : pc + 1 = pc') (k : Go p e below s R Z EL n0 Q (T.setTop (mkF m pc' Ls (.int z :: st)))) : Go p e below s R Z EL n0 Q (T.setTop (mkF m pc Ls (.ref a :: st))) := by
  obtain ⟨⟨k0, locs, X, hS, hk, N⟩, ⟨eT, hZ, hown, C⟩, hh⟩ := W
  obtain ⟨cl, A, q1, S, q3, H, G⟩ := V
  subst hp
  have ez := len_of S q3
  refine Go.up (fun t q => X.arraylength hh.2.1 (by rw [eT]; exact A.1) (State.isArrayOf_alike (show Z.vm.Alike (s.setVm vm0).vm from hZ.alike) A.2.1) (g := mkF m pc Ls (.ref a :: st)) rfl rfl (hb hh.2.2.1 hd) t q) ?_
  rw [ez]; exact k
theorem s_objinit (W : Wk p l e R s m args below meth c Z a0 EL n0 own nm bytes maxL ret T vm0 h cells slots) {idx : Nat} (w1 : (Cond.methodLink own idx Lib.objectInit).before a0 Z = true) (w2 : (Cond.instanceMethod Lib.objectInit).before a0 Z = true) (w3 : (Cond.code Lib.objectInit ⟨#[0xb1]⟩ 1 none).before a0 Z = true) {a : Addr} (hsz : Ls.size = maxL) (hd : decode bytes pc = .ok (.invokespecial idx, 3)) (Wd : Nat) (hWd : (st.map fun v => v.category).sum ≤ Wd) (hf : 1 ≤ R.frames) (hl : Wd + 12 ≤ R.locals) (hp : pc + 3 = pc') (k : ∀ T', Wk p l e R s m args below meth c Z a0 EL n0 own nm bytes maxL ret T' vm0 h cells slots → Go p e below s R Z EL n0 Q (T'.setTop (mkF m pc' Ls st))) : Go p e below s R Z EL n0 Q (T.setTop (mkF m pc Ls (.ref a :: st))) := by
  obtain ⟨⟨k0, locs, X, hS, hk, N⟩, ⟨eT, hZ, hown, C⟩, hh⟩ := W
  obtain ⟨T', X', e', st'⟩ := initO X hh.2.1 (show Z.Warmed39 (s.setVm vm0).vm from hZ) (own := own) hown w1 w2 w3 eT (g := mkF m pc Ls (.ref a :: st)) rfl (hsz.trans hh.2.2.2.1.symm) rfl (hb hh.2.2.1 hd) hf (W := Wd) (by show 2 * 0 + _ ≤ _; omega) hl
  subst hp
  exact Go.up st' (k T' ⟨⟨k0, locs, X', hS, hk, N⟩, ⟨e', hZ, hown, C⟩, hh⟩)


theorem Con.back {y : MethodName} {bytes' : ByteArray} {maxL' : Nat} {ret' : Option FieldType} {rm : Room} {len W : Nat} {as' : Array Value} {S : List Addr} {Q' : Option Value → Vm → Heap → Prop}
    (hM : Con l Z EL n0 y bytes' maxL' ret' [] rm as' h S Q') (hZ : Z.Warmed39 vm0) (wc : (Cond.code y bytes' maxL' ret').before a0 Z = true) (wz : (Cond.initialized y.cls).before a0 Z = true) (hf : rm.frames + 1 ≤ R.frames) (hl : W + (maxL' + 11) + rm.locals ≤ R.locals) (hEL : EW Z a0 EL) (H : CHv Z EL vm0 h) (hS : ∀ x ∈ S, x < h.size ∧ Safe Z EL vm0 h x) :
    BackS l R p e below (s.setVm vm0) args y len W (fun A a => a = as' ∧ A.U.heap = h ∧ A.cells + rm.cells ≤ R.cells ∧ A.slots + rm.slots ≤ R.slots)
      (fun A _ v B => ∃ L, Q' v B.U.vm B.U.heap ∧ Fr n0 L ∧ B.locs = A.locs ++ L ∧ B.cells = A.cells + rm.cells ∧ B.slots = A.slots + rm.slots ∧ CHr Z EL vm0 h B.U.vm B.U.heap ∧ (NW = true → (s.setVm vm0).WarmedH B.U.vm)) :=
  BackS.of_freeW (bytes := bytes') (maxL := maxL') (ret := ret') (E := fun _ first o t L k n => k = rm.cells ∧ n = rm.slots ∧ (∃ v, o = .returned v ∧ Q' v t.vm t.heap) ∧ Fr n0 L ∧ CHr Z EL first.vm first.heap t.vm t.heap ∧ (NW = true → first.WarmedH t.vm)) hM hf hl
    (fun m meth c A a Y hp => have hU : Z.Warmed39 A.U.vm := wtrans (s := s.setVm vm0) hZ Y.warmed
      ⟨by show (Cond.and _ .tt).before a A.U = true; rw [Cond.before_and, mv hU wc]; rfl, mv hU wc, mv hU wz, hp.2.2.1, hp.2.2.2⟩)
    (fun m meth c A a g mk Y hp => ⟨hp.1, wtrans (s := s.setVm vm0) hZ Y.warmed, hp.2.1, (CHv.at Y hZ hEL H).1, fun x hx => (CHv.at Y hZ hEL H).safe (hS x hx).1 (hS x hx).2⟩) (fun _ _ _ _ _ _ _ _ _ => trivial)
    (fun _ _ _ _ ⟨v, L, h1, h2, h3, h4, h5⟩ => ⟨L, _, _, h5.1, rfl, rfl, ⟨v, h1, h2⟩, h3, h4, h5.2⟩)
    (fun m meth c A a g mk v t L k n Y hp _ _ ⟨e1, e2, ⟨v', e3, e4⟩, e5, e6, e7⟩ => by
      cases e3; subst e1 e2
      refine ⟨L, e4, e5, rfl, rfl, rfl, (CHv.at Y hZ hEL H).trans ?_, fun q => State.WarmedH.trans (t := A.U) Y.warmed (e7 q)⟩
      rw [← hp.2.1]; exact e6)
theorem Con.of {y : MethodName} {bytes' : ByteArray} {maxL' : Nat} {ret' : Option FieldType} {ws : List Cond} {rm : Room} {as' : Array Value} {S : List Addr} {Q' : Option Value → Vm → Heap → Prop} (hpl : plainFor y = true) (O : Old Z n0 h) (hEL : EW Z a0 EL)
    (hbody : ∀ p e s m below meth c T, Wk p l e rm s m as' below meth c Z a0 EL n0 y.cls y.name bytes' maxL' ret' T s.vm h 0 0 → s.heap = h → (∀ x ∈ S, Safe Z EL s.vm h x) → Go p e below s rm Z EL n0 Q' (T.setTop (entryFrame m as' maxL'))) :
    Con l Z EL n0 y bytes' maxL' ret' ws rm as' h S Q' := by
  refine MetFree.of_bodySF hpl hisR ?_
  intro p e s m args below meth c s₁ Bd hml hP hK
  obtain ⟨rfl, hZ, rfl, hC, hSafe⟩ := hP
  have hown : s.vm.findClass y.cls = some m.cls := findClass_of_methodNamed Bd.named
  have hnm := (name_of_methodNamed Bd.named Bd.method).1
  have X0 : Stand p l e rm s m args below meth c s₁ [] 0 0 := Stand.of_body Bd
  have e0 : s₁.heap = s.heap := by rw [Bd.state]; rfl
  exact hbody p e s m below meth c s₁ ⟨⟨0, [], X0, ⟨(State.WarmedH.refl s).since 0, fun _ => State.WarmedH.refl s⟩, Nat.zero_le _, Fr.nil n0⟩, ⟨e0, hZ, hown, CHr.refl hC⟩, O, Bd.exec, Bd.bytes, hml, Bd.returns, Bd.notSynchronized, hnm, hEL⟩ rfl hSafe

theorem nf_mv {y : MethodName} (hZ : Z.Warmed39 vm0) (wf : NotFace Z y) : NotFace (s.setVm vm0) y := fun r0 h0 => by
  have q : (Z.setVm vm0).methodNamed? y = Z.methodNamed? y := State.methodNamed?_setVm hZ.alike y
  have h0' : Z.methodNamed? y = some r0 := q.symm.trans h0
  obtain ⟨kr, hkr, hn⟩ := wf r0 h0'
  obtain ⟨k', q1, q2⟩ := hZ.alike.2.2 _ _ hkr
  exact ⟨k', q1, by rw [q2]; exact hn⟩
theorem PrivateAt.of_word {y : MethodName} {args : Array Value} {s : State} (w : (Cond.privateMethod y).before args s = true) : s.PrivateAt y := Cond.privateMethod_at w
theorem s_static (W : Wk p l e R s m args below meth c Z a0 EL n0 own nm bytes maxL ret T vm0 h cells slots) {index : Nat} {y : MethodName} {bytes' : ByteArray} {maxL' : Nat} {ret' : Option FieldType} {rm : Room} {S : List Addr} {Q' : Option Value → Vm → Heap → Prop} (w1 : (Cond.methodLink own index y).before a0 Z = true) (w2 : (Cond.static y).before a0 Z = true) (wz : (Cond.initialized y.cls).before a0 Z = true) (wc : (Cond.code y bytes' maxL' ret').before a0 Z = true) (hy : y.cls ≠ "java/lang/invoke/MethodHandle" ∧ y.cls ≠ "java/lang/invoke/VarHandle") {ps : List FieldType} {r : Option FieldType} (pd : parseMethodDescriptor y.desc = some ⟨ps, r⟩) (argsL : List Value) (hln : argsL.length = ps.length) (hM : Con l Z EL n0 y bytes' maxL' ret' [] rm argsL.toArray h S Q') (hSf : ∀ x ∈ S, x < h.size ∧ Safe Z EL vm0 h x) (hsz : Ls.size = maxL) (hd : decode bytes pc = .ok (.invokestatic index, 3)) (Wd : Nat) (hWd : (st.map fun v => v.category).sum ≤ Wd) (hf : rm.frames + 1 ≤ R.frames) (hlo : Wd + (maxL' + 11) + rm.locals ≤ R.locals) (hc : cells + rm.cells ≤ R.cells) (hl : slots + rm.slots ≤ R.slots) (hp : pc + 3 = pc')
    (k : ∀ v T' vm' h', Wk p l e R s m args below meth c Z a0 EL n0 own nm bytes maxL ret T' vm' h' (cells + rm.cells) (slots + rm.slots) → CHr Z EL vm0 h vm' h' → Q' v vm' h' → Go p e below s R Z EL n0 Q (T'.setTop (mkF m pc' Ls (v.toList ++ st)))) : Go p e below s R Z EL n0 Q (T.setTop (mkF m pc Ls (argsL.reverse ++ st))) := by
  obtain ⟨⟨k0, locs, X, hS, hk, N⟩, ⟨eT, hZ, hown, C⟩, hh⟩ := W
  obtain ⟨v, vm1, ⟨U, L1, c1, n1⟩, hW1, X', hS1, hgr, ⟨L, hQ, hF, hL, hcc, hnn, hC, hNW⟩, hsteps⟩ := callSS X hh.2.1 (own := own) (index := index) (y := y) (bytes := bytes') (maxL := maxL') (ret := ret') hown (mv (s := s.setVm vm0) hZ w1) (mv (s := s.setVm vm0) hZ w2) (mv (s := s.setVm vm0) hZ wz) (mv (s := s.setVm vm0) hZ wc) hy (hM.back (p := p) (e := e) (below := below) (args := args) (len := 3) (R := R) (s := s) (W := Wd) hZ wc wz hf hlo hh.2.2.2.2.2.2.2 C.1 hSf) (g := mkF m pc Ls (argsL.reverse ++ st)) rfl (hsz.trans hh.2.2.2.1.symm) (argsL := argsL) (rest := st) (lenOf pd hln) rfl (by show 2 * 0 + _ ≤ _; omega) (hb hh.2.2.1 hd) (fun _ _ => ⟨rfl, eT, hc, hl⟩)
  dsimp only [Pt.U, Pt.locs, Pt.cells, Pt.slots] at X' hS1 hgr hQ hL hcc hnn hC hNW hsteps
  subst hL hcc hnn hp
  have hZ' : Z.Warmed39 U.vm := State.Warmed39.trans (t := s.setVm vm0) hZ hS1.1
  have hown' : U.vm.findClass own = some m.cls := (hS1.1.alike.findClass _ _).trans hown
  rw [eT] at hgr
  exact Go.up (fun t q => hsteps.trans q) (k v U U.vm U.heap ⟨⟨_, _, X', ⟨hS.1.trans hS1 (Nat.le_trans hk hgr), fun q => State.WarmedH.trans (t := s.setVm vm0) (hS.2 q) (hNW q)⟩, Nat.le_refl _, N.app hF⟩, ⟨rfl, hZ', hown', C.trans hC⟩, hh⟩ hC hQ)
theorem s_init (W : Wk p l e R s m args below meth c Z a0 EL n0 own nm bytes maxL ret T vm0 h cells slots) {index : Nat} {y : MethodName} {bytes' : ByteArray} {maxL' : Nat} {rm : Room} {S : List Addr} {Q' : Option Value → Vm → Heap → Prop} (hy1 : y.name = "<init>") (w1 : (Cond.methodLink own index y).before a0 Z = true) (w2 : (Cond.instanceMethod y).before a0 Z = true) (wz : (Cond.initialized y.cls).before a0 Z = true) (wc : (Cond.code y bytes' maxL' none).before a0 Z = true) (hy : y.cls ≠ "java/lang/invoke/MethodHandle" ∧ y.cls ≠ "java/lang/invoke/VarHandle") {ps : List FieldType} {r : Option FieldType} (pd : parseMethodDescriptor y.desc = some ⟨ps, r⟩) (argsL : List Value) (hln : argsL.length = ps.length) {a : Addr} (hM : Con l Z EL n0 y bytes' maxL' none [] rm (.ref a :: argsL).toArray h S Q') (hSf : ∀ x ∈ S, x < h.size ∧ Safe Z EL vm0 h x) (hsz : Ls.size = maxL) (hd : decode bytes pc = .ok (.invokespecial index, 3)) (Wd : Nat) (hWd : (st.map fun v => v.category).sum ≤ Wd) (hf : rm.frames + 1 ≤ R.frames) (hlo : Wd + (maxL' + 11) + rm.locals ≤ R.locals) (hc : cells + rm.cells ≤ R.cells) (hl : slots + rm.slots ≤ R.slots) (hp : pc + 3 = pc')
    (k : ∀ v T' vm' h', Wk p l e R s m args below meth c Z a0 EL n0 own nm bytes maxL ret T' vm' h' (cells + rm.cells) (slots + rm.slots) → CHr Z EL vm0 h vm' h' → Q' v vm' h' → Go p e below s R Z EL n0 Q (T'.setTop (mkF m pc' Ls (v.toList ++ st)))) : Go p e below s R Z EL n0 Q (T.setTop (mkF m pc Ls (argsL.reverse ++ .ref a :: st))) := by
  obtain ⟨⟨k0, locs, X, hS, hk, N⟩, ⟨eT, hZ, hown, C⟩, hh⟩ := W
  obtain ⟨v, vm1, ⟨U, L1, c1, n1⟩, hW1, X', hS1, hgr, ⟨L, hQ, hF, hL, hcc, hnn, hC, hNW⟩, hsteps⟩ := X.specialBackS hh.2.1 (own := own) (index := index) (y := y) hy1 hown (mv (s := s.setVm vm0) hZ w1) (mv (s := s.setVm vm0) hZ w2) (bytes := bytes') (maxL := maxL') (mv (s := s.setVm vm0) hZ wc) hy (hM.back (p := p) (e := e) (below := below) (args := args) (len := 3) (R := R) (s := s) (W := Wd) hZ wc wz hf hlo hh.2.2.2.2.2.2.2 C.1 hSf) (g := mkF m pc Ls (argsL.reverse ++ .ref a :: st)) rfl (hsz.trans hh.2.2.2.1.symm) (Steps.refl _) (a := a) (argsL := argsL) (rest := st) (lenOf pd hln) rfl (by show 2 * 0 + _ ≤ _; omega) (hb hh.2.2.1 hd) (fun _ _ => ⟨rfl, eT, hc, hl⟩)
  dsimp only [Pt.U, Pt.locs, Pt.cells, Pt.slots] at X' hS1 hgr hQ hL hcc hnn hC hNW hsteps
  subst hL hcc hnn hp
  have hZ' : Z.Warmed39 U.vm := State.Warmed39.trans (t := s.setVm vm0) hZ hS1.1
  have hown' : U.vm.findClass own = some m.cls := (hS1.1.alike.findClass _ _).trans hown
  rw [eT] at hgr
  exact Go.up (fun t q => hsteps.trans q) (k v U U.vm U.heap ⟨⟨_, _, X', ⟨hS.1.trans hS1 (Nat.le_trans hk hgr), fun q => State.WarmedH.trans (t := s.setVm vm0) (hS.2 q) (hNW q)⟩, Nat.le_refl _, N.app hF⟩, ⟨rfl, hZ', hown', C.trans hC⟩, hh⟩ hC hQ)
theorem s_virt (W : Wk p l e R s m args below meth c Z a0 EL n0 own nm bytes maxL ret T vm0 h cells slots) {index : Nat} {C0 : String} {y z : MethodName} {bytes' : ByteArray} {maxL' : Nat} {ret' : Option FieldType} {rm : Room} {S : List Addr} {Q' : Option Value → Vm → Heap → Prop} (w1 : (Cond.methodLink own index y).before a0 Z = true) (w2 : (Cond.declares y).before a0 Z = true) (w3 : (Cond.selects C0 y z).before a0 Z = true) (w4 : (Cond.instanceMethod z).before a0 Z = true) (wz : (Cond.initialized z.cls).before a0 Z = true) (wc : (Cond.code z bytes' maxL' ret').before a0 Z = true) (wf : NotFace Z y) (hy : y.cls ≠ "java/lang/invoke/MethodHandle" ∧ y.cls ≠ "java/lang/invoke/VarHandle") {ps : List FieldType} {r : Option FieldType} (pd : parseMethodDescriptor y.desc = some ⟨ps, r⟩) (argsL : List Value) (hln : argsL.length = ps.length) {a : Addr} (E : Exa Z h a C0) (hM : Con l Z EL n0 z bytes' maxL' ret' [] rm (.ref a :: argsL).toArray h S Q') (hSf : ∀ x ∈ S, x < h.size ∧ Safe Z EL vm0 h x) (hsz : Ls.size = maxL) (hd : decode bytes pc = .ok (.invokevirtual index, 3)) (Wd : Nat) (hWd : (st.map fun v => v.category).sum ≤ Wd) (hf : rm.frames + 1 ≤ R.frames) (hlo : Wd + (maxL' + 11) + rm.locals ≤ R.locals) (hc : cells + rm.cells ≤ R.cells) (hl : slots + rm.slots ≤ R.slots) (hp : pc + 3 = pc')
    (k : ∀ v T' vm' h', Wk p l e R s m args below meth c Z a0 EL n0 own nm bytes maxL ret T' vm' h' (cells + rm.cells) (slots + rm.slots) → CHr Z EL vm0 h vm' h' → Q' v vm' h' → Go p e below s R Z EL n0 Q (T'.setTop (mkF m pc' Ls (v.toList ++ st)))) : Go p e below s R Z EL n0 Q (T.setTop (mkF m pc Ls (argsL.reverse ++ .ref a :: st))) := by
  obtain ⟨⟨k0, locs, X, hS, hk, N⟩, ⟨eT, hZ, hown, C⟩, hh⟩ := W
  obtain ⟨cq, kq, qa, qb, qc⟩ := isOf (show Z.Warmed39 (s.setVm vm0).vm from hZ) eT E
  have wf' : NotFace (s.setVm vm0) y := nf_mv hZ wf
  obtain ⟨v, vm1, ⟨U, L1, c1, n1⟩, hW1, X', hS1, hgr, ⟨L, hQ, hF, hL, hcc, hnn, hC, hNW⟩, hsteps⟩ := X.virtualBackS hh.2.1 (own := own) (C := C0) (index := index) (y := y) (z := z) hown (mv (s := s.setVm vm0) hZ w1) (mv (s := s.setVm vm0) hZ w2) wf' (mv (s := s.setVm vm0) hZ w3) (mv (s := s.setVm vm0) hZ w4) hy (hM.back (p := p) (e := e) (below := below) (args := args) (len := 3) (R := R) (s := s) (W := Wd) hZ wc wz hf hlo hh.2.2.2.2.2.2.2 C.1 hSf) qa qc (g := mkF m pc Ls (argsL.reverse ++ .ref a :: st)) rfl (hsz.trans hh.2.2.2.1.symm) (Steps.refl _) (argsL := argsL) (rest := st) (lenOf pd hln) rfl (by show 2 * 0 + _ ≤ _; omega) (hb hh.2.2.1 hd) (fun _ _ => ⟨rfl, eT, hc, hl⟩)
  dsimp only [Pt.U, Pt.locs, Pt.cells, Pt.slots] at X' hS1 hgr hQ hL hcc hnn hC hNW hsteps
  subst hL hcc hnn hp
  have hZ' : Z.Warmed39 U.vm := State.Warmed39.trans (t := s.setVm vm0) hZ hS1.1
  have hown' : U.vm.findClass own = some m.cls := (hS1.1.alike.findClass _ _).trans hown
  rw [eT] at hgr
  exact Go.up (fun t q => hsteps.trans q) (k v U U.vm U.heap ⟨⟨_, _, X', ⟨hS.1.trans hS1 (Nat.le_trans hk hgr), fun q => State.WarmedH.trans (t := s.setVm vm0) (hS.2 q) (hNW q)⟩, Nat.le_refl _, N.app hF⟩, ⟨rfl, hZ', hown', C.trans hC⟩, hh⟩ hC hQ)
theorem s_face (W : Wk p l e R s m args below meth c Z a0 EL n0 own nm bytes maxL ret T vm0 h cells slots) {index count : Nat} {C0 : String} {y z : MethodName} {bytes' : ByteArray} {maxL' : Nat} {ret' : Option FieldType} {rm : Room} {S : List Addr} {Q' : Option Value → Vm → Heap → Prop} (w1 : (Cond.methodLink own index y).before a0 Z = true) (w2 : (Cond.declares y).before a0 Z = true) (w5 : (Cond.interfaceMethod y.cls y.cls y.name y.desc).before a0 Z = true) (w3 : (Cond.selects C0 y z).before a0 Z = true) (w4 : (Cond.instanceMethod z).before a0 Z = true) (w6 : (Cond.publicMethod z).before a0 Z = true) (w7 : (Cond.unhidden C0 y.name y.desc).before a0 Z = true) (w8 : (Cond.castable C0 y.cls).before a0 Z = true) (wz : (Cond.initialized z.cls).before a0 Z = true) (wc : (Cond.code z bytes' maxL' ret').before a0 Z = true) (hy : y.cls ≠ "java/lang/invoke/MethodHandle" ∧ y.cls ≠ "java/lang/invoke/VarHandle") {ps : List FieldType} {r : Option FieldType} (pd : parseMethodDescriptor y.desc = some ⟨ps, r⟩) (argsL : List Value) (hln : argsL.length = ps.length) {a : Addr} (E : Exa Z h a C0) (hM : Con l Z EL n0 z bytes' maxL' ret' [] rm (.ref a :: argsL).toArray h S Q') (hSf : ∀ x ∈ S, x < h.size ∧ Safe Z EL vm0 h x) (hsz : Ls.size = maxL) (hd : decode bytes pc = .ok (.invokeinterface index count, 5)) (Wd : Nat) (hWd : (st.map fun v => v.category).sum ≤ Wd) (hf : rm.frames + 1 ≤ R.frames) (hlo : Wd + (maxL' + 11) + rm.locals ≤ R.locals) (hc : cells + rm.cells ≤ R.cells) (hl : slots + rm.slots ≤ R.slots) (hp : pc + 5 = pc')
    (k : ∀ v T' vm' h', Wk p l e R s m args below meth c Z a0 EL n0 own nm bytes maxL ret T' vm' h' (cells + rm.cells) (slots + rm.slots) → CHr Z EL vm0 h vm' h' → Q' v vm' h' → Go p e below s R Z EL n0 Q (T'.setTop (mkF m pc' Ls (v.toList ++ st)))) : Go p e below s R Z EL n0 Q (T.setTop (mkF m pc Ls (argsL.reverse ++ .ref a :: st))) := by
  obtain ⟨⟨k0, locs, X, hS, hk, N⟩, ⟨eT, hZ, hown, C⟩, hh⟩ := W
  obtain ⟨cq, kq, qa, qb, qc⟩ := isOf (show Z.Warmed39 (s.setVm vm0).vm from hZ) eT E
  obtain ⟨v, vm1, ⟨U, L1, c1, n1⟩, hW1, X', hS1, hgr, ⟨L, hQ, hF, hL, hcc, hnn, hC, hNW⟩, hsteps⟩ := X.interfaceBackS hh.2.1 (own := own) (C := C0) (index := index) (count := count) (xi := y) (y := z) hown (mv (s := s.setVm vm0) hZ w1) (mv (s := s.setVm vm0) hZ w2) (mv (s := s.setVm vm0) hZ w5 (by simp [Cond.onTables, Cond.keepsFace, Cond.faceAtom, Cond.keeps, Cond.steady]; exact hy)) (mv (s := s.setVm vm0) hZ w3) (mv (s := s.setVm vm0) hZ w4) (mv (s := s.setVm vm0) hZ w6) (mv (s := s.setVm vm0) hZ w7) (mv (s := s.setVm vm0) hZ w8) hy (hM.back (p := p) (e := e) (below := below) (args := args) (len := 5) (R := R) (s := s) (W := Wd) hZ wc wz hf hlo hh.2.2.2.2.2.2.2 C.1 hSf) qa qb qc (g := mkF m pc Ls (argsL.reverse ++ .ref a :: st)) rfl (hsz.trans hh.2.2.2.1.symm) (Steps.refl _) (argsL := argsL) (rest := st) (lenOf pd hln) rfl (by show 2 * 0 + _ ≤ _; omega) (hb hh.2.2.1 hd) (fun _ _ => ⟨rfl, eT, hc, hl⟩)
  dsimp only [Pt.U, Pt.locs, Pt.cells, Pt.slots] at X' hS1 hgr hQ hL hcc hnn hC hNW hsteps
  subst hL hcc hnn hp
  have hZ' : Z.Warmed39 U.vm := State.Warmed39.trans (t := s.setVm vm0) hZ hS1.1
  have hown' : U.vm.findClass own = some m.cls := (hS1.1.alike.findClass _ _).trans hown
  rw [eT] at hgr
  exact Go.up (fun t q => hsteps.trans q) (k v U U.vm U.heap ⟨⟨_, _, X', ⟨hS.1.trans hS1 (Nat.le_trans hk hgr), fun q => State.WarmedH.trans (t := s.setVm vm0) (hS.2 q) (hNW q)⟩, Nat.le_refl _, N.app hF⟩, ⟨rfl, hZ', hown', C.trans hC⟩, hh⟩ hC hQ)
theorem s_super (W : Wk p l e R s m args below meth c Z a0 EL n0 own nm bytes maxL ret T vm0 h cells slots) {index : Nat} {K : String} {y : MethodName} {bytes' : ByteArray} {maxL' : Nat} {ret' : Option FieldType} {rm : Room} {S : List Addr} {Q' : Option Value → Vm → Heap → Prop} (w1 : (Cond.methodLink own index y).before a0 Z = true) (w2 : (Cond.sameMethod y.cls y.cls y.name y.desc).before a0 Z = true) (w3 : (Cond.instanceMethod y).before a0 Z = true) (w4 : (Cond.superclass own y.cls).before a0 Z = true) (wz : (Cond.initialized y.cls).before a0 Z = true) (wc : (Cond.code y bytes' maxL' ret').before a0 Z = true) (hn0 : y.name ≠ "<init>") {ps : List FieldType} {r : Option FieldType} (pd : parseMethodDescriptor y.desc = some ⟨ps, r⟩) (argsL : List Value) (hln : argsL.length = ps.length) {a : Addr} (E : Ins Z h a K true) (hM : Con l Z EL n0 y bytes' maxL' ret' [] rm (.ref a :: argsL).toArray h S Q') (hSf : ∀ x ∈ S, x < h.size ∧ Safe Z EL vm0 h x) (hsz : Ls.size = maxL) (hd : decode bytes pc = .ok (.invokespecial index, 3)) (Wd : Nat) (hWd : (st.map fun v => v.category).sum ≤ Wd) (hf : rm.frames + 1 ≤ R.frames) (hlo : Wd + (maxL' + 11) + rm.locals ≤ R.locals) (hc : cells + rm.cells ≤ R.cells) (hl : slots + rm.slots ≤ R.slots) (hp : pc + 3 = pc')
    (k : ∀ v T' vm' h', Wk p l e R s m args below meth c Z a0 EL n0 own nm bytes maxL ret T' vm' h' (cells + rm.cells) (slots + rm.slots) → CHr Z EL vm0 h vm' h' → Q' v vm' h' → Go p e below s R Z EL n0 Q (T'.setTop (mkF m pc' Ls (v.toList ++ st)))) : Go p e below s R Z EL n0 Q (T.setTop (mkF m pc Ls (argsL.reverse ++ .ref a :: st))) := by
  obtain ⟨⟨k0, locs, X, hS, hk, N⟩, ⟨eT, hZ, hown, C⟩, hh⟩ := W
  obtain ⟨v, vm1, ⟨U, L1, c1, n1⟩, hW1, X', hS1, hgr, ⟨L, hQ, hF, hL, hcc, hnn, hC, hNW⟩, hsteps⟩ := superBackS X hh.2.1 (show Z.Warmed39 (s.setVm vm0).vm from hZ) (own := own) (K := K) (index := index) (y := y) hown w1 w2 w3 w4 hn0 (hM.back (p := p) (e := e) (below := below) (args := args) (len := 3) (R := R) (s := s) (W := Wd) hZ wc wz hf hlo hh.2.2.2.2.2.2.2 C.1 hSf) eT E (g := mkF m pc Ls (argsL.reverse ++ .ref a :: st)) rfl (hsz.trans hh.2.2.2.1.symm) (bytes := bytes') (maxL := maxL') (ret := ret') wc (argsL := argsL) (rest := st) (lenOf pd hln) rfl (by show 2 * 0 + _ ≤ _; omega) (hb hh.2.2.1 hd) (fun _ _ => ⟨rfl, eT, hc, hl⟩)
  dsimp only [Pt.U, Pt.locs, Pt.cells, Pt.slots] at X' hS1 hgr hQ hL hcc hnn hC hNW hsteps
  subst hL hcc hnn hp
  have hZ' : Z.Warmed39 U.vm := State.Warmed39.trans (t := s.setVm vm0) hZ hS1.1
  have hown' : U.vm.findClass own = some m.cls := (hS1.1.alike.findClass _ _).trans hown
  rw [eT] at hgr
  exact Go.up (fun t q => hsteps.trans q) (k v U U.vm U.heap ⟨⟨_, _, X', ⟨hS.1.trans hS1 (Nat.le_trans hk hgr), fun q => State.WarmedH.trans (t := s.setVm vm0) (hS.2 q) (hNW q)⟩, Nat.le_refl _, N.app hF⟩, ⟨rfl, hZ', hown', C.trans hC⟩, hh⟩ hC hQ)
theorem s_priv (W : Wk p l e R s m args below meth c Z a0 EL n0 own nm bytes maxL ret T vm0 h cells slots) {index : Nat} {C0 : String} {y : MethodName} {bytes' : ByteArray} {maxL' : Nat} {ret' : Option FieldType} {rm : Room} {S : List Addr} {Q' : Option Value → Vm → Heap → Prop} (w1 : (Cond.methodLink own index y).before a0 Z = true) (w2 : (Cond.instanceMethod y).before a0 Z = true) (w3 : (Cond.selects y.cls y y).before a0 Z = true) (w4 : (Cond.privateMethod y).before a0 Z = true) (wz : (Cond.initialized y.cls).before a0 Z = true) (wc : (Cond.code y bytes' maxL' ret').before a0 Z = true) (hy : y.cls ≠ "java/lang/invoke/MethodHandle" ∧ y.cls ≠ "java/lang/invoke/VarHandle") {ps : List FieldType} {r : Option FieldType} (pd : parseMethodDescriptor y.desc = some ⟨ps, r⟩) (argsL : List Value) (hln : argsL.length = ps.length) {a : Addr} (E : Exa Z h a C0) (hM : Con l Z EL n0 y bytes' maxL' ret' [] rm (.ref a :: argsL).toArray h S Q') (hSf : ∀ x ∈ S, x < h.size ∧ Safe Z EL vm0 h x) (hsz : Ls.size = maxL) (hd : decode bytes pc = .ok (.invokevirtual index, 3)) (Wd : Nat) (hWd : (st.map fun v => v.category).sum ≤ Wd) (hf : rm.frames + 1 ≤ R.frames) (hlo : Wd + (maxL' + 11) + rm.locals ≤ R.locals) (hc : cells + rm.cells ≤ R.cells) (hl : slots + rm.slots ≤ R.slots) (hp : pc + 3 = pc')
    (k : ∀ v T' vm' h', Wk p l e R s m args below meth c Z a0 EL n0 own nm bytes maxL ret T' vm' h' (cells + rm.cells) (slots + rm.slots) → CHr Z EL vm0 h vm' h' → Q' v vm' h' → Go p e below s R Z EL n0 Q (T'.setTop (mkF m pc' Ls (v.toList ++ st)))) : Go p e below s R Z EL n0 Q (T.setTop (mkF m pc Ls (argsL.reverse ++ .ref a :: st))) := by
  obtain ⟨⟨k0, locs, X, hS, hk, N⟩, ⟨eT, hZ, hown, C⟩, hh⟩ := W
  obtain ⟨cell, hcell, hobj⟩ := E.cell
  obtain ⟨v, vm1, ⟨U, L1, c1, n1⟩, hW1, X', hS1, hgr, ⟨L, hQ, hF, hL, hcc, hnn, hC, hNW⟩, hsteps⟩ := X.privateBackS hh.2.1 (own := own) (index := index) (y := y) (bytes := bytes') (maxL := maxL') (ret := ret') hown (mv (s := s.setVm vm0) hZ w1) (mv (s := s.setVm vm0) hZ w2) (mv (s := s.setVm vm0) hZ w3) (PrivateAt.of_word (mvP (s := s.setVm vm0) (args := args) hZ w4)) (mv (s := s.setVm vm0) hZ wc) hy (hM.back (p := p) (e := e) (below := below) (args := args) (len := 3) (R := R) (s := s) (W := Wd) hZ wc wz hf hlo hh.2.2.2.2.2.2.2 C.1 hSf) (g := mkF m pc Ls (argsL.reverse ++ .ref a :: st)) rfl (hsz.trans hh.2.2.2.1.symm) (Steps.refl _) (a := a) (cell := cell) (by rw [eT]; exact hcell) hobj (argsL := argsL) (rest := st) (lenOf pd hln) rfl (by show 2 * 0 + _ ≤ _; omega) (hb hh.2.2.1 hd) (fun _ _ => ⟨rfl, eT, hc, hl⟩)
  dsimp only [Pt.U, Pt.locs, Pt.cells, Pt.slots] at X' hS1 hgr hQ hL hcc hnn hC hNW hsteps
  subst hL hcc hnn hp
  have hZ' : Z.Warmed39 U.vm := State.Warmed39.trans (t := s.setVm vm0) hZ hS1.1
  have hown' : U.vm.findClass own = some m.cls := (hS1.1.alike.findClass _ _).trans hown
  rw [eT] at hgr
  exact Go.up (fun t q => hsteps.trans q) (k v U U.vm U.heap ⟨⟨_, _, X', ⟨hS.1.trans hS1 (Nat.le_trans hk hgr), fun q => State.WarmedH.trans (t := s.setVm vm0) (hS.2 q) (hNW q)⟩, Nat.le_refl _, N.app hF⟩, ⟨rfl, hZ', hown', C.trans hC⟩, hh⟩ hC hQ)
theorem s_copy (W : Wk p l e R s m args below meth c Z a0 EL n0 own nm bytes maxL ret T vm0 h cells slots) {index : Nat} (w1 : (Cond.methodLink own index Jvm.Stand.acN).before a0 Z = true) (w2 : (Cond.native Jvm.Stand.acN).before a0 Z = true) (w3 : (Cond.static Jvm.Stand.acN).before a0 Z = true) (w4 : (Cond.initialized "java/lang/System").before a0 Z = true) {a b : Addr} {k1 k2 : ClassId} {ty : FieldType} {z z' sp dp nn : Int32} {vs vd : List Value} {dv dd : Value} (A : Arv Z h a k1 ty z vs dv) (B : Arv Z h b k2 ty z' vd dd) (hty : refKind ty = false) (h1 : ¬ sp < 0) (h2 : ¬ dp < 0) (h3 : ¬ nn < 0) (h4 : sp.toNatClampNeg + nn.toNatClampNeg ≤ z.toNatClampNeg) (h5 : dp.toNatClampNeg + nn.toNatClampNeg ≤ z'.toNatClampNeg) (hlv : dp.toNatClampNeg + nn.toNatClampNeg ≤ vd.length) (M : Mine Z EL n0 vm0 h b) (hsz : Ls.size = maxL) (hd : decode bytes pc = .ok (.invokestatic index, 3)) (Wd : Nat) (hWd : (st.map fun v => v.category).sum ≤ Wd) (hf : 1 ≤ R.frames) (hlo : Wd + (nativeFrameWords "java/lang/System" "arraycopy" 5 + 11) ≤ R.locals) (hp : pc + 3 = pc')
    (k : ∀ T' h', Wk p l e R s m args below meth c Z a0 EL n0 own nm bytes maxL ret T' vm0 h' cells slots → Keep h h' [b] → CHr Z EL vm0 h vm0 h' → Arv Z h' b k2 ty z' (vd.take dp.toNatClampNeg ++ ((List.range nn.toNatClampNeg).map fun i => vs.getD (sp.toNatClampNeg + i) dv) ++ vd.drop (dp.toNatClampNeg + nn.toNatClampNeg)) dd → Go p e below s R Z EL n0 Q (T'.setTop (mkF m pc' Ls st))) : Go p e below s R Z EL n0 Q (T.setTop (mkF m pc Ls (.int nn :: .int dp :: .ref b :: .int sp :: .ref a :: st))) := by
  obtain ⟨⟨k0, locs, X, hS, hk, N⟩, ⟨eT, hZ, hown, C⟩, hh⟩ := W
  obtain ⟨T', h', L, X', e', N', K, V, st'⟩ := cpA X hh.2.1 (show Z.Warmed39 (s.setVm vm0).vm from hZ) (own := own) hown w1 w2 w3 w4 eT A B (Or.inl ⟨rfl, hty⟩) h1 h2 h3 h4 h5 rfl hlv N M.1 (g := mkF m pc Ls (.int nn :: .int dp :: .ref b :: .int sp :: .ref a :: st)) rfl (hsz.trans hh.2.2.2.1.symm) rfl (hb hh.2.2.1 hd) hf (W := Wd) (by show 2 * 0 + _ ≤ _; omega) hlo
  subst hp
  have Ch : CHr Z EL vm0 h vm0 h' := CHr.keep K (fun x hx => by cases List.mem_singleton.mp hx; exact M.2.2) C.1
  exact Go.up st' (k T' h' ⟨⟨k0, L, X', hS, Nat.le_trans hk Ch.2.1, N'⟩, ⟨e', hZ, hown, C.trans Ch⟩, hh⟩ K Ch V)
theorem s_ret (W : Wk p l e R s m args below meth c Z a0 EL n0 own nm bytes maxL ret T vm0 h cells slots) (hret : ret = none) (hd : decode bytes pc = .ok (.return_, 1)) (hc : cells ≤ R.cells) (hl : slots ≤ R.slots) (hq : ∀ vm', CHr Z EL vm0 h vm' h → Q (none) vm' h) : Go p e below s R Z EL n0 Q (T.setTop (mkF m pc Ls [])) := by
  have hrt := W.rt
  have hlk := W.lk
  obtain ⟨⟨k0, locs, X, hS, hk, N⟩, ⟨eT, hZ, hown, C⟩, hh⟩ := W
  obtain ⟨fs, hr, hrun, hended, hE⟩ := X.leaveW (v := none) hS.1 (eT ▸ hk) (fun _ => rfl) hlk
  have Ca := CHv.at X hZ hh.2.2.2.2.2.2.2 C.1
  refine ⟨T.setFrames fs, _, ?_, hrun, hended, _, locs, rfl, ?_, N, ?_, ⟨hE.1, hE.2.1, hE.2.2.1, hE.2.2.2.mono hc hl⟩, fun q => State.WarmedH.trans (t := s.setVm vm0) (hS.2 q) X.warmed⟩
  · exact X.returnOut hh.2.1 (hrt.trans hret) (hb hh.2.2.1 hd) hr
  · have : (T.setFrames fs).heap = h := eT
    rw [this]; exact hq _ Ca
  · have : (T.setFrames fs).heap = h := eT
    rw [this]; exact C.trans Ca
theorem s_ireturn (W : Wk p l e R s m args below meth c Z a0 EL n0 own nm bytes maxL ret T vm0 h cells slots) {z : Int32} (hret : ret = some .int) (hd : decode bytes pc = .ok (.ireturn, 1)) (hc : cells ≤ R.cells) (hl : slots ≤ R.slots) (hq : ∀ vm', CHr Z EL vm0 h vm' h → Q (some (.int z)) vm' h) : Go p e below s R Z EL n0 Q (T.setTop (mkF m pc Ls (.int z :: st))) := by
  have hrt := W.rt
  have hlk := W.lk
  obtain ⟨⟨k0, locs, X, hS, hk, N⟩, ⟨eT, hZ, hown, C⟩, hh⟩ := W
  obtain ⟨fs, hr, hrun, hended, hE⟩ := X.leaveW (v := some (.int z)) hS.1 (eT ▸ hk) (fun q => by rw [hrt, hret] at q; cases q) hlk
  have Ca := CHv.at X hZ hh.2.2.2.2.2.2.2 C.1
  refine ⟨T.setFrames fs, _, ?_, hrun, hended, _, locs, rfl, ?_, N, ?_, ⟨hE.1, hE.2.1, hE.2.2.1, hE.2.2.2.mono hc hl⟩, fun q => State.WarmedH.trans (t := s.setVm vm0) (hS.2 q) X.warmed⟩
  · exact retOut X hh.2.1 (t := .int) (i := .ireturn) (hrt.trans hret) rfl (Or.inl ⟨rfl, Or.inl rfl, _, rfl⟩) (hb hh.2.2.1 hd) hr
  · have : (T.setFrames fs).heap = h := eT
    rw [this]; exact hq _ Ca
  · have : (T.setFrames fs).heap = h := eT
    rw [this]; exact C.trans Ca
theorem s_nreturn (W : Wk p l e R s m args below meth c Z a0 EL n0 own nm bytes maxL ret T vm0 h cells slots) {z : Int32} {t : FieldType} (hret : ret = some t) (ht : t = .boolean ∨ t = .byte ∨ t = .char ∨ t = .short) (hd : decode bytes pc = .ok (.ireturn, 1)) (hc : cells ≤ R.cells) (hl : slots ≤ R.slots) (hq : ∀ vm', CHr Z EL vm0 h vm' h → Q (some (.int (nar t z))) vm' h) : Go p e below s R Z EL n0 Q (T.setTop (mkF m pc Ls (.int z :: st))) := by
  have hrt := W.rt
  have hlk := W.lk
  obtain ⟨⟨k0, locs, X, hS, hk, N⟩, ⟨eT, hZ, hown, C⟩, hh⟩ := W
  obtain ⟨fs, hr, hrun, hended, hE⟩ := X.leaveW (v := some (.int (nar t z))) hS.1 (eT ▸ hk) (fun q => by rw [hrt, hret] at q; cases q) hlk
  have Ca := CHv.at X hZ hh.2.2.2.2.2.2.2 C.1
  refine ⟨T.setFrames fs, _, ?_, hrun, hended, _, locs, rfl, ?_, N, ?_, ⟨hE.1, hE.2.1, hE.2.2.1, hE.2.2.2.mono hc hl⟩, fun q => State.WarmedH.trans (t := s.setVm vm0) (hS.2 q) X.warmed⟩
  · exact retN X hh.2.1 (t := t) (hrt.trans hret) ht (hb hh.2.2.1 hd) hr
  · have : (T.setFrames fs).heap = h := eT
    rw [this]; exact hq _ Ca
  · have : (T.setFrames fs).heap = h := eT
    rw [this]; exact C.trans Ca
theorem s_lreturn (W : Wk p l e R s m args below meth c Z a0 EL n0 own nm bytes maxL ret T vm0 h cells slots) {z : Int64} (hret : ret = some .long) (hd : decode bytes pc = .ok (.lreturn, 1)) (hc : cells ≤ R.cells) (hl : slots ≤ R.slots) (hq : ∀ vm', CHr Z EL vm0 h vm' h → Q (some (.long z)) vm' h) : Go p e below s R Z EL n0 Q (T.setTop (mkF m pc Ls (.long z :: st))) := by
  have hrt := W.rt
  have hlk := W.lk
  obtain ⟨⟨k0, locs, X, hS, hk, N⟩, ⟨eT, hZ, hown, C⟩, hh⟩ := W
  obtain ⟨fs, hr, hrun, hended, hE⟩ := X.leaveW (v := some (.long z)) hS.1 (eT ▸ hk) (fun q => by rw [hrt, hret] at q; cases q) hlk
  have Ca := CHv.at X hZ hh.2.2.2.2.2.2.2 C.1
  refine ⟨T.setFrames fs, _, ?_, hrun, hended, _, locs, rfl, ?_, N, ?_, ⟨hE.1, hE.2.1, hE.2.2.1, hE.2.2.2.mono hc hl⟩, fun q => State.WarmedH.trans (t := s.setVm vm0) (hS.2 q) X.warmed⟩
  · exact retOut X hh.2.1 (t := .long) (i := .lreturn) (hrt.trans hret) rfl (Or.inr (Or.inl ⟨rfl, rfl, _, rfl⟩)) (hb hh.2.2.1 hd) hr
  · have : (T.setFrames fs).heap = h := eT
    rw [this]; exact hq _ Ca
  · have : (T.setFrames fs).heap = h := eT
    rw [this]; exact C.trans Ca
theorem s_areturn (W : Wk p l e R s m args below meth c Z a0 EL n0 own nm bytes maxL ret T vm0 h cells slots) {z : Value} {t : FieldType} (hret : ret = some t) (ht : t.isReference = true) (hz : z.isRef = true) (hd : decode bytes pc = .ok (.areturn, 1)) (hc : cells ≤ R.cells) (hl : slots ≤ R.slots) (hq : ∀ vm', CHr Z EL vm0 h vm' h → Q (some z) vm' h) : Go p e below s R Z EL n0 Q (T.setTop (mkF m pc Ls (z :: st))) := by
  have hrt := W.rt
  have hlk := W.lk
  obtain ⟨⟨k0, locs, X, hS, hk, N⟩, ⟨eT, hZ, hown, C⟩, hh⟩ := W
  obtain ⟨fs, hr, hrun, hended, hE⟩ := X.leaveW (v := some z) hS.1 (eT ▸ hk) (fun q => by rw [hrt, hret] at q; cases q) hlk
  have Ca := CHv.at X hZ hh.2.2.2.2.2.2.2 C.1
  refine ⟨T.setFrames fs, _, ?_, hrun, hended, _, locs, rfl, ?_, N, ?_, ⟨hE.1, hE.2.1, hE.2.2.1, hE.2.2.2.mono hc hl⟩, fun q => State.WarmedH.trans (t := s.setVm vm0) (hS.2 q) X.warmed⟩
  · exact retOut X hh.2.1 (t := t) (i := .areturn) (hrt.trans hret) (by cases t <;> first | rfl | (cases ht; done) | (cases z <;> rfl)) (Or.inr (Or.inr (Or.inr (Or.inr ⟨rfl, ht, hz⟩)))) (hb hh.2.2.1 hd) hr
  · have : (T.setFrames fs).heap = h := eT
    rw [this]; exact hq _ Ca
  · have : (T.setFrames fs).heap = h := eT
    rw [this]; exact C.trans Ca
end
end Jvm.OwnK
namespace Jvm.OwnK
open Sem ClassFile Op Lib Bundle Jvm.Free Jvm.Stand Jvm.LawKit Jvm.RoadKit
section Nums
theorem n_toInt {i : Nat} (h : i < 2147483648) : (Int32.ofNat i).toInt = i := Int32.toInt_ofNat_small h
theorem n_clamp {i : Nat} (h : i < 2147483648) : (Int32.ofNat i).toNatClampNeg = i := by simp only [Int32.toNatClampNeg, n_toInt h]; rfl
theorem n_nn {i : Nat} (h : i < 2147483648) : ¬ Int32.ofNat i < 0 := by
  rw [Int32.lt_iff_toInt_lt, n_toInt h]; show ¬ (i : Int) < 0; omega
theorem n_lt {i n : Nat} (hi : i < n) (h : n < 2147483648) : Int32.ofNat i < Int32.ofNat n := by
  rw [Int32.lt_iff_toInt_lt, n_toInt h, n_toInt (by omega)]; omega
theorem n_ge {i n : Nat} (hi : n ≤ i) (h : i < 2147483648) : ¬ Int32.ofNat i < Int32.ofNat n := by
  rw [Int32.lt_iff_toInt_lt, n_toInt h, n_toInt (by omega)]; omega
theorem n_succ (i : Nat) : Int32.ofNat i + (1 : Int32) = Int32.ofNat (i + 1) := by
  rw [Int32.ofNat_add]; rfl
theorem n_inj {i j : Nat} (hi : i < 2147483648) (hj : j < 2147483648) (h : Int32.ofNat i = Int32.ofNat j) : i = j := by
  have := congrArg Int32.toInt h
  rw [n_toInt hi, n_toInt hj] at this; omega
theorem lt_iff (x y : Int32) : x < y ↔ x.toInt < y.toInt := Int32.lt_iff_toInt_lt
theorem nar_char {x : Int32} (h0 : ¬ x < 0) (h1 : ¬ 65535 < x) : nar .char x = x := by
  rw [lt_iff] at h0 h1
  have e0 : (0 : Int32).toInt = 0 := rfl
  have e1 : (65535 : Int32).toInt = 65535 := rfl
  have q := c_i2c x
  apply Int32.toInt_inj.mp
  show (x.toUInt32.toUInt16.toUInt32.toInt32).toInt = x.toInt
  omega
theorem nar_bool {x : Int32} (h : x = 0 ∨ x = 1) : nar .boolean x = x := by rcases h with rfl | rfl <;> decide
theorem nar_byte {x : Int32} (h0 : ¬ x < -128) (h1 : ¬ 127 < x) : nar .byte x = x := by
  rw [lt_iff] at h0 h1
  have e0 : (-128 : Int32).toInt = -128 := rfl
  have e1 : (127 : Int32).toInt = 127 := rfl
  have q := c_i2b x
  apply Int32.toInt_inj.mp
  show (x.toInt8.toInt32).toInt = x.toInt
  omega
/-- a Latin-1 char -/
def L1 (c : Int32) : Prop := ¬ c < 0 ∧ ¬ 255 < c
theorem L1.rng {c : Int32} (h : L1 c) : 0 ≤ c.toInt ∧ c.toInt ≤ 255 := by
  obtain ⟨h0, h1⟩ := h
  rw [lt_iff] at h0 h1
  have e0 : (0 : Int32).toInt = 0 := rfl
  have e1 : (255 : Int32).toInt = 255 := rfl
  omega
theorem L1.of {c : Int32} (h0 : 0 ≤ c.toInt) (h1 : c.toInt ≤ 255) : L1 c := by
  refine ⟨?_, ?_⟩ <;> rw [lt_iff]
  · show ¬ c.toInt < 0; omega
  · show ¬ (255 : Int) < c.toInt; omega
theorem L1.mask (x : Int32) : L1 (x &&& 255) := by
  have := c_and x 255 (by decide)
  exact L1.of this.1 this.2
theorem L1.nar {c : Int32} (h : L1 c) : nar .char c = c := nar_char h.1 (fun q => h.2 (by
  rw [lt_iff] at q ⊢
  have e0 : (65535 : Int32).toInt = 65535 := rfl
  have e1 : (255 : Int32).toInt = 255 := rfl
  omega))
theorem L1.i2c {c : Int32} (h : L1 c) : c.toUInt32.toUInt16.toUInt32.toInt32 = c := h.nar
theorem L1.char (x : Int32) : L1 ((x &&& 255).toUInt32.toUInt16.toUInt32.toInt32) := by rw [(L1.mask x).i2c]; exact L1.mask x
/-- the byte a char is kept as, and back -/
theorem L1.back {c : Int32} (h : L1 c) : c.toInt8.toInt32 &&& 255 = c := by
  have r := h.rng
  have q := c_i2b c
  have m := c_mask c.toInt8.toInt32 255 8 (by decide) (by decide)
  apply Int32.toInt_inj.mp
  rw [m]
  show c.toInt8.toInt32.toInt % 256 = c.toInt
  omega
theorem L1.inj {c d : Int32} (h : L1 c) (g : L1 d) (e : c.toInt8.toInt32 = d.toInt8.toInt32) : c = d := by rw [← h.back, ← g.back, e]
theorem bb (c : Int32) : c.toInt8.toInt32.toInt8.toInt32 = c.toInt8.toInt32 := by rw [Int8.toInt8_toInt32]
theorem shr0 (x : Int32) : x >>> ((0 : Int32) &&& 31) = x := Int32.toInt_inj.mp (by rw [c_ishr x 0 0 (by decide)]; show x.toInt / 1 = x.toInt; exact Int.ediv_one _)
theorem shl0 (x : Int32) : x <<< ((0 : Int32) &&& 31) = x := by
  apply Int32.toInt_inj.mp
  have q := c_ishl x 0 0 (by decide)
  have r1 := rng32 x
  have r2 := rng32 (x <<< ((0 : Int32) &&& 31))
  simp only [Nat.pow_zero, Int.natCast_one, Int.mul_one] at q
  omega
theorem sub_self32 (x : Int32) : x - x = 0 := by
  apply Int32.toInt_inj.mp
  have q := c_isub x x
  have r2 := rng32 (x - x)
  have e0 : (0 : Int32).toInt = 0 := rfl
  omega
end Nums
section Lists
def bv (c : Int32) : Value := .int c.toInt8.toInt32
def cv (c : Int32) : Value := .int c
theorem bv_getD (cs : List Int32) (i : Nat) : (cs.map bv).getD i (.int 0) = .int (cs.getD i 0).toInt8.toInt32 := by
  induction cs generalizing i with
  | nil => rfl
  | cons c cs ih => cases i with
    | zero => rfl
    | succ i => exact ih i
theorem cv_getD (cs : List Int32) (i : Nat) : (cs.map cv).getD i (.int 0) = .int (cs.getD i 0) := by
  induction cs generalizing i with
  | nil => rfl
  | cons c cs ih => cases i with
    | zero => rfl
    | succ i => exact ih i
theorem set_step {cs : List Int32} {n i : Nat} {x : Value} (hn : cs.length = n) (hi : i < n) (hx : x = bv (cs.getD i 0)) : ((cs.take i).map bv ++ List.replicate (n - i) (Value.int 0)).set i x = (cs.take (i + 1)).map bv ++ List.replicate (n - (i + 1)) (Value.int 0) := by
  subst hx
  have e1 : n - i = (n - (i + 1)) + 1 := by omega
  have e2 : ((cs.take i).map bv).length = i := by simp; omega
  rw [e1, List.replicate_succ, List.set_append_right _ _ (by omega), e2, Nat.sub_self, List.set_cons_zero]
  have e3 : cs.take (i + 1) = cs.take i ++ [cs.getD i 0] := by
    rw [List.take_add_one]
    congr 1
    rw [List.getD_eq_getElem?_getD, List.getElem?_eq_getElem (by omega)]; rfl
  rw [e3, List.map_append, List.append_assoc]; rfl
theorem mem_getD {cs : List Int32} {i : Nat} (hi : i < cs.length) : cs.getD i 0 ∈ cs := by
  rw [List.getD_eq_getElem?_getD, List.getElem?_eq_getElem hi]; exact List.getElem_mem hi
theorem mem_take_succ {cs : List Int32} {i : Nat} (hi : i < cs.length) {P : Int32 → Prop} (h : ∀ c ∈ cs.take i, P c) (hx : P (cs.getD i 0)) : ∀ c ∈ cs.take (i + 1), P c := by
  have e3 : cs.take (i + 1) = cs.take i ++ [cs.getD i 0] := by
    rw [List.take_add_one]
    congr 1
    rw [List.getD_eq_getElem?_getD, List.getElem?_eq_getElem (by omega)]; rfl
  intro c hc
  rw [e3] at hc
  rcases List.mem_append.mp hc with q | q
  · exact h c q
  · cases List.mem_singleton.mp q; exact hx
theorem len_mid {cs : List Int32} {n i : Nat} (hn : cs.length = n) (hi : i ≤ n) : ((cs.take i).map bv ++ List.replicate (n - i) (.int 0 : Value)).length = n := by
  simp; omega
end Lists
section Strs
/-- compact strings are on -/
def CS (Z : State) : Prop := ∃ v : Int32, Sta Z Z.heap "java/lang/String" "COMPACT_STRINGS" "Z" (.int v) ∧ ¬ v = 0
variable {Z : State} {h h' : Heap} {a b : Addr} {k : ClassId} {cs : List Int32}
/-- a Latin-1 String whose chars are cs; b its byte[] -/
def LatB (Z : State) (h : Heap) (a b : Addr) (k : ClassId) (cs : List Int32) : Prop :=
  Exa Z h a "java/lang/String" ∧ Fld Z h a "java/lang/String" "coder" "B" (.int 0) ∧ Fld Z h a "java/lang/String" "value" "[B" (.ref b) ∧ Arv Z h b k .byte (Int32.ofNat cs.length) (cs.map bv) (.int 0) ∧ (∀ c ∈ cs, L1 c) ∧ cs.length < 2147483648
def Lat (Z : State) (h : Heap) (a : Addr) (cs : List Int32) : Prop := ∃ b k, LatB Z h a b k cs
theorem LatB.keep {ws : List Addr} (F : LatB Z h a b k cs) (K : Keep h h' ws) (q1 : a ∉ ws) (q2 : b ∉ ws) : LatB Z h' a b k cs := ⟨F.1.keep K, F.2.1.keep K q1, F.2.2.1.keep K q1, F.2.2.2.1.keep K q2, F.2.2.2.2⟩
theorem LatB.kp (F : LatB Z h a b k cs) (K : Keep h h' []) (_ : a ∉ ([] : List Addr)) : LatB Z h' a b k cs := F.keep K nin0 nin0
theorem Lat.kp (F : Lat Z h a cs) (K : Keep h h' []) (_ : a ∉ ([] : List Addr)) : Lat Z h' a cs := by obtain ⟨b, k, F⟩ := F; exact ⟨b, k, F.keep K nin0 nin0⟩
theorem Lat.lt (F : Lat Z h a cs) : a < h.size := by obtain ⟨b, k, F⟩ := F; exact F.1.lt
theorem LatB.lt (F : LatB Z h a b k cs) : a < h.size := F.1.lt
theorem LatB.ltb (F : LatB Z h a b k cs) : b < h.size := F.2.2.2.1.lt
end Strs
section Words
variable {Z : State} {a0 : Array Value}
theorem decl_of {y : MethodName} {bytes : ByteArray} {maxL : Nat} {ret : Option FieldType} (wi : (Cond.instanceMethod y).before a0 Z = true) (wc : (Cond.code y bytes maxL ret).before a0 Z = true) : (Cond.declares y).before a0 Z = true := by
  obtain ⟨m, meth, h1, h2, h3, -⟩ := Cond.instanceMethod_spec wi
  obtain ⟨meth', c, g1, -, -, -, -, -, -, g2⟩ := Cond.code_spec h1 wc
  cases h2.symm.trans g1
  simp [Cond.before, Cond.holds, Cond.value, h1, h2, h3, g2]
theorem nf_of {C : String} {y y' : MethodName} (hc : y'.cls = y.cls) (w : (Cond.selects C y' y').before a0 Z = true) : NotFace Z y := fun r0 h0 => by
  obtain ⟨c2, r2, m2, q1, q2, q3, q4, kP, hkP, hkPi⟩ := Cond.selects_spec w
  have e1 := findClass_of_methodNamed h0
  have e2 := findClass_of_methodNamed q3
  rw [hc] at e2
  have e : r0.cls = m2.cls := Option.some.inj (e1.symm.trans e2)
  exact ⟨kP, by rw [e]; exact hkP, hkPi⟩
theorem same_of {y : MethodName} (hy : y.cls ≠ "java/lang/invoke/MethodHandle" ∧ y.cls ≠ "java/lang/invoke/VarHandle") (wi : (Cond.instanceMethod y).before a0 Z = true) (nf : NotFace Z y) : (Cond.sameMethod y.cls y.cls y.name y.desc).before a0 Z = true := by
  obtain ⟨m, meth, h1, h2, h3, -⟩ := Cond.instanceMethod_spec wi
  obtain ⟨k, hk, hn⟩ := nf m h1
  have e1 := findClass_of_methodNamed h1
  have e2 := State.methodFound?_of_named h1 hy
  have h1' : Z.methodNamed? ⟨y.cls, y.name, y.desc⟩ = some m := h1
  simp [Cond.before, Cond.holds, Cond.value, e1, e2, h1', hk, hn]
end Words
theorem nfw : nativeFrameWords "java/lang/System" "arraycopy" 5 = 7 := by decide +kernel
end Jvm.OwnK
namespace Jvm.OwnK
open Sem ClassFile Op Lib Bundle Jvm.Free Jvm.Stand Jvm.LawKit Jvm.RoadKit
section Sb
variable {Z : State} {h h' : Heap} {a b : Addr} {k : ClassId} {cap : Nat} {cs : List Int32}
/-- a StringBuilder whose chars are cs; b its byte[] of cap places -/
def SBd (Z : State) (h : Heap) (a b : Addr) (k : ClassId) (cap : Nat) (cs : List Int32) : Prop :=
  Exa Z h a "java/lang/StringBuilder" ∧ Fld Z h a "java/lang/AbstractStringBuilder" "coder" "B" (.int 0) ∧ Fld Z h a "java/lang/AbstractStringBuilder" "count" "I" (.int (Int32.ofNat cs.length)) ∧ Fld Z h a "java/lang/AbstractStringBuilder" "value" "[B" (.ref b) ∧
  (∃ rest : List Value, cs.length + rest.length = cap ∧ Arv Z h b k .byte (Int32.ofNat cap) (cs.map bv ++ rest) (.int 0)) ∧ (∀ c ∈ cs, L1 c) ∧ cap ≤ 4096 ∧ Exa Z h b "[B"
theorem SBd.keep {ws : List Addr} (F : SBd Z h a b k cap cs) (K : Keep h h' ws) (q1 : a ∉ ws) (q2 : b ∉ ws) : SBd Z h' a b k cap cs := by
  obtain ⟨f1, f2, f3, f4, ⟨r, hr, A⟩, f6⟩ := F
  exact ⟨f1.keep K, f2.keep K q1, f3.keep K q1, f4.keep K q1, ⟨r, hr, A.keep K q2⟩, f6.1, f6.2.1, f6.2.2.keep K⟩
theorem SBd.le (F : SBd Z h a b k cap cs) : cs.length ≤ cap := by obtain ⟨-, -, -, -, ⟨r, hr, -⟩, -⟩ := F; omega
theorem SBd.lt (F : SBd Z h a b k cap cs) : a < h.size := F.1.lt
theorem SBd.ltb (F : SBd Z h a b k cap cs) : b < h.size := by obtain ⟨-, -, -, -, ⟨r, hr, A⟩, -⟩ := F; exact A.lt
theorem range_getD (ds : List Int32) (n : Nat) (hn : ds.length = n) : ((List.range n).map fun i => (ds.map bv).getD (0 + i) (.int 0)) = ds.map bv := by
  subst hn
  apply List.ext_getElem
  · simp
  · intro i h1 h2
    simp only [List.length_map, List.length_range] at h1
    simp [List.getElem_map, List.getD_eq_getElem?_getD, h1]
theorem sub_le0 {m n : Nat} (h : m ≤ n) (hn : n ≤ 4096) : ¬ 0 < Int32.ofNat m - (Int32.ofNat n >>> ((0 : Int32) &&& 31)) := by
  rw [shr0, lt_iff]
  have q := c_isub (Int32.ofNat m) (Int32.ofNat n)
  rw [n_toInt (by omega), n_toInt (by omega)] at q
  have r := rng32 (Int32.ofNat m - Int32.ofNat n)
  have e0 : (0 : Int32).toInt = 0 := rfl
  omega
theorem n_add (i j : Nat) : Int32.ofNat i + Int32.ofNat j = Int32.ofNat (i + j) := by rw [Int32.ofNat_add]
end Sb
end Jvm.OwnK
namespace Jvm.OwnK
open Sem ClassFile Op Lib Bundle Jvm.Free Jvm.Stand Jvm.LawKit Jvm.RoadKit
theorem put_eq {cs ds : List Int32} {r : List Value} : (cs.map bv ++ r).take cs.length ++ ds.map bv ++ (cs.map bv ++ r).drop (cs.length + ds.length) = (cs ++ ds).map bv ++ r.drop ds.length := by
  have e : (cs.map bv).length = cs.length := by simp
  rw [← e, List.take_left, List.drop_append, List.map_append, List.drop_eq_nil_of_le (by omega), List.nil_append, Nat.add_sub_cancel_left]
end Jvm.OwnK
namespace Jvm.OwnK
open Sem ClassFile Op Lib Bundle Jvm.Free Jvm.Stand Jvm.LawKit Jvm.RoadKit
section U16
/-- a char -/
def C16 (c : Int32) : Prop := ¬ c < 0 ∧ ¬ 65535 < c
theorem C16.rng {c : Int32} (h : C16 c) : 0 ≤ c.toInt ∧ c.toInt ≤ 65535 := by
  obtain ⟨h0, h1⟩ := h
  rw [lt_iff] at h0 h1
  have e0 : (0 : Int32).toInt = 0 := rfl
  have e1 : (65535 : Int32).toInt = 65535 := rfl
  omega
theorem C16.of {c : Int32} (h0 : 0 ≤ c.toInt) (h1 : c.toInt ≤ 65535) : C16 c := by
  refine ⟨?_, ?_⟩ <;> rw [lt_iff]
  · show ¬ c.toInt < 0; omega
  · show ¬ (65535 : Int) < c.toInt; omega
theorem C16.i2c (x : Int32) : C16 x.toUInt32.toUInt16.toUInt32.toInt32 := by
  have q := c_i2c x
  exact C16.of q.2.1 (by omega)
theorem C16.nar {c : Int32} (h : C16 c) : nar .char c = c := nar_char h.1 h.2
def hb8 (c : Int32) : Int32 := (c >>> ((8 : Int32) &&& 31)).toInt8.toInt32
def u2b : List Int32 → List Value
  | [] => []
  | c :: cs => .int c.toInt8.toInt32 :: .int (hb8 c) :: u2b cs
theorem u2b_len (cs : List Int32) : (u2b cs).length = 2 * cs.length := by
  induction cs with
  | nil => rfl
  | cons c cs ih => simp only [u2b, List.length_cons, ih]; omega
theorem u2b_app (cs ds : List Int32) : u2b (cs ++ ds) = u2b cs ++ u2b ds := by
  induction cs with
  | nil => rfl
  | cons c cs ih => simp only [u2b, List.cons_append, ih]
theorem u2b_lo (cs : List Int32) (i : Nat) (hi : i < cs.length) : (u2b cs).getD (2 * i) (.int 0) = .int (cs.getD i 0).toInt8.toInt32 := by
  induction cs generalizing i with
  | nil => simp at hi
  | cons c cs ih => cases i with
    | zero => rfl
    | succ i =>
      have : 2 * (i + 1) = (2 * i) + 1 + 1 := by omega
      rw [this]; exact ih i (by simpa using hi)
theorem u2b_hi (cs : List Int32) (i : Nat) (hi : i < cs.length) : (u2b cs).getD (2 * i + 1) (.int 0) = .int (hb8 (cs.getD i 0)) := by
  induction cs generalizing i with
  | nil => simp at hi
  | cons c cs ih => cases i with
    | zero => rfl
    | succ i =>
      have : 2 * (i + 1) + 1 = (2 * i + 1) + 1 + 1 := by omega
      rw [this]; exact ih i (by simpa using hi)
theorem u2b_step {cs : List Int32} {n i : Nat} (hn : cs.length = n) (hi : i < n) : ((u2b (cs.take i) ++ List.replicate (2 * (n - i)) (Value.int 0)).set (2 * i) (Value.int (cs.getD i 0).toInt8.toInt32)).set (2 * i + 1) (Value.int (hb8 (cs.getD i 0))) = u2b (cs.take (i + 1)) ++ List.replicate (2 * (n - (i + 1))) (Value.int 0) := by
  have e1 : 2 * (n - i) = 2 * (n - (i + 1)) + 1 + 1 := by omega
  have e2 : (u2b (cs.take i)).length = 2 * i := by rw [u2b_len, List.length_take]; omega
  rw [e1, List.replicate_succ, List.replicate_succ, List.set_append_right _ _ (by omega), e2, Nat.sub_self, List.set_cons_zero, List.set_append_right _ _ (by omega), e2, show 2 * i + 1 - 2 * i = 0 + 1 by omega, List.set_cons_succ, List.set_cons_zero]
  have e3 : cs.take (i + 1) = cs.take i ++ [cs.getD i 0] := by
    rw [List.take_add_one]
    congr 1
    rw [List.getD_eq_getElem?_getD, List.getElem?_eq_getElem (by omega)]; rfl
  rw [e3, u2b_app, List.append_assoc]; rfl
theorem n_shl1 {n : Nat} (h : n ≤ 4096) : Int32.ofNat n <<< ((1 : Int32) &&& 31) = Int32.ofNat (2 * n) := by
  apply Int32.toInt_inj.mp
  have q := c_ishl (Int32.ofNat n) 1 1 (by decide)
  rw [n_toInt (by omega)] at q
  have r := rng32 (Int32.ofNat n <<< ((1 : Int32) &&& 31))
  rw [n_toInt (i := 2 * n) (by omega)]
  have e2 : ((2 ^ 1 : Nat) : Int) = 2 := rfl
  rw [e2] at q
  omega
theorem n_shr1 {n : Nat} (h : n ≤ 4096) : Int32.ofNat (2 * n) >>> ((1 : Int32) &&& 31) = Int32.ofNat n := by
  apply Int32.toInt_inj.mp
  rw [c_ishr _ 1 1 (by decide), n_toInt (by omega), n_toInt (by omega)]
  show ((2 * n : Nat) : Int) / 2 = n
  omega
theorem coder1 {n : Nat} (h : n ≤ 4096) (h0 : 0 < n) : (Jvm.Free.XT.ushr (Int32.ofNat n - Int32.ofNat (2 * n)) (31 : Int32)).toInt8.toInt32 = 1 := by
  have e : Jvm.Free.XT.ushr (Int32.ofNat n - Int32.ofNat (2 * n)) (31 : Int32) = 1 := by
    apply Int32.toInt_inj.mp
    have q := c_iushr (Int32.ofNat n - Int32.ofNat (2 * n)) 31 31 (by decide) (by decide)
    have s := c_isub (Int32.ofNat n) (Int32.ofNat (2 * n))
    rw [n_toInt (by omega), n_toInt (by omega)] at s
    have r := rng32 (Int32.ofNat n - Int32.ofNat (2 * n))
    show (Int32.toUInt32 (Int32.ofNat n - Int32.ofNat (2 * n)) >>> ((31 : Int32) &&& 31).toUInt32).toInt32.toInt = (1 : Int32).toInt
    rw [q]
    have e1 : (1 : Int32).toInt = 1 := rfl
    have e2 : ((2 ^ 31 : Nat) : Int) = 2147483648 := rfl
    rw [e1, e2]
    omega
  rw [e]; rfl
theorem u16back {c : Int32} (h : C16 c) : (((c.toInt8.toInt32 &&& 255) <<< ((0 : Int32) &&& 31)) ||| ((hb8 c &&& 255) <<< ((8 : Int32) &&& 31))).toUInt32.toUInt16.toUInt32.toInt32 = c := by
  rw [shl0]
  have r := h.rng
  have b0 := c_i2b c
  have m0 : (c.toInt8.toInt32 &&& 255).toInt = c.toInt8.toInt32.toInt % 256 := c_mask c.toInt8.toInt32 255 8 (by decide) (by decide)
  have s1 : (c >>> ((8 : Int32) &&& 31)).toInt = c.toInt / 256 := c_ishr c 8 8 (by decide)
  have b1 := c_i2b (c >>> ((8 : Int32) &&& 31))
  have m1 : (hb8 c &&& 255).toInt = (hb8 c).toInt % 256 := c_mask (hb8 c) 255 8 (by decide) (by decide)
  have b1' : ((hb8 c).toInt - c.toInt / 256) % 256 = 0 := by rw [← s1]; exact b1.1
  have sh := c_ishl (hb8 c &&& 255) 8 8 (by decide)
  have e256 : ((2 ^ 8 : Nat) : Int) = 256 := rfl
  rw [e256] at sh
  have rs := rng32 ((hb8 c &&& 255) <<< ((8 : Int32) &&& 31))
  have o := c_or' (c.toInt8.toInt32 &&& 255) ((hb8 c &&& 255) <<< ((8 : Int32) &&& 31)) 8 (by decide) 256 (by decide) (by omega) (by omega) (by omega)
  have ic := c_i2c ((c.toInt8.toInt32 &&& 255) ||| ((hb8 c &&& 255) <<< ((8 : Int32) &&& 31)))
  apply Int32.toInt_inj.mp
  omega
variable {Z : State} {h h' : Heap} {a b : Addr} {k : ClassId} {cs : List Int32}
/-- a UTF-16 String whose chars are cs; b its byte[] -/
def U16B (Z : State) (h : Heap) (a b : Addr) (k : ClassId) (cs : List Int32) : Prop :=
  Exa Z h a "java/lang/String" ∧ Fld Z h a "java/lang/String" "coder" "B" (.int 1) ∧ Fld Z h a "java/lang/String" "value" "[B" (.ref b) ∧ Arv Z h b k .byte (Int32.ofNat (2 * cs.length)) (u2b cs) (.int 0) ∧ (∀ c ∈ cs, C16 c) ∧ cs.length ≤ 4096 ∧ 0 < cs.length
theorem U16B.kp (F : U16B Z h a b k cs) (K : Keep h h' []) (_ : a ∉ ([] : List Addr)) : U16B Z h' a b k cs := ⟨F.1.keep K, F.2.1.keep K nin0, F.2.2.1.keep K nin0, F.2.2.2.1.keep K nin0, F.2.2.2.2⟩
/-- StringUTF16's statics -/
def U16S (Z : State) : Prop := Sta Z Z.heap "java/lang/StringUTF16" "$assertionsDisabled" "Z" (.int 1) ∧ Sta Z Z.heap "java/lang/StringUTF16" "HI_BYTE_SHIFT" "I" (.int 0) ∧ Sta Z Z.heap "java/lang/StringUTF16" "LO_BYTE_SHIFT" "I" (.int 8)
/-- the formatter that checkIndex is handed -/
def Fmt (Z : State) : Prop := ∃ v : Value, Sta Z Z.heap "jdk/internal/util/Preconditions" "SIOOBE_FORMATTER" "Ljava/util/function/BiFunction;" v ∧ v.isRef = true
end U16
end Jvm.OwnK
namespace Jvm.OwnK
open Sem ClassFile Op Lib Bundle Jvm.Free Jvm.Stand Jvm.LawKit Jvm.RoadKit
section Dec
/-- n has d decimal digits -/
def isDig (n d : Nat) : Prop := 1 ≤ d ∧ n < 10 ^ d ∧ (d = 1 ∨ 10 ^ (d - 1) ≤ n)
theorem isDig.unique {n d d' : Nat} (h : isDig n d) (g : isDig n d') : d = d' := by
  obtain ⟨h1, h2, h3⟩ := h
  obtain ⟨g1, g2, g3⟩ := g
  rcases Nat.lt_trichotomy d d' with q | q | q
  · rcases g3 with g3 | g3
    · omega
    · have := Nat.pow_le_pow_right (n := 10) (by decide) (show d ≤ d' - 1 by omega)
      omega
  · exact q
  · rcases h3 with h3 | h3
    · omega
    · have := Nat.pow_le_pow_right (n := 10) (by decide) (show d' ≤ d - 1 by omega)
      omega
theorem isDig.down {n d : Nat} (h : isDig n d) (hn : 100 ≤ n) : 3 ≤ d ∧ isDig (n / 100) (d - 2) := by
  obtain ⟨h1, h2, h3⟩ := h
  have hd : 3 ≤ d := by
    rcases Nat.lt_or_ge d 3 with q | q
    · have : d = 1 ∨ d = 2 := by omega
      rcases this with rfl | rfl <;> simp at h2 <;> omega
    · exact q
  refine ⟨hd, by omega, ?_, ?_⟩
  · have e : 10 ^ d = 10 ^ (d - 2) * 100 := by rw [show d = (d - 2) + 2 by omega, Nat.pow_add]; simp
    rw [e] at h2
    exact Nat.div_lt_of_lt_mul (by rw [Nat.mul_comm]; exact h2)
  · rcases Nat.eq_or_lt_of_le hd with q | q
    · exact Or.inl (by omega)
    · refine Or.inr ?_
      have h3' : 10 ^ (d - 1) ≤ n := by rcases h3 with h3 | h3; omega; exact h3
      have e : 10 ^ (d - 1) = 10 ^ (d - 2 - 1) * 100 := by rw [show d - 1 = (d - 2 - 1) + 2 by omega, Nat.pow_add]
      rw [e] at h3'
      exact (Nat.le_div_iff_mul_le (by decide)).mpr h3'
theorem ltN {y p : Int32} {n P : Nat} (hy : y.toInt = -(n : Int)) (hp : p.toInt = -(P : Int)) : p < y ↔ n < P := by
  rw [lt_iff, hy, hp]; omega
def dch (n j : Nat) : Int32 := Int32.ofNat (48 + n / 10 ^ j % 10)
def decs (n d : Nat) : List Int32 := (List.range d).map fun k => dch n (d - 1 - k)
theorem decs_len (n d : Nat) : (decs n d).length = d := by simp [decs]
theorem decs_getD {n d k : Nat} (hk : k < d) : (decs n d).getD k 0 = dch n (d - 1 - k) := by
  rw [List.getD_eq_getElem?_getD, List.getElem?_eq_getElem (by rw [decs_len]; exact hk)]
  simp [decs]
theorem dch_L1 (n j : Nat) : L1 (dch n j) := by
  have : n / 10 ^ j % 10 < 10 := Nat.mod_lt _ (by decide)
  refine L1.of ?_ ?_ <;> rw [dch, n_toInt (by omega)] <;> omega
theorem nb {m : Nat} (h : m < 128) : (Int32.ofNat m).toInt8.toInt32 = Int32.ofNat m := by
  apply Int32.toInt_inj.mp
  have q := c_i2b (Int32.ofNat m)
  rw [n_toInt (by omega)] at q ⊢
  omega
theorem dch_b (n j : Nat) : (dch n j).toInt8.toInt32 = dch n j := nb (by have : n / 10 ^ j % 10 < 10 := Nat.mod_lt _ (by decide); omega)
theorem getD_set_eq {vs : List Value} {i : Nat} {x d : Value} (h : i < vs.length) : (vs.set i x).getD i d = x := by
  rw [List.getD_eq_getElem?_getD, List.getElem?_set_self h]; rfl
theorem getD_set_ne {vs : List Value} {i j : Nat} {x d : Value} (h : i ≠ j) : (vs.set i x).getD j d = vs.getD j d := by
  rw [List.getD_eq_getElem?_getD, List.getElem?_set_ne h, List.getD_eq_getElem?_getD]
/-- the digits of n stand behind p, the sign ahead of them -/
def Wrote (vs vs' : List Value) (p n d sg : Nat) : Prop :=
  vs'.length = vs.length ∧ (∀ j, j < d → vs'.getD (p - 1 - j) (.int 0) = .int (dch n j)) ∧ (sg = 1 → vs'.getD (p - 1 - d) (.int 0) = .int 45) ∧ ∀ i, i < p - (d + sg) ∨ p ≤ i → vs'.getD i (.int 0) = vs.getD i (.int 0)
theorem Wrote.two {vs vs' : List Value} {p n d sg : Nat} {x y : Value} (hx : x = .int (dch n 0)) (hy : y = .int (dch n 1)) (h3 : 3 ≤ d) (hp : d + sg ≤ p) (hl : p ≤ vs.length) (W : Wrote ((vs.set (p - 1) x).set (p - 2) y) vs' (p - 2) (n / 100) (d - 2) sg) : Wrote vs vs' p n d sg := by
  subst hx hy
  obtain ⟨w1, w2, w3, w4⟩ := W
  refine ⟨by rw [w1]; simp, fun j hj => ?_, fun hs => ?_, fun i hi => ?_⟩
  · rcases Nat.lt_or_ge j 2 with q | q
    · have e : j = 0 ∨ j = 1 := by omega
      rcases e with rfl | rfl
      · rw [w4 _ (Or.inr (by omega)), getD_set_ne (by omega), show p - 1 - 0 = p - 1 by omega, getD_set_eq (by omega)]
      · rw [w4 _ (Or.inr (by omega)), show p - 1 - 1 = p - 2 by omega, getD_set_eq (by rw [List.length_set]; omega)]
    · have e := w2 (j - 2) (by omega)
      rw [show p - 2 - 1 - (j - 2) = p - 1 - j by omega] at e
      rw [e]
      have e2 : n / 100 / 10 ^ (j - 2) = n / 10 ^ j := by
        rw [Nat.div_div_eq_div_mul, show (100 : Nat) = 10 ^ 2 by decide, ← Nat.pow_add, show 2 + (j - 2) = j by omega]
      rw [dch, dch, e2]
  · have e := w3 hs
    rw [show p - 2 - 1 - (d - 2) = p - 1 - d by omega] at e
    exact e
  · rw [w4 i (by omega), getD_set_ne (by omega), getD_set_ne (by omega)]
theorem Wrote.list {cs : List Int32} {rest vs' : List Value} {n d sg cap : Nat} (hr : cs.length + rest.length = cap) (hs : sg = 0 ∨ sg = 1) (hd : cs.length + (d + sg) ≤ cap) (W : Wrote (cs.map bv ++ rest) vs' (cs.length + (d + sg)) n d sg) : vs' = (cs ++ ((if sg = 1 then [45] else []) ++ decs n d)).map bv ++ vs'.drop (cs.length + (d + sg)) := by
  obtain ⟨w1, w2, w3, w4⟩ := W
  have hl : vs'.length = cap := by rw [w1]; simp; omega
  have hlen : (cs ++ ((if sg = 1 then [45] else []) ++ decs n d)).length = cs.length + (d + sg) := by
    rcases hs with rfl | rfl <;> simp [decs_len] <;> omega
  have key : ∀ i, i < cs.length + (d + sg) → vs'.getD i (.int 0) = .int ((cs ++ ((if sg = 1 then [45] else []) ++ decs n d)).getD i 0).toInt8.toInt32 := by
    intro i hi
    rcases Nat.lt_or_ge i cs.length with q | q
    · rw [w4 i (Or.inl (by omega))]
      have e1 : (cs.map bv ++ rest).getD i (.int 0) = (cs.map bv).getD i (.int 0) := by
        rw [List.getD_eq_getElem?_getD, List.getElem?_append_left (by simpa using q), List.getD_eq_getElem?_getD]
      have e2 : (cs ++ ((if sg = 1 then [45] else []) ++ decs n d)).getD i 0 = cs.getD i 0 := by
        rw [List.getD_eq_getElem?_getD, List.getElem?_append_left q, List.getD_eq_getElem?_getD]
      rw [e1, e2, bv_getD]
    · have e2 : (cs ++ ((if sg = 1 then [45] else []) ++ decs n d)).getD i 0 = ((if sg = 1 then [45] else []) ++ decs n d).getD (i - cs.length) 0 := by
        rw [List.getD_eq_getElem?_getD, List.getElem?_append_right q, List.getD_eq_getElem?_getD]
      rw [e2]
      rcases hs with rfl | rfl
      · simp only [show ¬ (0 : Nat) = 1 by decide, if_false, List.nil_append]
        rw [decs_getD (by omega), dch_b]
        have := w2 (d - 1 - (i - cs.length)) (by omega)
        rw [show cs.length + (d + 0) - 1 - (d - 1 - (i - cs.length)) = i by omega] at this
        exact this
      · simp only [if_true]
        rcases Nat.eq_or_lt_of_le q with q | q
        · rw [← q, Nat.sub_self]
          have := w3 rfl
          rw [show cs.length + (d + 1) - 1 - d = cs.length by omega] at this
          exact this
        · have e3 : ([45] ++ decs n d : List Int32).getD (i - cs.length) 0 = (decs n d).getD (i - cs.length - 1) 0 := by
            rw [List.getD_eq_getElem?_getD, List.getElem?_append_right (by simp; omega), List.getD_eq_getElem?_getD]; rfl
          rw [e3, decs_getD (by omega), dch_b]
          have := w2 (d - 1 - (i - cs.length - 1)) (by omega)
          rw [show cs.length + (d + 1) - 1 - (d - 1 - (i - cs.length - 1)) = i by omega] at this
          exact this
  apply List.ext_getElem
  · rw [List.length_append, List.length_map, hlen, List.length_drop, hl]; omega
  · intro i h1 h2
    rcases Nat.lt_or_ge i (cs.length + (d + sg)) with q | q
    · rw [List.getElem_append_left (by rw [List.length_map, hlen]; exact q), List.getElem_map]
      have := key i q
      rw [List.getD_eq_getElem?_getD, List.getElem?_eq_getElem h1, List.getD_eq_getElem?_getD, List.getElem?_eq_getElem (by rw [hlen]; exact q)] at this
      exact this
    · rw [List.getElem_append_right (by rw [List.length_map, hlen]; exact q), List.getElem_drop]
      congr 1
      rw [List.length_map, hlen]; omega
theorem Wrote.b10 {vs : List Value} {p n : Nat} (hp : 1 ≤ p) (hl : p ≤ vs.length) : Wrote vs (vs.set (p - 1) (.int (dch n 0))) p n 1 0 := by
  refine ⟨by simp, fun j hj => ?_, fun hs => by omega, fun i hi => getD_set_ne (by omega)⟩
  obtain rfl : j = 0 := by omega
  exact getD_set_eq (by omega)
theorem Wrote.b11 {vs : List Value} {p n : Nat} (hp : 2 ≤ p) (hl : p ≤ vs.length) : Wrote vs ((vs.set (p - 1) (.int (dch n 0))).set (p - 2) (.int 45)) p n 1 1 := by
  refine ⟨by simp, fun j hj => ?_, fun _ => ?_, fun i hi => by rw [getD_set_ne (by omega), getD_set_ne (by omega)]⟩
  · obtain rfl : j = 0 := by omega
    rw [getD_set_ne (by omega)]
    exact getD_set_eq (by omega)
  · rw [show p - 1 - 1 = p - 2 by omega]
    exact getD_set_eq (by rw [List.length_set]; omega)
theorem Wrote.b20 {vs : List Value} {p n : Nat} (hp : 2 ≤ p) (hl : p ≤ vs.length) : Wrote vs ((vs.set (p - 1) (.int (dch n 0))).set (p - 2) (.int (dch n 1))) p n 2 0 := by
  refine ⟨by simp, fun j hj => ?_, fun hs => by omega, fun i hi => by rw [getD_set_ne (by omega), getD_set_ne (by omega)]⟩
  have e : j = 0 ∨ j = 1 := by omega
  rcases e with rfl | rfl
  · rw [getD_set_ne (by omega)]
    exact getD_set_eq (by omega)
  · rw [show p - 1 - 1 = p - 2 by omega]
    exact getD_set_eq (by rw [List.length_set]; omega)
theorem Wrote.b21 {vs : List Value} {p n : Nat} (hp : 3 ≤ p) (hl : p ≤ vs.length) : Wrote vs (((vs.set (p - 1) (.int (dch n 0))).set (p - 2) (.int (dch n 1))).set (p - 3) (.int 45)) p n 2 1 := by
  refine ⟨by simp, fun j hj => ?_, fun _ => ?_, fun i hi => by rw [getD_set_ne (by omega), getD_set_ne (by omega), getD_set_ne (by omega)]⟩
  · rw [getD_set_ne (by omega)]
    have e : j = 0 ∨ j = 1 := by omega
    rcases e with rfl | rfl
    · rw [getD_set_ne (by omega)]
      exact getD_set_eq (by omega)
    · rw [show p - 1 - 1 = p - 2 by omega]
      exact getD_set_eq (by rw [List.length_set]; omega)
  · rw [show p - 1 - 2 = p - 3 by omega]
    exact getD_set_eq (by rw [List.length_set, List.length_set]; omega)
theorem ones_eq (n : Nat) : Int32.ofNat (48 + n % 100 % 10) = dch n 0 := by
  unfold dch; rw [Nat.pow_zero, Nat.div_one]; congr 1; omega
theorem tens_eq (n : Nat) : Int32.ofNat (48 + n % 100 / 10) = dch n 1 := by
  unfold dch; rw [Nat.pow_one]; congr 1; omega
/-- Integer's two tables -/
def Dg (Z : State) : Prop := ∃ (a1 a2 : Addr) (k1 k2 : ClassId), Sta Z Z.heap "java/lang/Integer" "DigitOnes" "[B" (.ref a1) ∧ Sta Z Z.heap "java/lang/Integer" "DigitTens" "[B" (.ref a2) ∧
  Arv Z Z.heap a1 k1 .byte 100 ((List.range 100).map fun i => .int (Int32.ofNat (48 + i % 10))) (.int 0) ∧ Arv Z Z.heap a2 k2 .byte 100 ((List.range 100).map fun i => .int (Int32.ofNat (48 + i / 10))) (.int 0)
theorem tab_getD (f : Nat → Value) {i : Nat} (hi : i < 100) : ((List.range 100).map f).getD i (.int 0) = f i := by
  rw [List.getD_eq_getElem?_getD, List.getElem?_eq_getElem (by simpa using hi)]; simp
theorem neg_toInt {x : Int32} {n : Nat} (hx : x.toInt = -(n : Int)) (hn : n < 2147483648) : -x = Int32.ofNat n := by
  apply Int32.toInt_inj.mp
  have q := c_ineg x
  have r := rng32 (-x)
  rw [n_toInt hn]
  omega
theorem pos_neg {x : Int32} {n : Nat} (hx : x.toInt = (n : Int)) : (-x).toInt = -(n : Int) := by
  have q := c_ineg x
  have r := rng32 (-x)
  have r2 := rng32 x
  omega
theorem gc_q {y : Int32} {n : Nat} (hy : y.toInt = -(n : Int)) : (y / (100 : Int32)).toInt = -((n / 100 : Nat) : Int) := by
  have q := c_idiv y 100 100 rfl (by decide)
  rcases Nat.eq_zero_or_pos n with z | z
  · subst z
    rw [q.1 (by omega)]; rw [hy]; rfl
  · rw [q.2 (by omega), hy]; omega
theorem gc_r {y : Int32} {n : Nat} (hy : y.toInt = -(n : Int)) : (y / (100 : Int32)) * (100 : Int32) - y = Int32.ofNat (n % 100) := by
  apply Int32.toInt_inj.mp
  have hq := gc_q hy
  have m := c_imul (y / (100 : Int32)) 100
  have e100 : (100 : Int32).toInt = 100 := rfl
  have s := c_isub ((y / (100 : Int32)) * (100 : Int32)) y
  have r1 := rng32 ((y / (100 : Int32)) * (100 : Int32))
  have r2 := rng32 ((y / (100 : Int32)) * (100 : Int32) - y)
  have ry := rng32 y
  rw [n_toInt (by omega)]
  rw [hq, e100] at m
  omega
theorem n_pred {p : Nat} (h : 0 < p) : Int32.ofNat p + (-1 : Int32) = Int32.ofNat (p - 1) := by
  apply Int32.toInt_inj.mp
  have e : Int32.ofNat p = Int32.ofNat (p - 1) + 1 := by rw [n_succ]; congr 1; omega
  rw [e]
  have q := c_iadd (Int32.ofNat (p - 1)) 1
  have q2 := c_iadd (Int32.ofNat (p - 1) + 1) (-1)
  have e1 : (1 : Int32).toInt = 1 := rfl
  have e2 : (-1 : Int32).toInt = -1 := rfl
  have r1 := rng32 (Int32.ofNat (p - 1))
  have r2 := rng32 (Int32.ofNat (p - 1) + 1 + -1)
  omega
end Dec
end Jvm.OwnK
namespace Jvm.OwnK
open Sem ClassFile Op Lib Bundle Jvm.Free Jvm.Stand Jvm.LawKit Jvm.RoadKit
section Dec2
theorem sub0 (x : Int32) : x - (0 : Int32) = x := by
  apply Int32.toInt_inj.mp
  have q := c_isub x 0
  have r := rng32 (x - 0)
  have r2 := rng32 x
  have e0 : (0 : Int32).toInt = 0 := rfl
  omega
theorem range_getD' (cs : List Int32) (rest : List Value) (n : Nat) (hn : cs.length = n) : ((List.range n).map fun i => (cs.map bv ++ rest).getD (0 + i) (.int 0)) = cs.map bv := by
  subst hn
  apply List.ext_getElem
  · simp
  · intro i h1 h2
    simp only [List.length_map, List.length_range] at h1
    simp [List.getElem_map, List.getD_eq_getElem?_getD, h1, List.getElem?_append_left]
theorem j_toInt {i : Nat} (h : i < 9223372036854775808) : (Int64.ofNat i).toInt = i := Int64.toInt_ofNat_of_lt h
/-- (char) ('0' + (int) ((v / p) % 10)) -/
theorem digit_eq {v p : Int64} {n e : Nat} (hv : v.toInt = (n : Int)) (hp : p.toInt = ((10 ^ e : Nat) : Int)) (h1 : p ≠ -1) : (((48 : Int32) + ((v / p) % (10 : Int64)).toInt32).toUInt32.toUInt16.toUInt32.toInt32) = dch n e := by
  have q := (c_ldiv v p _ hp h1).1 (by omega)
  rw [hv] at q
  have q2 : (v / p).toInt = ((n / 10 ^ e : Nat) : Int) := by rw [q]; exact (Int.natCast_ediv _ _).symm ▸ rfl
  have m := (c_lrem (v / p) 10 10 rfl).1 (by rw [q2]; exact Int.natCast_nonneg _)
  rw [lrem_mod, q2] at m
  have hm : n / 10 ^ e % 10 < 10 := Nat.mod_lt _ (by decide)
  have m2 : ((v / p) % (10 : Int64)).toInt = ((n / 10 ^ e % 10 : Nat) : Int) := by rw [m]; exact (Int.natCast_emod _ _).symm ▸ rfl
  have l := c_l2i ((v / p) % (10 : Int64))
  have rl := rng32 ((v / p) % (10 : Int64)).toInt32
  rw [m2] at l
  have a := c_iadd (48 : Int32) ((v / p) % (10 : Int64)).toInt32
  have e48 : (48 : Int32).toInt = 48 := rfl
  have ra := rng32 ((48 : Int32) + ((v / p) % (10 : Int64)).toInt32)
  have c := c_i2c ((48 : Int32) + ((v / p) % (10 : Int64)).toInt32)
  apply Int32.toInt_inj.mp
  rw [dch, n_toInt (by omega)]
  omega
end Dec2
end Jvm.OwnK
namespace Jvm.OwnK
open Sem ClassFile Op Lib Bundle Jvm.Free Jvm.Stand Jvm.LawKit Jvm.RoadKit
theorem ltJ {v p : Int64} {n P : Nat} (hv : v.toInt = (n : Int)) (hp : p.toInt = (P : Int)) : v < p ↔ n < P := by
  rw [Int64.lt_iff_toInt_lt, hv, hp]; omega
theorem n_sub {i j : Nat} (h : j ≤ i) : Int32.ofNat i - Int32.ofNat j = Int32.ofNat (i - j) := by
  apply Int32.toInt_inj.mp
  have e : Int32.ofNat i = Int32.ofNat (i - j) + Int32.ofNat j := by rw [n_add]; congr 1; omega
  rw [e]
  have q := c_iadd (Int32.ofNat (i - j)) (Int32.ofNat j)
  have q2 := c_isub (Int32.ofNat (i - j) + Int32.ofNat j) (Int32.ofNat j)
  have r1 := rng32 (Int32.ofNat (i - j))
  have r2 := rng32 (Int32.ofNat (i - j) + Int32.ofNat j - Int32.ofNat j)
  omega
theorem arrayAt_cell {Z : State} {a : Addr} {SA : Cell} (h : Z.arrayAt? a = some SA) : Z.heap[a]? = some SA ∧ SA.vm ≠ .unknown := by
  simp only [State.arrayAt?, Option.bind_eq_bind, Option.bind_eq_some_iff] at h
  obtain ⟨c, h1, k, h2, h3⟩ := h
  split at h3
  · cases h3
  · rename_i hn
    split at h3
    · cases h3; exact ⟨h1, fun q => hn (Or.inl q)⟩
    · cases h3
theorem fits_b {n : Nat} (h : n < 128) : fits .byte (.int (Int32.ofNat n)) = true := by
  have e := n_toInt (i := n) (by omega)
  have e1 : (-128 : Int32).toInt = -128 := rfl
  have e2 : (127 : Int32).toInt = 127 := rfl
  have k : fits .byte (.int (Int32.ofNat n)) = (decide ((-128 : Int32) ≤ Int32.ofNat n) && decide (Int32.ofNat n ≤ (127 : Int32))) := rfl
  rw [k, Bool.and_eq_true, decide_eq_true_eq, decide_eq_true_eq, Int32.le_iff_toInt_le, Int32.le_iff_toInt_le, e, e1, e2]
  omega
/-- a table of bytes that stood at the start -/
theorem tab_of {Z : State} {args a0 : Array Value} {t F : Term} {f : Nat → Int32} (wa : (Cond.arrayClass .byte).before a0 Z = true) (ht : ∀ idx, t.eval args Z none idx Z = t.eval args Z none [] Z)
    (wx : (Cond.exactly t "[B").value args Z none Z [] = some true) (wl : (Cond.eq (.length t) (.int 100)).value args Z none Z [] = some true) (wt : (Cond.all t (.eq (.elem t (.index 0)) F)).value args Z none Z [] = some true)
    (hF : ∀ j, j < 100 → F.eval args Z none [j] Z = some (.int (f j))) (hf : ∀ j, j < 100 → fits .byte (.int (f j)) = true) :
    ∃ a k, t.eval args Z none [] Z = some (.ref a) ∧ Arv Z Z.heap a k .byte 100 ((List.range 100).map fun i => .int (f i)) (.int 0) := by
  obtain ⟨a3, c3, cell3, k3, e1, e2, e3, e4, e5, e6, -⟩ := Cond.exactly_spec (Cond.before_iff.mpr wx)
  have hlen := eqv_i (Term.int_eval 100) wl
  obtain ⟨sd, SA, hev, harrAt, -⟩ := Term.length_spec hlen
  cases hev.symm.trans e1
  have h31 := SBG.length_lt hev harrAt hlen
  have hsz : SA.slots.size = 100 := by
    have e : (Term.length t).eval args Z none [] Z = some (.int (Int32.ofNat SA.slots.size)) := by simp [Term.eval, hev, harrAt, h31]
    have h2 : Int32.ofNat SA.slots.size = (100 : Int32) := by simpa using Option.some.inj (e.symm.trans hlen)
    have := congrArg Int32.toInt h2
    rw [Int32.toInt_ofNat_small h31] at this
    have e100 : (100 : Int32).toInt = 100 := rfl
    omega
  have hcell := arrayAt_cell harrAt
  have hSA : SA = cell3 := Option.some.inj (hcell.1.symm.trans e3)
  subst hSA
  obtain ⟨c4, k4, comp, f1, f2, f3⟩ := Cond.arrayClass_spec wa
  cases (show Z.vm.findClass "[B" = some c4 from f1).symm.trans e2
  have hA : Z.isArrayOf SA .byte := ⟨(fun q r => by rw [r] at e5; cases e5), k4, by rw [e6]; exact f2, comp, f3⟩
  have A : Arr Z Z.heap a3 SA .byte := ⟨hcell.1, hA, hcell.2⟩
  have el : ∀ j, j < 100 → SA.slots[j]? = some (.int (f j)) := fun j hj => by
    have u := Cond.all_elim hev (A.fin (Vm.Alike.refl _)) wt j (by omega)
    have v := eqv_i (hF j hj) u
    have hj31 : j < 2147483648 := by omega
    have nn := n_nn hj31
    have cl := n_clamp hj31
    have ix : (Term.index 0).eval args Z none [(Int32.ofNat j).toNatClampNeg] Z = some (.int (Int32.ofNat j)) := idx_at nn
    have w := elem_f (t := t) ((ht _).trans hev) ix (A.fin (Vm.Alike.refl _)) nn
    rw [cl] at w
    exact w.symm.trans v
  refine ⟨a3, SA.cls, hev, SA, A, rfl, by rw [hsz]; rfl, by decide, fun j hj => ?_, fun j hj => ?_⟩
  · rw [hsz] at hj
    rw [el j hj, tab_getD _ hj]
  · rw [hsz] at hj
    rw [tab_getD _ hj]; exact hf j hj
end Jvm.OwnK
namespace Jvm.OwnK
open Sem ClassFile Op Lib Bundle Jvm.Free Jvm.Stand Jvm.LawKit Jvm.RoadKit
/-- what a StringBuilder of cap places holds after it was asked for m -/
def gcap (cap m : Nat) : Nat := if m ≤ cap then cap else cap + max (m - cap) (cap + 2)
theorem gcap_le {cap m : Nat} (h : m ≤ cap) : gcap cap m = cap := if_pos h
theorem gcap_gt {cap m : Nat} (h : cap < m) : gcap cap m = cap + max (m - cap) (cap + 2) := if_neg (by omega)
theorem gcap_ge (cap m : Nat) : m ≤ gcap cap m ∧ cap ≤ gcap cap m := by unfold gcap; split <;> omega
theorem gcap_dbl {cap m : Nat} (h : m ≤ 2 * cap + 2) : gcap cap m = cap ∨ gcap cap m = 2 * cap + 2 := by unfold gcap; split <;> omega
theorem gcap_mono (cap : Nat) {m m' : Nat} (h : m ≤ m') : gcap cap m ≤ gcap cap m' := by unfold gcap; split <;> split <;> omega
theorem n_max {g p : Nat} (hg : g < 2147483648) (hp : p < 2147483648) : (if Int32.ofNat g < Int32.ofNat p then Int32.ofNat p else Int32.ofNat g) = Int32.ofNat (max g p) := by
  rcases Nat.lt_or_ge g p with q | q
  · rw [if_pos (n_lt q hp)]; congr 1; omega
  · rw [if_neg (n_ge q hg)]; congr 1; omega
theorem range_vs (vs : List Value) (n : Nat) (hn : vs.length = n) : ((List.range n).map fun i => vs.getD (0 + i) (.int 0)) = vs := by
  subst hn
  apply List.ext_getElem
  · simp
  · intro i h1 h2
    simp only [List.length_map, List.length_range] at h1
    simp [List.getD_eq_getElem?_getD, h1]
theorem sub_gt0 {m n : Nat} (h : n < m) (hm : m ≤ 4096) : 0 < Int32.ofNat m - Int32.ofNat n := by
  rw [n_sub (by omega)]; exact n_lt (i := 0) (by omega) (by omega)
theorem sub_le0' {m n : Nat} (h : m ≤ n) (hn : n ≤ 4096) : ¬ 0 < Int32.ofNat m - Int32.ofNat n := by
  have q := sub_le0 h hn
  rw [shr0] at q; exact q
theorem mid_getD {A B C : List Int32} {j : Nat} (hj : j < B.length) : (A ++ (B ++ C)).getD (A.length + j) 0 = B.getD j 0 := by
  rw [List.getD_eq_getElem?_getD, List.getElem?_append_right (by omega), show A.length + j - A.length = j by omega, List.getElem?_append_left hj, List.getD_eq_getElem?_getD]
theorem gcap_set {cp m : Nat} (h : cp = 16 ∨ cp = 34) (hm : m ≤ 34) : gcap cp m = 16 ∨ gcap cp m = 34 := by
  unfold gcap; rcases h with rfl | rfl <;> split <;> omega
theorem seg {cs A B C : List Int32} {o : Nat} (e : cs = A ++ (B ++ C)) (ho : A.length = o) : ∀ j, j < B.length → cs.getD (o + j) 0 = B.getD j 0 := by
  subst e ho; intro j hj; exact mid_getD hj
theorem seg_len {cs A B C : List Int32} {o : Nat} (e : cs = A ++ (B ++ C)) (ho : A.length = o) : o + B.length ≤ cs.length := by
  subst e ho; simp only [List.length_append]; omega
end Jvm.OwnK
namespace Jvm.Pilot.@@N@@
open Jvm Jvm.ClassFile Sem Op Lib Jvm.Free Jvm.Stand Jvm.LawKit Jvm.RoadKit Bundle Jvm.OwnK Jvm.Pilot.@@N@@.Jvm.D
abbrev Hw (Z : State) (a0 : Array Value) : Prop := ∀ d ∈ tables_1, d.before a0 Z = true
theorem w0 {Z : State} {a0 : Array Value} (hw : Hw Z a0) : (Jvm.Cond.arrayClass Jvm.ClassFile.FieldType.char).before a0 Z = true := hw _ (List.mem_of_getElem? (i := 0) rfl)
theorem w1 {Z : State} {a0 : Array Value} (hw : Hw Z a0) : (Jvm.Cond.methodLink "com/example/udfyld/udfyld/NormaliserQueryPinLaw" (19 : Nat) ({ cls := "com/example/udfyld/udfyld/NormaliserQueryPinLaw", name := "draw", desc := "(I)C" } : Jvm.MethodName)).before a0 Z = true := hw _ (List.mem_of_getElem? (i := 1) rfl)
theorem w2 {Z : State} {a0 : Array Value} (hw : Hw Z a0) : (Jvm.Cond.static ({ cls := "com/example/udfyld/udfyld/NormaliserQueryPinLaw", name := "draw", desc := "(I)C" } : Jvm.MethodName)).before a0 Z = true := hw _ (List.mem_of_getElem? (i := 2) rfl)
theorem w3 {Z : State} {a0 : Array Value} (hw : Hw Z a0) : (Jvm.Cond.initialized "com/example/udfyld/udfyld/NormaliserQueryPinLaw").before a0 Z = true := hw _ (List.mem_of_getElem? (i := 3) rfl)
theorem w4 {Z : State} {a0 : Array Value} (hw : Hw Z a0) : (Jvm.Cond.code ({ cls := "com/example/udfyld/udfyld/NormaliserQueryPinLaw", name := "draw", desc := "(I)C" } : Jvm.MethodName) method_2_code (3 : Nat) (Option.some Jvm.ClassFile.FieldType.char)).before a0 Z = true := hw _ (List.mem_of_getElem? (i := 4) rfl)
theorem w5 {Z : State} {a0 : Array Value} (hw : Hw Z a0) : (Jvm.Cond.classLink "com/example/udfyld/udfyld/NormaliserQueryPinLaw" (14 : Nat) "java/lang/String").before a0 Z = true := hw _ (List.mem_of_getElem? (i := 5) rfl)
theorem w6 {Z : State} {a0 : Array Value} (hw : Hw Z a0) : (Jvm.Cond.instantiable "java/lang/String" (4 : Nat)).before a0 Z = true := hw _ (List.mem_of_getElem? (i := 6) rfl)
theorem w7 {Z : State} {a0 : Array Value} (hw : Hw Z a0) : (Jvm.Cond.initialized "java/lang/String").before a0 Z = true := hw _ (List.mem_of_getElem? (i := 7) rfl)
theorem w8 {Z : State} {a0 : Array Value} (hw : Hw Z a0) : (Jvm.Cond.methodLink "com/example/udfyld/udfyld/NormaliserQueryPinLaw" (22 : Nat) ({ cls := "java/lang/String", name := "<init>", desc := "([C)V" } : Jvm.MethodName)).before a0 Z = true := hw _ (List.mem_of_getElem? (i := 8) rfl)
theorem w9 {Z : State} {a0 : Array Value} (hw : Hw Z a0) : (Jvm.Cond.instanceMethod ({ cls := "java/lang/String", name := "<init>", desc := "([C)V" } : Jvm.MethodName)).before a0 Z = true := hw _ (List.mem_of_getElem? (i := 9) rfl)
theorem w10 {Z : State} {a0 : Array Value} (hw : Hw Z a0) : (Jvm.Cond.code ({ cls := "java/lang/String", name := "<init>", desc := "([C)V" } : Jvm.MethodName) jdk_42_method_3_code (2 : Nat) (Option.none : Option Jvm.ClassFile.FieldType)).before a0 Z = true := hw _ (List.mem_of_getElem? (i := 10) rfl)
theorem w11 {Z : State} {a0 : Array Value} (hw : Hw Z a0) : (Jvm.Cond.methodLink "java/lang/String" (27 : Nat) ({ cls := "java/lang/String", name := "<init>", desc := "([CIILjava/lang/Void;)V" } : Jvm.MethodName)).before a0 Z = true := hw _ (List.mem_of_getElem? (i := 11) rfl)
theorem w12 {Z : State} {a0 : Array Value} (hw : Hw Z a0) : (Jvm.Cond.instanceMethod ({ cls := "java/lang/String", name := "<init>", desc := "([CIILjava/lang/Void;)V" } : Jvm.MethodName)).before a0 Z = true := hw _ (List.mem_of_getElem? (i := 12) rfl)
theorem w14 {Z : State} {a0 : Array Value} (hw : Hw Z a0) : (Jvm.Cond.code ({ cls := "java/lang/String", name := "<init>", desc := "([CIILjava/lang/Void;)V" } : Jvm.MethodName) jdk_42_method_149_code (6 : Nat) (Option.none : Option Jvm.ClassFile.FieldType)).before a0 Z = true := hw _ (List.mem_of_getElem? (i := 14) rfl)
theorem w15 {Z : State} {a0 : Array Value} (hw : Hw Z a0) : (Jvm.Cond.methodLink "java/lang/String" (1 : Nat) ({ cls := "java/lang/Object", name := "<init>", desc := "()V" } : Jvm.MethodName)).before a0 Z = true := hw _ (List.mem_of_getElem? (i := 15) rfl)
theorem w16 {Z : State} {a0 : Array Value} (hw : Hw Z a0) : (Jvm.Cond.instanceMethod ({ cls := "java/lang/Object", name := "<init>", desc := "()V" } : Jvm.MethodName)).before a0 Z = true := hw _ (List.mem_of_getElem? (i := 16) rfl)
theorem w17 {Z : State} {a0 : Array Value} (hw : Hw Z a0) : (Jvm.Cond.code ({ cls := "java/lang/Object", name := "<init>", desc := "()V" } : Jvm.MethodName) object_method_1_code (1 : Nat) (Option.none : Option Jvm.ClassFile.FieldType)).before a0 Z = true := hw _ (List.mem_of_getElem? (i := 17) rfl)
theorem w18 {Z : State} {a0 : Array Value} (hw : Hw Z a0) : (Jvm.Cond.fieldLink "java/lang/String" (38 : Nat) "java/lang/String" "COMPACT_STRINGS" "Z").before a0 Z = true := hw _ (List.mem_of_getElem? (i := 18) rfl)
theorem w19 {Z : State} {a0 : Array Value} (hw : Hw Z a0) : (Jvm.Cond.methodLink "java/lang/String" (177 : Nat) ({ cls := "java/lang/StringUTF16", name := "compress", desc := "([CII)[B" } : Jvm.MethodName)).before a0 Z = true := hw _ (List.mem_of_getElem? (i := 19) rfl)
theorem w20 {Z : State} {a0 : Array Value} (hw : Hw Z a0) : (Jvm.Cond.static ({ cls := "java/lang/StringUTF16", name := "compress", desc := "([CII)[B" } : Jvm.MethodName)).before a0 Z = true := hw _ (List.mem_of_getElem? (i := 20) rfl)
theorem w21 {Z : State} {a0 : Array Value} (hw : Hw Z a0) : (Jvm.Cond.initialized "java/lang/StringUTF16").before a0 Z = true := hw _ (List.mem_of_getElem? (i := 21) rfl)
theorem w22 {Z : State} {a0 : Array Value} (hw : Hw Z a0) : (Jvm.Cond.code ({ cls := "java/lang/StringUTF16", name := "compress", desc := "([CII)[B" } : Jvm.MethodName) jdk_52_method_16_code (6 : Nat) (Option.some (Jvm.ClassFile.FieldType.array Jvm.ClassFile.FieldType.byte))).before a0 Z = true := hw _ (List.mem_of_getElem? (i := 22) rfl)
theorem w23 {Z : State} {a0 : Array Value} (hw : Hw Z a0) : (Jvm.Cond.arrayClass Jvm.ClassFile.FieldType.byte).before a0 Z = true := hw _ (List.mem_of_getElem? (i := 23) rfl)
theorem w24 {Z : State} {a0 : Array Value} (hw : Hw Z a0) : (Jvm.Cond.methodLink "java/lang/StringUTF16" (115 : Nat) ({ cls := "java/lang/StringUTF16", name := "compress", desc := "([CI[BII)I" } : Jvm.MethodName)).before a0 Z = true := hw _ (List.mem_of_getElem? (i := 24) rfl)
theorem w25 {Z : State} {a0 : Array Value} (hw : Hw Z a0) : (Jvm.Cond.static ({ cls := "java/lang/StringUTF16", name := "compress", desc := "([CI[BII)I" } : Jvm.MethodName)).before a0 Z = true := hw _ (List.mem_of_getElem? (i := 25) rfl)
theorem w26 {Z : State} {a0 : Array Value} (hw : Hw Z a0) : (Jvm.Cond.code ({ cls := "java/lang/StringUTF16", name := "compress", desc := "([CI[BII)I" } : Jvm.MethodName) jdk_52_method_21_code (7 : Nat) (Option.some Jvm.ClassFile.FieldType.int)).before a0 Z = true := hw _ (List.mem_of_getElem? (i := 26) rfl)
theorem w27 {Z : State} {a0 : Array Value} (hw : Hw Z a0) : (Jvm.Cond.methodLink "java/lang/String" (47 : Nat) ({ cls := "java/lang/StringUTF16", name := "coderFromArrayLen", desc := "([BI)B" } : Jvm.MethodName)).before a0 Z = true := hw _ (List.mem_of_getElem? (i := 27) rfl)
theorem w28 {Z : State} {a0 : Array Value} (hw : Hw Z a0) : (Jvm.Cond.static ({ cls := "java/lang/StringUTF16", name := "coderFromArrayLen", desc := "([BI)B" } : Jvm.MethodName)).before a0 Z = true := hw _ (List.mem_of_getElem? (i := 28) rfl)
theorem w29 {Z : State} {a0 : Array Value} (hw : Hw Z a0) : (Jvm.Cond.code ({ cls := "java/lang/StringUTF16", name := "coderFromArrayLen", desc := "([BI)B" } : Jvm.MethodName) jdk_52_method_15_code (2 : Nat) (Option.some Jvm.ClassFile.FieldType.byte)).before a0 Z = true := hw _ (List.mem_of_getElem? (i := 29) rfl)
theorem w30 {Z : State} {a0 : Array Value} (hw : Hw Z a0) : (Jvm.Cond.fieldLink "java/lang/String" (15 : Nat) "java/lang/String" "coder" "B").before a0 Z = true := hw _ (List.mem_of_getElem? (i := 30) rfl)
theorem w31 {Z : State} {a0 : Array Value} (hw : Hw Z a0) : (Jvm.Cond.laysFinal "java/lang/String" "java/lang/String" "coder" "B").before a0 Z = true := hw _ (List.mem_of_getElem? (i := 31) rfl)
theorem w32 {Z : State} {a0 : Array Value} (hw : Hw Z a0) : (Jvm.Cond.fieldLink "java/lang/String" (9 : Nat) "java/lang/String" "value" "[B").before a0 Z = true := hw _ (List.mem_of_getElem? (i := 32) rfl)
theorem w33 {Z : State} {a0 : Array Value} (hw : Hw Z a0) : (Jvm.Cond.laysFinal "java/lang/String" "java/lang/String" "value" "[B").before a0 Z = true := hw _ (List.mem_of_getElem? (i := 33) rfl)
theorem w34 {Z : State} {a0 : Array Value} (hw : Hw Z a0) : (Jvm.Cond.arrayClass Jvm.ClassFile.FieldType.int).before a0 Z = true := hw _ (List.mem_of_getElem? (i := 34) rfl)
theorem w35 {Z : State} {a0 : Array Value} (hw : Hw Z a0) : (Jvm.Cond.methodLink "com/example/udfyld/udfyld/NormaliserQueryPinLaw" (25 : Nat) ({ cls := "com/example/udfyld/udfyld/NormaliserQueryPinLaw", name := "step", desc := "([C[ICI)V" } : Jvm.MethodName)).before a0 Z = true := hw _ (List.mem_of_getElem? (i := 35) rfl)
theorem w36 {Z : State} {a0 : Array Value} (hw : Hw Z a0) : (Jvm.Cond.static ({ cls := "com/example/udfyld/udfyld/NormaliserQueryPinLaw", name := "step", desc := "([C[ICI)V" } : Jvm.MethodName)).before a0 Z = true := hw _ (List.mem_of_getElem? (i := 36) rfl)
theorem w37 {Z : State} {a0 : Array Value} (hw : Hw Z a0) : (Jvm.Cond.code ({ cls := "com/example/udfyld/udfyld/NormaliserQueryPinLaw", name := "step", desc := "([C[ICI)V" } : Jvm.MethodName) method_4_code (4 : Nat) (Option.none : Option Jvm.ClassFile.FieldType)).before a0 Z = true := hw _ (List.mem_of_getElem? (i := 37) rfl)
theorem w38 {Z : State} {a0 : Array Value} (hw : Hw Z a0) : (Jvm.Cond.methodLink "com/example/udfyld/udfyld/NormaliserQueryPinLaw" (7 : Nat) ({ cls := "com/example/udfyld/udfyld/NormaliserQueryPinLaw", name := "isLetter", desc := "(C)Z" } : Jvm.MethodName)).before a0 Z = true := hw _ (List.mem_of_getElem? (i := 38) rfl)
theorem w39 {Z : State} {a0 : Array Value} (hw : Hw Z a0) : (Jvm.Cond.static ({ cls := "com/example/udfyld/udfyld/NormaliserQueryPinLaw", name := "isLetter", desc := "(C)Z" } : Jvm.MethodName)).before a0 Z = true := hw _ (List.mem_of_getElem? (i := 39) rfl)
theorem w40 {Z : State} {a0 : Array Value} (hw : Hw Z a0) : (Jvm.Cond.code ({ cls := "com/example/udfyld/udfyld/NormaliserQueryPinLaw", name := "isLetter", desc := "(C)Z" } : Jvm.MethodName) method_3_code (2 : Nat) (Option.some Jvm.ClassFile.FieldType.boolean)).before a0 Z = true := hw _ (List.mem_of_getElem? (i := 40) rfl)
theorem w41 {Z : State} {a0 : Array Value} (hw : Hw Z a0) : (Jvm.Cond.methodLink "com/example/udfyld/udfyld/NormaliserQueryPinLaw" (29 : Nat) ({ cls := "com/example/udfyld/udfyld/Normaliser", name := "query", desc := "(Ljava/lang/String;)Ljava/util/Optional;" } : Jvm.MethodName)).before a0 Z = true := hw _ (List.mem_of_getElem? (i := 41) rfl)
theorem w42 {Z : State} {a0 : Array Value} (hw : Hw Z a0) : (Jvm.Cond.static ({ cls := "com/example/udfyld/udfyld/Normaliser", name := "query", desc := "(Ljava/lang/String;)Ljava/util/Optional;" } : Jvm.MethodName)).before a0 Z = true := hw _ (List.mem_of_getElem? (i := 42) rfl)
theorem w43 {Z : State} {a0 : Array Value} (hw : Hw Z a0) : (Jvm.Cond.initialized "com/example/udfyld/udfyld/Normaliser").before a0 Z = true := hw _ (List.mem_of_getElem? (i := 43) rfl)
theorem w44 {Z : State} {a0 : Array Value} (hw : Hw Z a0) : (Jvm.Cond.code ({ cls := "com/example/udfyld/udfyld/Normaliser", name := "query", desc := "(Ljava/lang/String;)Ljava/util/Optional;" } : Jvm.MethodName) prog_12_method_2_code (2 : Nat) (Option.some (Jvm.ClassFile.FieldType.object "java/util/Optional"))).before a0 Z = true := hw _ (List.mem_of_getElem? (i := 44) rfl)
theorem w45 {Z : State} {a0 : Array Value} (hw : Hw Z a0) : (Jvm.Cond.methodLink "com/example/udfyld/udfyld/Normaliser" (7 : Nat) ({ cls := "com/example/udfyld/udfyld/Normaliser", name := "normalise", desc := "(Ljava/lang/String;Z)Ljava/lang/String;" } : Jvm.MethodName)).before a0 Z = true := hw _ (List.mem_of_getElem? (i := 45) rfl)
theorem w46 {Z : State} {a0 : Array Value} (hw : Hw Z a0) : (Jvm.Cond.static ({ cls := "com/example/udfyld/udfyld/Normaliser", name := "normalise", desc := "(Ljava/lang/String;Z)Ljava/lang/String;" } : Jvm.MethodName)).before a0 Z = true := hw _ (List.mem_of_getElem? (i := 46) rfl)
theorem w47 {Z : State} {a0 : Array Value} (hw : Hw Z a0) : (Jvm.Cond.code ({ cls := "com/example/udfyld/udfyld/Normaliser", name := "normalise", desc := "(Ljava/lang/String;Z)Ljava/lang/String;" } : Jvm.MethodName) prog_12_method_4_code (7 : Nat) (Option.some (Jvm.ClassFile.FieldType.object "java/lang/String"))).before a0 Z = true := hw _ (List.mem_of_getElem? (i := 47) rfl)
theorem w48 {Z : State} {a0 : Array Value} (hw : Hw Z a0) : (Jvm.Cond.classLink "com/example/udfyld/udfyld/Normaliser" (32 : Nat) "java/lang/StringBuilder").before a0 Z = true := hw _ (List.mem_of_getElem? (i := 48) rfl)
theorem w49 {Z : State} {a0 : Array Value} (hw : Hw Z a0) : (Jvm.Cond.instantiable "java/lang/StringBuilder" (4 : Nat)).before a0 Z = true := hw _ (List.mem_of_getElem? (i := 49) rfl)
theorem w50 {Z : State} {a0 : Array Value} (hw : Hw Z a0) : (Jvm.Cond.initialized "java/lang/StringBuilder").before a0 Z = true := hw _ (List.mem_of_getElem? (i := 50) rfl)
theorem w51 {Z : State} {a0 : Array Value} (hw : Hw Z a0) : (Jvm.Cond.methodLink "com/example/udfyld/udfyld/Normaliser" (34 : Nat) ({ cls := "java/lang/String", name := "length", desc := "()I" } : Jvm.MethodName)).before a0 Z = true := hw _ (List.mem_of_getElem? (i := 51) rfl)
theorem w52 {Z : State} {a0 : Array Value} (hw : Hw Z a0) : (Jvm.Cond.declares ({ cls := "java/lang/String", name := "length", desc := "()I" } : Jvm.MethodName)).before a0 Z = true := hw _ (List.mem_of_getElem? (i := 52) rfl)
theorem w53 {Z : State} {a0 : Array Value} (hw : Hw Z a0) : (Jvm.Cond.instanceMethod ({ cls := "java/lang/String", name := "length", desc := "()I" } : Jvm.MethodName)).before a0 Z = true := hw _ (List.mem_of_getElem? (i := 53) rfl)
theorem w54 {Z : State} {a0 : Array Value} (hw : Hw Z a0) : (Jvm.Cond.selects "java/lang/String" ({ cls := "java/lang/String", name := "length", desc := "()I" } : Jvm.MethodName) ({ cls := "java/lang/String", name := "length", desc := "()I" } : Jvm.MethodName)).before a0 Z = true := hw _ (List.mem_of_getElem? (i := 54) rfl)
theorem w55 {Z : State} {a0 : Array Value} (hw : Hw Z a0) : (Jvm.Cond.code ({ cls := "java/lang/String", name := "length", desc := "()I" } : Jvm.MethodName) jdk_42_method_54_code (1 : Nat) (Option.some Jvm.ClassFile.FieldType.int)).before a0 Z = true := hw _ (List.mem_of_getElem? (i := 55) rfl)
theorem w56 {Z : State} {a0 : Array Value} (hw : Hw Z a0) : (Jvm.Cond.methodLink "java/lang/String" (335 : Nat) ({ cls := "java/lang/String", name := "coder", desc := "()B" } : Jvm.MethodName)).before a0 Z = true := hw _ (List.mem_of_getElem? (i := 56) rfl)
theorem w57 {Z : State} {a0 : Array Value} (hw : Hw Z a0) : (Jvm.Cond.declares ({ cls := "java/lang/String", name := "coder", desc := "()B" } : Jvm.MethodName)).before a0 Z = true := hw _ (List.mem_of_getElem? (i := 57) rfl)
theorem w58 {Z : State} {a0 : Array Value} (hw : Hw Z a0) : (Jvm.Cond.instanceMethod ({ cls := "java/lang/String", name := "coder", desc := "()B" } : Jvm.MethodName)).before a0 Z = true := hw _ (List.mem_of_getElem? (i := 58) rfl)
theorem w59 {Z : State} {a0 : Array Value} (hw : Hw Z a0) : (Jvm.Cond.selects "java/lang/String" ({ cls := "java/lang/String", name := "coder", desc := "()B" } : Jvm.MethodName) ({ cls := "java/lang/String", name := "coder", desc := "()B" } : Jvm.MethodName)).before a0 Z = true := hw _ (List.mem_of_getElem? (i := 59) rfl)
theorem w60 {Z : State} {a0 : Array Value} (hw : Hw Z a0) : (Jvm.Cond.code ({ cls := "java/lang/String", name := "coder", desc := "()B" } : Jvm.MethodName) jdk_42_method_152_code (1 : Nat) (Option.some Jvm.ClassFile.FieldType.byte)).before a0 Z = true := hw _ (List.mem_of_getElem? (i := 60) rfl)
theorem w61 {Z : State} {a0 : Array Value} (hw : Hw Z a0) : (Jvm.Cond.methodLink "com/example/udfyld/udfyld/Normaliser" (38 : Nat) ({ cls := "java/lang/Math", name := "min", desc := "(II)I" } : Jvm.MethodName)).before a0 Z = true := hw _ (List.mem_of_getElem? (i := 61) rfl)
theorem w62 {Z : State} {a0 : Array Value} (hw : Hw Z a0) : (Jvm.Cond.static ({ cls := "java/lang/Math", name := "min", desc := "(II)I" } : Jvm.MethodName)).before a0 Z = true := hw _ (List.mem_of_getElem? (i := 62) rfl)
theorem w63 {Z : State} {a0 : Array Value} (hw : Hw Z a0) : (Jvm.Cond.initialized "java/lang/Math").before a0 Z = true := hw _ (List.mem_of_getElem? (i := 63) rfl)
theorem w64 {Z : State} {a0 : Array Value} (hw : Hw Z a0) : (Jvm.Cond.code ({ cls := "java/lang/Math", name := "min", desc := "(II)I" } : Jvm.MethodName) jdk_29_method_69_code (2 : Nat) (Option.some Jvm.ClassFile.FieldType.int)).before a0 Z = true := hw _ (List.mem_of_getElem? (i := 64) rfl)
theorem w65 {Z : State} {a0 : Array Value} (hw : Hw Z a0) : (Jvm.Cond.methodLink "com/example/udfyld/udfyld/Normaliser" (44 : Nat) ({ cls := "java/lang/StringBuilder", name := "<init>", desc := "(I)V" } : Jvm.MethodName)).before a0 Z = true := hw _ (List.mem_of_getElem? (i := 65) rfl)
theorem w66 {Z : State} {a0 : Array Value} (hw : Hw Z a0) : (Jvm.Cond.instanceMethod ({ cls := "java/lang/StringBuilder", name := "<init>", desc := "(I)V" } : Jvm.MethodName)).before a0 Z = true := hw _ (List.mem_of_getElem? (i := 66) rfl)
theorem w67 {Z : State} {a0 : Array Value} (hw : Hw Z a0) : (Jvm.Cond.code ({ cls := "java/lang/StringBuilder", name := "<init>", desc := "(I)V" } : Jvm.MethodName) jdk_67_method_2_code (2 : Nat) (Option.none : Option Jvm.ClassFile.FieldType)).before a0 Z = true := hw _ (List.mem_of_getElem? (i := 67) rfl)
theorem w68 {Z : State} {a0 : Array Value} (hw : Hw Z a0) : (Jvm.Cond.methodLink "java/lang/StringBuilder" (1 : Nat) ({ cls := "java/lang/AbstractStringBuilder", name := "<init>", desc := "(I)V" } : Jvm.MethodName)).before a0 Z = true := hw _ (List.mem_of_getElem? (i := 68) rfl)
theorem w69 {Z : State} {a0 : Array Value} (hw : Hw Z a0) : (Jvm.Cond.instanceMethod ({ cls := "java/lang/AbstractStringBuilder", name := "<init>", desc := "(I)V" } : Jvm.MethodName)).before a0 Z = true := hw _ (List.mem_of_getElem? (i := 69) rfl)
theorem w71 {Z : State} {a0 : Array Value} (hw : Hw Z a0) : (Jvm.Cond.castable "java/lang/StringBuilder" "java/lang/AbstractStringBuilder").before a0 Z = true := hw _ (List.mem_of_getElem? (i := 71) rfl)
theorem w72 {Z : State} {a0 : Array Value} (hw : Hw Z a0) : (Jvm.Cond.initialized "java/lang/AbstractStringBuilder").before a0 Z = true := hw _ (List.mem_of_getElem? (i := 72) rfl)
theorem w73 {Z : State} {a0 : Array Value} (hw : Hw Z a0) : (Jvm.Cond.code ({ cls := "java/lang/AbstractStringBuilder", name := "<init>", desc := "(I)V" } : Jvm.MethodName) jdk_68_method_2_code (2 : Nat) (Option.none : Option Jvm.ClassFile.FieldType)).before a0 Z = true := hw _ (List.mem_of_getElem? (i := 73) rfl)
theorem w74 {Z : State} {a0 : Array Value} (hw : Hw Z a0) : (Jvm.Cond.methodLink "java/lang/AbstractStringBuilder" (3 : Nat) ({ cls := "java/lang/Object", name := "<init>", desc := "()V" } : Jvm.MethodName)).before a0 Z = true := hw _ (List.mem_of_getElem? (i := 74) rfl)
theorem w75 {Z : State} {a0 : Array Value} (hw : Hw Z a0) : (Jvm.Cond.fieldLink "java/lang/AbstractStringBuilder" (18 : Nat) "java/lang/String" "COMPACT_STRINGS" "Z").before a0 Z = true := hw _ (List.mem_of_getElem? (i := 75) rfl)
theorem w76 {Z : State} {a0 : Array Value} (hw : Hw Z a0) : (Jvm.Cond.fieldLink "java/lang/AbstractStringBuilder" (15 : Nat) "java/lang/AbstractStringBuilder" "value" "[B").before a0 Z = true := hw _ (List.mem_of_getElem? (i := 76) rfl)
theorem w77 {Z : State} {a0 : Array Value} (hw : Hw Z a0) : (Jvm.Cond.lays "java/lang/StringBuilder" "java/lang/AbstractStringBuilder" "value" "[B").before a0 Z = true := hw _ (List.mem_of_getElem? (i := 77) rfl)
theorem w78 {Z : State} {a0 : Array Value} (hw : Hw Z a0) : (Jvm.Cond.fieldLink "java/lang/AbstractStringBuilder" (22 : Nat) "java/lang/AbstractStringBuilder" "coder" "B").before a0 Z = true := hw _ (List.mem_of_getElem? (i := 78) rfl)
theorem w79 {Z : State} {a0 : Array Value} (hw : Hw Z a0) : (Jvm.Cond.lays "java/lang/StringBuilder" "java/lang/AbstractStringBuilder" "coder" "B").before a0 Z = true := hw _ (List.mem_of_getElem? (i := 79) rfl)
theorem w80 {Z : State} {a0 : Array Value} (hw : Hw Z a0) : (Jvm.Cond.methodLink "com/example/udfyld/udfyld/Normaliser" (47 : Nat) ({ cls := "java/lang/String", name := "charAt", desc := "(I)C" } : Jvm.MethodName)).before a0 Z = true := hw _ (List.mem_of_getElem? (i := 80) rfl)
theorem w81 {Z : State} {a0 : Array Value} (hw : Hw Z a0) : (Jvm.Cond.declares ({ cls := "java/lang/String", name := "charAt", desc := "(I)C" } : Jvm.MethodName)).before a0 Z = true := hw _ (List.mem_of_getElem? (i := 81) rfl)
theorem w82 {Z : State} {a0 : Array Value} (hw : Hw Z a0) : (Jvm.Cond.instanceMethod ({ cls := "java/lang/String", name := "charAt", desc := "(I)C" } : Jvm.MethodName)).before a0 Z = true := hw _ (List.mem_of_getElem? (i := 82) rfl)
theorem w83 {Z : State} {a0 : Array Value} (hw : Hw Z a0) : (Jvm.Cond.selects "java/lang/String" ({ cls := "java/lang/String", name := "charAt", desc := "(I)C" } : Jvm.MethodName) ({ cls := "java/lang/String", name := "charAt", desc := "(I)C" } : Jvm.MethodName)).before a0 Z = true := hw _ (List.mem_of_getElem? (i := 83) rfl)
theorem w84 {Z : State} {a0 : Array Value} (hw : Hw Z a0) : (Jvm.Cond.code ({ cls := "java/lang/String", name := "charAt", desc := "(I)C" } : Jvm.MethodName) jdk_42_method_56_code (2 : Nat) (Option.some Jvm.ClassFile.FieldType.char)).before a0 Z = true := hw _ (List.mem_of_getElem? (i := 84) rfl)
theorem w85 {Z : State} {a0 : Array Value} (hw : Hw Z a0) : (Jvm.Cond.methodLink "java/lang/String" (492 : Nat) ({ cls := "java/lang/String", name := "isLatin1", desc := "()Z" } : Jvm.MethodName)).before a0 Z = true := hw _ (List.mem_of_getElem? (i := 85) rfl)
theorem w86 {Z : State} {a0 : Array Value} (hw : Hw Z a0) : (Jvm.Cond.declares ({ cls := "java/lang/String", name := "isLatin1", desc := "()Z" } : Jvm.MethodName)).before a0 Z = true := hw _ (List.mem_of_getElem? (i := 86) rfl)
theorem w87 {Z : State} {a0 : Array Value} (hw : Hw Z a0) : (Jvm.Cond.instanceMethod ({ cls := "java/lang/String", name := "isLatin1", desc := "()Z" } : Jvm.MethodName)).before a0 Z = true := hw _ (List.mem_of_getElem? (i := 87) rfl)
theorem w88 {Z : State} {a0 : Array Value} (hw : Hw Z a0) : (Jvm.Cond.selects "java/lang/String" ({ cls := "java/lang/String", name := "isLatin1", desc := "()Z" } : Jvm.MethodName) ({ cls := "java/lang/String", name := "isLatin1", desc := "()Z" } : Jvm.MethodName)).before a0 Z = true := hw _ (List.mem_of_getElem? (i := 88) rfl)
theorem w89 {Z : State} {a0 : Array Value} (hw : Hw Z a0) : (Jvm.Cond.code ({ cls := "java/lang/String", name := "isLatin1", desc := "()Z" } : Jvm.MethodName) jdk_42_method_154_code (1 : Nat) (Option.some Jvm.ClassFile.FieldType.boolean)).before a0 Z = true := hw _ (List.mem_of_getElem? (i := 89) rfl)
theorem w90 {Z : State} {a0 : Array Value} (hw : Hw Z a0) : (Jvm.Cond.methodLink "java/lang/String" (495 : Nat) ({ cls := "java/lang/StringLatin1", name := "charAt", desc := "([BI)C" } : Jvm.MethodName)).before a0 Z = true := hw _ (List.mem_of_getElem? (i := 90) rfl)
theorem w91 {Z : State} {a0 : Array Value} (hw : Hw Z a0) : (Jvm.Cond.static ({ cls := "java/lang/StringLatin1", name := "charAt", desc := "([BI)C" } : Jvm.MethodName)).before a0 Z = true := hw _ (List.mem_of_getElem? (i := 91) rfl)
theorem w92 {Z : State} {a0 : Array Value} (hw : Hw Z a0) : (Jvm.Cond.initialized "java/lang/StringLatin1").before a0 Z = true := hw _ (List.mem_of_getElem? (i := 92) rfl)
theorem w93 {Z : State} {a0 : Array Value} (hw : Hw Z a0) : (Jvm.Cond.code ({ cls := "java/lang/StringLatin1", name := "charAt", desc := "([BI)C" } : Jvm.MethodName) jdk_43_method_2_code (2 : Nat) (Option.some Jvm.ClassFile.FieldType.char)).before a0 Z = true := hw _ (List.mem_of_getElem? (i := 93) rfl)
theorem w94 {Z : State} {a0 : Array Value} (hw : Hw Z a0) : (Jvm.Cond.methodLink "java/lang/StringLatin1" (9 : Nat) ({ cls := "java/lang/String", name := "checkIndex", desc := "(II)V" } : Jvm.MethodName)).before a0 Z = true := hw _ (List.mem_of_getElem? (i := 94) rfl)
theorem w95 {Z : State} {a0 : Array Value} (hw : Hw Z a0) : (Jvm.Cond.static ({ cls := "java/lang/String", name := "checkIndex", desc := "(II)V" } : Jvm.MethodName)).before a0 Z = true := hw _ (List.mem_of_getElem? (i := 95) rfl)
theorem w96 {Z : State} {a0 : Array Value} (hw : Hw Z a0) : (Jvm.Cond.code ({ cls := "java/lang/String", name := "checkIndex", desc := "(II)V" } : Jvm.MethodName) jdk_42_method_155_code (2 : Nat) (Option.none : Option Jvm.ClassFile.FieldType)).before a0 Z = true := hw _ (List.mem_of_getElem? (i := 96) rfl)
theorem w97 {Z : State} {a0 : Array Value} (hw : Hw Z a0) : (Jvm.Cond.fieldLink "java/lang/String" (1053 : Nat) "jdk/internal/util/Preconditions" "SIOOBE_FORMATTER" "Ljava/util/function/BiFunction;").before a0 Z = true := hw _ (List.mem_of_getElem? (i := 97) rfl)
theorem w98 {Z : State} {a0 : Array Value} (hw : Hw Z a0) : (Jvm.Cond.initialized "jdk/internal/util/Preconditions").before a0 Z = true := hw _ (List.mem_of_getElem? (i := 98) rfl)
theorem w99 {Z : State} {a0 : Array Value} (hw : Hw Z a0) : (Jvm.Cond.methodLink "java/lang/String" (1059 : Nat) ({ cls := "jdk/internal/util/Preconditions", name := "checkIndex", desc := "(IILjava/util/function/BiFunction;)I" } : Jvm.MethodName)).before a0 Z = true := hw _ (List.mem_of_getElem? (i := 99) rfl)
theorem w100 {Z : State} {a0 : Array Value} (hw : Hw Z a0) : (Jvm.Cond.static ({ cls := "jdk/internal/util/Preconditions", name := "checkIndex", desc := "(IILjava/util/function/BiFunction;)I" } : Jvm.MethodName)).before a0 Z = true := hw _ (List.mem_of_getElem? (i := 100) rfl)
theorem w101 {Z : State} {a0 : Array Value} (hw : Hw Z a0) : (Jvm.Cond.code ({ cls := "jdk/internal/util/Preconditions", name := "checkIndex", desc := "(IILjava/util/function/BiFunction;)I" } : Jvm.MethodName) jdk_41_method_11_code (3 : Nat) (Option.some Jvm.ClassFile.FieldType.int)).before a0 Z = true := hw _ (List.mem_of_getElem? (i := 101) rfl)
theorem w102 {Z : State} {a0 : Array Value} (hw : Hw Z a0) : (Jvm.Cond.methodLink "com/example/udfyld/udfyld/Normaliser" (51 : Nat) ({ cls := "java/lang/StringBuilder", name := "length", desc := "()I" } : Jvm.MethodName)).before a0 Z = true := hw _ (List.mem_of_getElem? (i := 102) rfl)
theorem w103 {Z : State} {a0 : Array Value} (hw : Hw Z a0) : (Jvm.Cond.declares ({ cls := "java/lang/StringBuilder", name := "length", desc := "()I" } : Jvm.MethodName)).before a0 Z = true := hw _ (List.mem_of_getElem? (i := 103) rfl)
theorem w104 {Z : State} {a0 : Array Value} (hw : Hw Z a0) : (Jvm.Cond.instanceMethod ({ cls := "java/lang/StringBuilder", name := "length", desc := "()I" } : Jvm.MethodName)).before a0 Z = true := hw _ (List.mem_of_getElem? (i := 104) rfl)
theorem w105 {Z : State} {a0 : Array Value} (hw : Hw Z a0) : (Jvm.Cond.selects "java/lang/StringBuilder" ({ cls := "java/lang/StringBuilder", name := "length", desc := "()I" } : Jvm.MethodName) ({ cls := "java/lang/StringBuilder", name := "length", desc := "()I" } : Jvm.MethodName)).before a0 Z = true := hw _ (List.mem_of_getElem? (i := 105) rfl)
theorem w106 {Z : State} {a0 : Array Value} (hw : Hw Z a0) : (Jvm.Cond.code ({ cls := "java/lang/StringBuilder", name := "length", desc := "()I" } : Jvm.MethodName) jdk_67_method_93_code (1 : Nat) (Option.some Jvm.ClassFile.FieldType.int)).before a0 Z = true := hw _ (List.mem_of_getElem? (i := 106) rfl)
theorem w107 {Z : State} {a0 : Array Value} (hw : Hw Z a0) : (Jvm.Cond.methodLink "java/lang/StringBuilder" (343 : Nat) ({ cls := "java/lang/AbstractStringBuilder", name := "length", desc := "()I" } : Jvm.MethodName)).before a0 Z = true := hw _ (List.mem_of_getElem? (i := 107) rfl)
theorem w108 {Z : State} {a0 : Array Value} (hw : Hw Z a0) : (Jvm.Cond.instanceMethod ({ cls := "java/lang/AbstractStringBuilder", name := "length", desc := "()I" } : Jvm.MethodName)).before a0 Z = true := hw _ (List.mem_of_getElem? (i := 108) rfl)
theorem w109 {Z : State} {a0 : Array Value} (hw : Hw Z a0) : (Jvm.Cond.superclass "java/lang/StringBuilder" "java/lang/AbstractStringBuilder").before a0 Z = true := hw _ (List.mem_of_getElem? (i := 109) rfl)
theorem w110 {Z : State} {a0 : Array Value} (hw : Hw Z a0) : (Jvm.Cond.declares ({ cls := "java/lang/AbstractStringBuilder", name := "length", desc := "()I" } : Jvm.MethodName)).before a0 Z = true := hw _ (List.mem_of_getElem? (i := 110) rfl)
theorem w111 {Z : State} {a0 : Array Value} (hw : Hw Z a0) : (Jvm.Cond.code ({ cls := "java/lang/AbstractStringBuilder", name := "length", desc := "()I" } : Jvm.MethodName) jdk_68_method_6_code (1 : Nat) (Option.some Jvm.ClassFile.FieldType.int)).before a0 Z = true := hw _ (List.mem_of_getElem? (i := 111) rfl)
theorem w112 {Z : State} {a0 : Array Value} (hw : Hw Z a0) : (Jvm.Cond.fieldLink "java/lang/AbstractStringBuilder" (79 : Nat) "java/lang/AbstractStringBuilder" "count" "I").before a0 Z = true := hw _ (List.mem_of_getElem? (i := 112) rfl)
theorem w113 {Z : State} {a0 : Array Value} (hw : Hw Z a0) : (Jvm.Cond.lays "java/lang/StringBuilder" "java/lang/AbstractStringBuilder" "count" "I").before a0 Z = true := hw _ (List.mem_of_getElem? (i := 113) rfl)
theorem w114 {Z : State} {a0 : Array Value} (hw : Hw Z a0) : (Jvm.Cond.methodLink "com/example/udfyld/udfyld/Normaliser" (19 : Nat) ({ cls := "java/util/Optional", name := "empty", desc := "()Ljava/util/Optional;" } : Jvm.MethodName)).before a0 Z = true := hw _ (List.mem_of_getElem? (i := 114) rfl)
theorem w115 {Z : State} {a0 : Array Value} (hw : Hw Z a0) : (Jvm.Cond.static ({ cls := "java/util/Optional", name := "empty", desc := "()Ljava/util/Optional;" } : Jvm.MethodName)).before a0 Z = true := hw _ (List.mem_of_getElem? (i := 115) rfl)
theorem w116 {Z : State} {a0 : Array Value} (hw : Hw Z a0) : (Jvm.Cond.initialized "java/util/Optional").before a0 Z = true := hw _ (List.mem_of_getElem? (i := 116) rfl)
theorem w117 {Z : State} {a0 : Array Value} (hw : Hw Z a0) : (Jvm.Cond.code ({ cls := "java/util/Optional", name := "empty", desc := "()Ljava/util/Optional;" } : Jvm.MethodName) jdk_32_method_1_code (1 : Nat) (Option.some (Jvm.ClassFile.FieldType.object "java/util/Optional"))).before a0 Z = true := hw _ (List.mem_of_getElem? (i := 117) rfl)
theorem w118 {Z : State} {a0 : Array Value} (hw : Hw Z a0) : (Jvm.Cond.fieldLink "java/util/Optional" (1 : Nat) "java/util/Optional" "EMPTY" "Ljava/util/Optional;").before a0 Z = true := hw _ (List.mem_of_getElem? (i := 118) rfl)
theorem w119 {Z : State} {a0 : Array Value} (hw : Hw Z a0) : (Jvm.Cond.methodLink "com/example/udfyld/udfyld/NormaliserQueryPinLaw" (35 : Nat) ({ cls := "java/util/Optional", name := "isPresent", desc := "()Z" } : Jvm.MethodName)).before a0 Z = true := hw _ (List.mem_of_getElem? (i := 119) rfl)
theorem w120 {Z : State} {a0 : Array Value} (hw : Hw Z a0) : (Jvm.Cond.declares ({ cls := "java/util/Optional", name := "isPresent", desc := "()Z" } : Jvm.MethodName)).before a0 Z = true := hw _ (List.mem_of_getElem? (i := 120) rfl)
theorem w121 {Z : State} {a0 : Array Value} (hw : Hw Z a0) : (Jvm.Cond.instanceMethod ({ cls := "java/util/Optional", name := "isPresent", desc := "()Z" } : Jvm.MethodName)).before a0 Z = true := hw _ (List.mem_of_getElem? (i := 121) rfl)
theorem w122 {Z : State} {a0 : Array Value} (hw : Hw Z a0) : (Jvm.Cond.selects "java/util/Optional" ({ cls := "java/util/Optional", name := "isPresent", desc := "()Z" } : Jvm.MethodName) ({ cls := "java/util/Optional", name := "isPresent", desc := "()Z" } : Jvm.MethodName)).before a0 Z = true := hw _ (List.mem_of_getElem? (i := 122) rfl)
theorem w123 {Z : State} {a0 : Array Value} (hw : Hw Z a0) : (Jvm.Cond.code ({ cls := "java/util/Optional", name := "isPresent", desc := "()Z" } : Jvm.MethodName) jdk_32_method_6_code (1 : Nat) (Option.some Jvm.ClassFile.FieldType.boolean)).before a0 Z = true := hw _ (List.mem_of_getElem? (i := 123) rfl)
theorem w124 {Z : State} {a0 : Array Value} (hw : Hw Z a0) : (Jvm.Cond.fieldLink "java/util/Optional" (13 : Nat) "java/util/Optional" "value" "Ljava/lang/Object;").before a0 Z = true := hw _ (List.mem_of_getElem? (i := 124) rfl)
theorem w125 {Z : State} {a0 : Array Value} (hw : Hw Z a0) : (Jvm.Cond.laysFinal "java/util/Optional" "java/util/Optional" "value" "Ljava/lang/Object;").before a0 Z = true := hw _ (List.mem_of_getElem? (i := 125) rfl)
theorem w126 {Z : State} {a0 : Array Value} (hw : Hw Z a0) : (Jvm.Cond.methodLink "com/example/udfyld/udfyld/Normaliser" (56 : Nat) ({ cls := "com/example/udfyld/udfyld/Normaliser", name := "append", desc := "(Ljava/lang/StringBuilder;C)Z" } : Jvm.MethodName)).before a0 Z = true := hw _ (List.mem_of_getElem? (i := 126) rfl)
theorem w127 {Z : State} {a0 : Array Value} (hw : Hw Z a0) : (Jvm.Cond.static ({ cls := "com/example/udfyld/udfyld/Normaliser", name := "append", desc := "(Ljava/lang/StringBuilder;C)Z" } : Jvm.MethodName)).before a0 Z = true := hw _ (List.mem_of_getElem? (i := 127) rfl)
theorem w128 {Z : State} {a0 : Array Value} (hw : Hw Z a0) : (Jvm.Cond.code ({ cls := "com/example/udfyld/udfyld/Normaliser", name := "append", desc := "(Ljava/lang/StringBuilder;C)Z" } : Jvm.MethodName) prog_12_method_5_code (2 : Nat) (Option.some Jvm.ClassFile.FieldType.boolean)).before a0 Z = true := hw _ (List.mem_of_getElem? (i := 128) rfl)
theorem w129 {Z : State} {a0 : Array Value} (hw : Hw Z a0) : (Jvm.Cond.methodLink "com/example/udfyld/udfyld/Normaliser" (52 : Nat) ({ cls := "java/lang/StringBuilder", name := "append", desc := "(C)Ljava/lang/StringBuilder;" } : Jvm.MethodName)).before a0 Z = true := hw _ (List.mem_of_getElem? (i := 129) rfl)
theorem w130 {Z : State} {a0 : Array Value} (hw : Hw Z a0) : (Jvm.Cond.declares ({ cls := "java/lang/StringBuilder", name := "append", desc := "(C)Ljava/lang/StringBuilder;" } : Jvm.MethodName)).before a0 Z = true := hw _ (List.mem_of_getElem? (i := 130) rfl)
theorem w131 {Z : State} {a0 : Array Value} (hw : Hw Z a0) : (Jvm.Cond.instanceMethod ({ cls := "java/lang/StringBuilder", name := "append", desc := "(C)Ljava/lang/StringBuilder;" } : Jvm.MethodName)).before a0 Z = true := hw _ (List.mem_of_getElem? (i := 131) rfl)
theorem w132 {Z : State} {a0 : Array Value} (hw : Hw Z a0) : (Jvm.Cond.selects "java/lang/StringBuilder" ({ cls := "java/lang/StringBuilder", name := "append", desc := "(C)Ljava/lang/StringBuilder;" } : Jvm.MethodName) ({ cls := "java/lang/StringBuilder", name := "append", desc := "(C)Ljava/lang/StringBuilder;" } : Jvm.MethodName)).before a0 Z = true := hw _ (List.mem_of_getElem? (i := 132) rfl)
theorem w133 {Z : State} {a0 : Array Value} (hw : Hw Z a0) : (Jvm.Cond.code ({ cls := "java/lang/StringBuilder", name := "append", desc := "(C)Ljava/lang/StringBuilder;" } : Jvm.MethodName) jdk_67_method_14_code (2 : Nat) (Option.some (Jvm.ClassFile.FieldType.object "java/lang/StringBuilder"))).before a0 Z = true := hw _ (List.mem_of_getElem? (i := 133) rfl)
theorem w134 {Z : State} {a0 : Array Value} (hw : Hw Z a0) : (Jvm.Cond.methodLink "java/lang/StringBuilder" (50 : Nat) ({ cls := "java/lang/AbstractStringBuilder", name := "append", desc := "(C)Ljava/lang/AbstractStringBuilder;" } : Jvm.MethodName)).before a0 Z = true := hw _ (List.mem_of_getElem? (i := 134) rfl)
theorem w135 {Z : State} {a0 : Array Value} (hw : Hw Z a0) : (Jvm.Cond.instanceMethod ({ cls := "java/lang/AbstractStringBuilder", name := "append", desc := "(C)Ljava/lang/AbstractStringBuilder;" } : Jvm.MethodName)).before a0 Z = true := hw _ (List.mem_of_getElem? (i := 135) rfl)
theorem w137 {Z : State} {a0 : Array Value} (hw : Hw Z a0) : (Jvm.Cond.code ({ cls := "java/lang/AbstractStringBuilder", name := "append", desc := "(C)Ljava/lang/AbstractStringBuilder;" } : Jvm.MethodName) jdk_68_method_31_code (2 : Nat) (Option.some (Jvm.ClassFile.FieldType.object "java/lang/AbstractStringBuilder"))).before a0 Z = true := hw _ (List.mem_of_getElem? (i := 137) rfl)
theorem w138 {Z : State} {a0 : Array Value} (hw : Hw Z a0) : (Jvm.Cond.methodLink "java/lang/AbstractStringBuilder" (100 : Nat) ({ cls := "java/lang/AbstractStringBuilder", name := "ensureCapacityInternal", desc := "(I)V" } : Jvm.MethodName)).before a0 Z = true := hw _ (List.mem_of_getElem? (i := 138) rfl)
theorem w139 {Z : State} {a0 : Array Value} (hw : Hw Z a0) : (Jvm.Cond.instanceMethod ({ cls := "java/lang/AbstractStringBuilder", name := "ensureCapacityInternal", desc := "(I)V" } : Jvm.MethodName)).before a0 Z = true := hw _ (List.mem_of_getElem? (i := 139) rfl)
theorem w141 {Z : State} {a0 : Array Value} (hw : Hw Z a0) : (Jvm.Cond.selects "java/lang/StringBuilder" ({ cls := "java/lang/AbstractStringBuilder", name := "ensureCapacityInternal", desc := "(I)V" } : Jvm.MethodName) ({ cls := "java/lang/AbstractStringBuilder", name := "ensureCapacityInternal", desc := "(I)V" } : Jvm.MethodName)).before a0 Z = true := hw _ (List.mem_of_getElem? (i := 141) rfl)
theorem w142 {Z : State} {a0 : Array Value} (hw : Hw Z a0) : (Jvm.Cond.code ({ cls := "java/lang/AbstractStringBuilder", name := "ensureCapacityInternal", desc := "(I)V" } : Jvm.MethodName) jdk_68_method_9_code (3 : Nat) (Option.none : Option Jvm.ClassFile.FieldType)).before a0 Z = true := hw _ (List.mem_of_getElem? (i := 142) rfl)
theorem w143 {Z : State} {a0 : Array Value} (hw : Hw Z a0) : (Jvm.Cond.methodLink "java/lang/AbstractStringBuilder" (83 : Nat) ({ cls := "java/lang/AbstractStringBuilder", name := "isLatin1", desc := "()Z" } : Jvm.MethodName)).before a0 Z = true := hw _ (List.mem_of_getElem? (i := 143) rfl)
theorem w144 {Z : State} {a0 : Array Value} (hw : Hw Z a0) : (Jvm.Cond.declares ({ cls := "java/lang/AbstractStringBuilder", name := "isLatin1", desc := "()Z" } : Jvm.MethodName)).before a0 Z = true := hw _ (List.mem_of_getElem? (i := 144) rfl)
theorem w145 {Z : State} {a0 : Array Value} (hw : Hw Z a0) : (Jvm.Cond.instanceMethod ({ cls := "java/lang/AbstractStringBuilder", name := "isLatin1", desc := "()Z" } : Jvm.MethodName)).before a0 Z = true := hw _ (List.mem_of_getElem? (i := 145) rfl)
theorem w146 {Z : State} {a0 : Array Value} (hw : Hw Z a0) : (Jvm.Cond.selects "java/lang/StringBuilder" ({ cls := "java/lang/AbstractStringBuilder", name := "isLatin1", desc := "()Z" } : Jvm.MethodName) ({ cls := "java/lang/AbstractStringBuilder", name := "isLatin1", desc := "()Z" } : Jvm.MethodName)).before a0 Z = true := hw _ (List.mem_of_getElem? (i := 146) rfl)
theorem w147 {Z : State} {a0 : Array Value} (hw : Hw Z a0) : (Jvm.Cond.code ({ cls := "java/lang/AbstractStringBuilder", name := "isLatin1", desc := "()Z" } : Jvm.MethodName) jdk_68_method_68_code (1 : Nat) (Option.some Jvm.ClassFile.FieldType.boolean)).before a0 Z = true := hw _ (List.mem_of_getElem? (i := 147) rfl)
theorem w148 {Z : State} {a0 : Array Value} (hw : Hw Z a0) : (Jvm.Cond.methodLink "java/lang/AbstractStringBuilder" (191 : Nat) ({ cls := "java/lang/StringLatin1", name := "canEncode", desc := "(C)Z" } : Jvm.MethodName)).before a0 Z = true := hw _ (List.mem_of_getElem? (i := 148) rfl)
theorem w149 {Z : State} {a0 : Array Value} (hw : Hw Z a0) : (Jvm.Cond.static ({ cls := "java/lang/StringLatin1", name := "canEncode", desc := "(C)Z" } : Jvm.MethodName)).before a0 Z = true := hw _ (List.mem_of_getElem? (i := 149) rfl)
theorem w150 {Z : State} {a0 : Array Value} (hw : Hw Z a0) : (Jvm.Cond.code ({ cls := "java/lang/StringLatin1", name := "canEncode", desc := "(C)Z" } : Jvm.MethodName) jdk_43_method_3_code (1 : Nat) (Option.some Jvm.ClassFile.FieldType.boolean)).before a0 Z = true := hw _ (List.mem_of_getElem? (i := 150) rfl)
theorem w151 {Z : State} {a0 : Array Value} (hw : Hw Z a0) : (Jvm.Cond.methodLink "com/example/udfyld/udfyld/Normaliser" (59 : Nat) ({ cls := "java/lang/StringBuilder", name := "toString", desc := "()Ljava/lang/String;" } : Jvm.MethodName)).before a0 Z = true := hw _ (List.mem_of_getElem? (i := 151) rfl)
theorem w152 {Z : State} {a0 : Array Value} (hw : Hw Z a0) : (Jvm.Cond.declares ({ cls := "java/lang/StringBuilder", name := "toString", desc := "()Ljava/lang/String;" } : Jvm.MethodName)).before a0 Z = true := hw _ (List.mem_of_getElem? (i := 152) rfl)
theorem w153 {Z : State} {a0 : Array Value} (hw : Hw Z a0) : (Jvm.Cond.instanceMethod ({ cls := "java/lang/StringBuilder", name := "toString", desc := "()Ljava/lang/String;" } : Jvm.MethodName)).before a0 Z = true := hw _ (List.mem_of_getElem? (i := 153) rfl)
theorem w154 {Z : State} {a0 : Array Value} (hw : Hw Z a0) : (Jvm.Cond.selects "java/lang/StringBuilder" ({ cls := "java/lang/StringBuilder", name := "toString", desc := "()Ljava/lang/String;" } : Jvm.MethodName) ({ cls := "java/lang/StringBuilder", name := "toString", desc := "()Ljava/lang/String;" } : Jvm.MethodName)).before a0 Z = true := hw _ (List.mem_of_getElem? (i := 154) rfl)
theorem w155 {Z : State} {a0 : Array Value} (hw : Hw Z a0) : (Jvm.Cond.code ({ cls := "java/lang/StringBuilder", name := "toString", desc := "()Ljava/lang/String;" } : Jvm.MethodName) jdk_67_method_42_code (1 : Nat) (Option.some (Jvm.ClassFile.FieldType.object "java/lang/String"))).before a0 Z = true := hw _ (List.mem_of_getElem? (i := 155) rfl)
theorem w156 {Z : State} {a0 : Array Value} (hw : Hw Z a0) : (Jvm.Cond.classLink "java/lang/StringBuilder" (18 : Nat) "java/lang/String").before a0 Z = true := hw _ (List.mem_of_getElem? (i := 156) rfl)
theorem w157 {Z : State} {a0 : Array Value} (hw : Hw Z a0) : (Jvm.Cond.methodLink "java/lang/StringBuilder" (137 : Nat) ({ cls := "java/lang/String", name := "<init>", desc := "(Ljava/lang/StringBuilder;)V" } : Jvm.MethodName)).before a0 Z = true := hw _ (List.mem_of_getElem? (i := 157) rfl)
theorem w158 {Z : State} {a0 : Array Value} (hw : Hw Z a0) : (Jvm.Cond.instanceMethod ({ cls := "java/lang/String", name := "<init>", desc := "(Ljava/lang/StringBuilder;)V" } : Jvm.MethodName)).before a0 Z = true := hw _ (List.mem_of_getElem? (i := 158) rfl)
theorem w159 {Z : State} {a0 : Array Value} (hw : Hw Z a0) : (Jvm.Cond.code ({ cls := "java/lang/String", name := "<init>", desc := "(Ljava/lang/StringBuilder;)V" } : Jvm.MethodName) jdk_42_method_53_code (2 : Nat) (Option.none : Option Jvm.ClassFile.FieldType)).before a0 Z = true := hw _ (List.mem_of_getElem? (i := 159) rfl)
theorem w160 {Z : State} {a0 : Array Value} (hw : Hw Z a0) : (Jvm.Cond.methodLink "java/lang/String" (489 : Nat) ({ cls := "java/lang/String", name := "<init>", desc := "(Ljava/lang/AbstractStringBuilder;Ljava/lang/Void;)V" } : Jvm.MethodName)).before a0 Z = true := hw _ (List.mem_of_getElem? (i := 160) rfl)
theorem w161 {Z : State} {a0 : Array Value} (hw : Hw Z a0) : (Jvm.Cond.instanceMethod ({ cls := "java/lang/String", name := "<init>", desc := "(Ljava/lang/AbstractStringBuilder;Ljava/lang/Void;)V" } : Jvm.MethodName)).before a0 Z = true := hw _ (List.mem_of_getElem? (i := 161) rfl)
theorem w162 {Z : State} {a0 : Array Value} (hw : Hw Z a0) : (Jvm.Cond.code ({ cls := "java/lang/String", name := "<init>", desc := "(Ljava/lang/AbstractStringBuilder;Ljava/lang/Void;)V" } : Jvm.MethodName) jdk_42_method_150_code (5 : Nat) (Option.none : Option Jvm.ClassFile.FieldType)).before a0 Z = true := hw _ (List.mem_of_getElem? (i := 162) rfl)
theorem w163 {Z : State} {a0 : Array Value} (hw : Hw Z a0) : (Jvm.Cond.methodLink "java/lang/String" (552 : Nat) ({ cls := "java/lang/AbstractStringBuilder", name := "getValue", desc := "()[B" } : Jvm.MethodName)).before a0 Z = true := hw _ (List.mem_of_getElem? (i := 163) rfl)
theorem w164 {Z : State} {a0 : Array Value} (hw : Hw Z a0) : (Jvm.Cond.declares ({ cls := "java/lang/AbstractStringBuilder", name := "getValue", desc := "()[B" } : Jvm.MethodName)).before a0 Z = true := hw _ (List.mem_of_getElem? (i := 164) rfl)
theorem w165 {Z : State} {a0 : Array Value} (hw : Hw Z a0) : (Jvm.Cond.instanceMethod ({ cls := "java/lang/AbstractStringBuilder", name := "getValue", desc := "()[B" } : Jvm.MethodName)).before a0 Z = true := hw _ (List.mem_of_getElem? (i := 165) rfl)
theorem w166 {Z : State} {a0 : Array Value} (hw : Hw Z a0) : (Jvm.Cond.selects "java/lang/StringBuilder" ({ cls := "java/lang/AbstractStringBuilder", name := "getValue", desc := "()[B" } : Jvm.MethodName) ({ cls := "java/lang/AbstractStringBuilder", name := "getValue", desc := "()[B" } : Jvm.MethodName)).before a0 Z = true := hw _ (List.mem_of_getElem? (i := 166) rfl)
theorem w167 {Z : State} {a0 : Array Value} (hw : Hw Z a0) : (Jvm.Cond.code ({ cls := "java/lang/AbstractStringBuilder", name := "getValue", desc := "()[B" } : Jvm.MethodName) jdk_68_method_64_code (1 : Nat) (Option.some (Jvm.ClassFile.FieldType.array Jvm.ClassFile.FieldType.byte))).before a0 Z = true := hw _ (List.mem_of_getElem? (i := 167) rfl)
theorem w168 {Z : State} {a0 : Array Value} (hw : Hw Z a0) : (Jvm.Cond.methodLink "java/lang/String" (549 : Nat) ({ cls := "java/lang/AbstractStringBuilder", name := "length", desc := "()I" } : Jvm.MethodName)).before a0 Z = true := hw _ (List.mem_of_getElem? (i := 168) rfl)
theorem w169 {Z : State} {a0 : Array Value} (hw : Hw Z a0) : (Jvm.Cond.selects "java/lang/StringBuilder" ({ cls := "java/lang/AbstractStringBuilder", name := "length", desc := "()I" } : Jvm.MethodName) ({ cls := "java/lang/StringBuilder", name := "length", desc := "()I" } : Jvm.MethodName)).before a0 Z = true := hw _ (List.mem_of_getElem? (i := 169) rfl)
theorem w170 {Z : State} {a0 : Array Value} (hw : Hw Z a0) : (Jvm.Cond.methodLink "java/lang/String" (1047 : Nat) ({ cls := "java/lang/AbstractStringBuilder", name := "isLatin1", desc := "()Z" } : Jvm.MethodName)).before a0 Z = true := hw _ (List.mem_of_getElem? (i := 170) rfl)
theorem w171 {Z : State} {a0 : Array Value} (hw : Hw Z a0) : (Jvm.Cond.methodLink "java/lang/String" (54 : Nat) ({ cls := "java/util/Arrays", name := "copyOfRange", desc := "([BII)[B" } : Jvm.MethodName)).before a0 Z = true := hw _ (List.mem_of_getElem? (i := 171) rfl)
theorem w172 {Z : State} {a0 : Array Value} (hw : Hw Z a0) : (Jvm.Cond.static ({ cls := "java/util/Arrays", name := "copyOfRange", desc := "([BII)[B" } : Jvm.MethodName)).before a0 Z = true := hw _ (List.mem_of_getElem? (i := 172) rfl)
theorem w173 {Z : State} {a0 : Array Value} (hw : Hw Z a0) : (Jvm.Cond.initialized "java/util/Arrays").before a0 Z = true := hw _ (List.mem_of_getElem? (i := 173) rfl)
theorem w174 {Z : State} {a0 : Array Value} (hw : Hw Z a0) : (Jvm.Cond.code ({ cls := "java/util/Arrays", name := "copyOfRange", desc := "([BII)[B" } : Jvm.MethodName) jdk_65_method_132_code (3 : Nat) (Option.some (Jvm.ClassFile.FieldType.array Jvm.ClassFile.FieldType.byte))).before a0 Z = true := hw _ (List.mem_of_getElem? (i := 174) rfl)
theorem w175 {Z : State} {a0 : Array Value} (hw : Hw Z a0) : (Jvm.Cond.methodLink "java/util/Arrays" (339 : Nat) ({ cls := "java/util/Arrays", name := "copyOfRangeByte", desc := "([BII)[B" } : Jvm.MethodName)).before a0 Z = true := hw _ (List.mem_of_getElem? (i := 175) rfl)
theorem w176 {Z : State} {a0 : Array Value} (hw : Hw Z a0) : (Jvm.Cond.static ({ cls := "java/util/Arrays", name := "copyOfRangeByte", desc := "([BII)[B" } : Jvm.MethodName)).before a0 Z = true := hw _ (List.mem_of_getElem? (i := 176) rfl)
theorem w177 {Z : State} {a0 : Array Value} (hw : Hw Z a0) : (Jvm.Cond.code ({ cls := "java/util/Arrays", name := "copyOfRangeByte", desc := "([BII)[B" } : Jvm.MethodName) jdk_65_method_133_code (5 : Nat) (Option.some (Jvm.ClassFile.FieldType.array Jvm.ClassFile.FieldType.byte))).before a0 Z = true := hw _ (List.mem_of_getElem? (i := 177) rfl)
theorem w178 {Z : State} {a0 : Array Value} (hw : Hw Z a0) : (Jvm.Cond.methodLink "java/util/Arrays" (343 : Nat) ({ cls := "java/util/Arrays", name := "checkLength", desc := "(II)V" } : Jvm.MethodName)).before a0 Z = true := hw _ (List.mem_of_getElem? (i := 178) rfl)
theorem w179 {Z : State} {a0 : Array Value} (hw : Hw Z a0) : (Jvm.Cond.static ({ cls := "java/util/Arrays", name := "checkLength", desc := "(II)V" } : Jvm.MethodName)).before a0 Z = true := hw _ (List.mem_of_getElem? (i := 179) rfl)
theorem w180 {Z : State} {a0 : Array Value} (hw : Hw Z a0) : (Jvm.Cond.code ({ cls := "java/util/Arrays", name := "checkLength", desc := "(II)V" } : Jvm.MethodName) jdk_65_method_131_code (2 : Nat) (Option.none : Option Jvm.ClassFile.FieldType)).before a0 Z = true := hw _ (List.mem_of_getElem? (i := 180) rfl)
theorem w181 {Z : State} {a0 : Array Value} (hw : Hw Z a0) : (Jvm.Cond.methodLink "java/util/Arrays" (304 : Nat) ({ cls := "java/lang/Math", name := "min", desc := "(II)I" } : Jvm.MethodName)).before a0 Z = true := hw _ (List.mem_of_getElem? (i := 181) rfl)
theorem w182 {Z : State} {a0 : Array Value} (hw : Hw Z a0) : (Jvm.Cond.methodLink "java/util/Arrays" (150 : Nat) ({ cls := "java/lang/System", name := "arraycopy", desc := "(Ljava/lang/Object;ILjava/lang/Object;II)V" } : Jvm.MethodName)).before a0 Z = true := hw _ (List.mem_of_getElem? (i := 182) rfl)
theorem w183 {Z : State} {a0 : Array Value} (hw : Hw Z a0) : (Jvm.Cond.static ({ cls := "java/lang/System", name := "arraycopy", desc := "(Ljava/lang/Object;ILjava/lang/Object;II)V" } : Jvm.MethodName)).before a0 Z = true := hw _ (List.mem_of_getElem? (i := 183) rfl)
theorem w184 {Z : State} {a0 : Array Value} (hw : Hw Z a0) : (Jvm.Cond.initialized "java/lang/System").before a0 Z = true := hw _ (List.mem_of_getElem? (i := 184) rfl)
theorem w185 {Z : State} {a0 : Array Value} (hw : Hw Z a0) : (Jvm.Cond.native ({ cls := "java/lang/System", name := "arraycopy", desc := "(Ljava/lang/Object;ILjava/lang/Object;II)V" } : Jvm.MethodName)).before a0 Z = true := hw _ (List.mem_of_getElem? (i := 185) rfl)
theorem w186 {Z : State} {a0 : Array Value} (hw : Hw Z a0) : (Jvm.Cond.methodLink "com/example/udfyld/udfyld/Normaliser" (13 : Nat) ({ cls := "java/lang/String", name := "isEmpty", desc := "()Z" } : Jvm.MethodName)).before a0 Z = true := hw _ (List.mem_of_getElem? (i := 186) rfl)
theorem w187 {Z : State} {a0 : Array Value} (hw : Hw Z a0) : (Jvm.Cond.declares ({ cls := "java/lang/String", name := "isEmpty", desc := "()Z" } : Jvm.MethodName)).before a0 Z = true := hw _ (List.mem_of_getElem? (i := 187) rfl)
theorem w188 {Z : State} {a0 : Array Value} (hw : Hw Z a0) : (Jvm.Cond.instanceMethod ({ cls := "java/lang/String", name := "isEmpty", desc := "()Z" } : Jvm.MethodName)).before a0 Z = true := hw _ (List.mem_of_getElem? (i := 188) rfl)
theorem w189 {Z : State} {a0 : Array Value} (hw : Hw Z a0) : (Jvm.Cond.selects "java/lang/String" ({ cls := "java/lang/String", name := "isEmpty", desc := "()Z" } : Jvm.MethodName) ({ cls := "java/lang/String", name := "isEmpty", desc := "()Z" } : Jvm.MethodName)).before a0 Z = true := hw _ (List.mem_of_getElem? (i := 189) rfl)
theorem w190 {Z : State} {a0 : Array Value} (hw : Hw Z a0) : (Jvm.Cond.code ({ cls := "java/lang/String", name := "isEmpty", desc := "()Z" } : Jvm.MethodName) jdk_42_method_55_code (1 : Nat) (Option.some Jvm.ClassFile.FieldType.boolean)).before a0 Z = true := hw _ (List.mem_of_getElem? (i := 190) rfl)
theorem w191 {Z : State} {a0 : Array Value} (hw : Hw Z a0) : (Jvm.Cond.methodLink "com/example/udfyld/udfyld/Normaliser" (25 : Nat) ({ cls := "java/util/Optional", name := "of", desc := "(Ljava/lang/Object;)Ljava/util/Optional;" } : Jvm.MethodName)).before a0 Z = true := hw _ (List.mem_of_getElem? (i := 191) rfl)
theorem w192 {Z : State} {a0 : Array Value} (hw : Hw Z a0) : (Jvm.Cond.static ({ cls := "java/util/Optional", name := "of", desc := "(Ljava/lang/Object;)Ljava/util/Optional;" } : Jvm.MethodName)).before a0 Z = true := hw _ (List.mem_of_getElem? (i := 192) rfl)
theorem w193 {Z : State} {a0 : Array Value} (hw : Hw Z a0) : (Jvm.Cond.code ({ cls := "java/util/Optional", name := "of", desc := "(Ljava/lang/Object;)Ljava/util/Optional;" } : Jvm.MethodName) jdk_32_method_3_code (1 : Nat) (Option.some (Jvm.ClassFile.FieldType.object "java/util/Optional"))).before a0 Z = true := hw _ (List.mem_of_getElem? (i := 193) rfl)
theorem w194 {Z : State} {a0 : Array Value} (hw : Hw Z a0) : (Jvm.Cond.classLink "java/util/Optional" (2 : Nat) "java/util/Optional").before a0 Z = true := hw _ (List.mem_of_getElem? (i := 194) rfl)
theorem w195 {Z : State} {a0 : Array Value} (hw : Hw Z a0) : (Jvm.Cond.instantiable "java/util/Optional" (1 : Nat)).before a0 Z = true := hw _ (List.mem_of_getElem? (i := 195) rfl)
theorem w196 {Z : State} {a0 : Array Value} (hw : Hw Z a0) : (Jvm.Cond.methodLink "java/util/Optional" (17 : Nat) ({ cls := "java/util/Objects", name := "requireNonNull", desc := "(Ljava/lang/Object;)Ljava/lang/Object;" } : Jvm.MethodName)).before a0 Z = true := hw _ (List.mem_of_getElem? (i := 196) rfl)
theorem w197 {Z : State} {a0 : Array Value} (hw : Hw Z a0) : (Jvm.Cond.static ({ cls := "java/util/Objects", name := "requireNonNull", desc := "(Ljava/lang/Object;)Ljava/lang/Object;" } : Jvm.MethodName)).before a0 Z = true := hw _ (List.mem_of_getElem? (i := 197) rfl)
theorem w198 {Z : State} {a0 : Array Value} (hw : Hw Z a0) : (Jvm.Cond.initialized "java/util/Objects").before a0 Z = true := hw _ (List.mem_of_getElem? (i := 198) rfl)
theorem w199 {Z : State} {a0 : Array Value} (hw : Hw Z a0) : (Jvm.Cond.code ({ cls := "java/util/Objects", name := "requireNonNull", desc := "(Ljava/lang/Object;)Ljava/lang/Object;" } : Jvm.MethodName) jdk_31_method_10_code (1 : Nat) (Option.some (Jvm.ClassFile.FieldType.object "java/lang/Object"))).before a0 Z = true := hw _ (List.mem_of_getElem? (i := 199) rfl)
theorem w200 {Z : State} {a0 : Array Value} (hw : Hw Z a0) : (Jvm.Cond.methodLink "java/util/Optional" (23 : Nat) ({ cls := "java/util/Optional", name := "<init>", desc := "(Ljava/lang/Object;)V" } : Jvm.MethodName)).before a0 Z = true := hw _ (List.mem_of_getElem? (i := 200) rfl)
theorem w201 {Z : State} {a0 : Array Value} (hw : Hw Z a0) : (Jvm.Cond.instanceMethod ({ cls := "java/util/Optional", name := "<init>", desc := "(Ljava/lang/Object;)V" } : Jvm.MethodName)).before a0 Z = true := hw _ (List.mem_of_getElem? (i := 201) rfl)
theorem w203 {Z : State} {a0 : Array Value} (hw : Hw Z a0) : (Jvm.Cond.code ({ cls := "java/util/Optional", name := "<init>", desc := "(Ljava/lang/Object;)V" } : Jvm.MethodName) jdk_32_method_2_code (2 : Nat) (Option.none : Option Jvm.ClassFile.FieldType)).before a0 Z = true := hw _ (List.mem_of_getElem? (i := 203) rfl)
theorem w204 {Z : State} {a0 : Array Value} (hw : Hw Z a0) : (Jvm.Cond.methodLink "java/util/Optional" (7 : Nat) ({ cls := "java/lang/Object", name := "<init>", desc := "()V" } : Jvm.MethodName)).before a0 Z = true := hw _ (List.mem_of_getElem? (i := 204) rfl)
theorem w205 {Z : State} {a0 : Array Value} (hw : Hw Z a0) : (Jvm.Cond.methodLink "com/example/udfyld/udfyld/NormaliserQueryPinLaw" (41 : Nat) ({ cls := "java/util/Optional", name := "get", desc := "()Ljava/lang/Object;" } : Jvm.MethodName)).before a0 Z = true := hw _ (List.mem_of_getElem? (i := 205) rfl)
theorem w206 {Z : State} {a0 : Array Value} (hw : Hw Z a0) : (Jvm.Cond.declares ({ cls := "java/util/Optional", name := "get", desc := "()Ljava/lang/Object;" } : Jvm.MethodName)).before a0 Z = true := hw _ (List.mem_of_getElem? (i := 206) rfl)
theorem w207 {Z : State} {a0 : Array Value} (hw : Hw Z a0) : (Jvm.Cond.instanceMethod ({ cls := "java/util/Optional", name := "get", desc := "()Ljava/lang/Object;" } : Jvm.MethodName)).before a0 Z = true := hw _ (List.mem_of_getElem? (i := 207) rfl)
theorem w208 {Z : State} {a0 : Array Value} (hw : Hw Z a0) : (Jvm.Cond.selects "java/util/Optional" ({ cls := "java/util/Optional", name := "get", desc := "()Ljava/lang/Object;" } : Jvm.MethodName) ({ cls := "java/util/Optional", name := "get", desc := "()Ljava/lang/Object;" } : Jvm.MethodName)).before a0 Z = true := hw _ (List.mem_of_getElem? (i := 208) rfl)
theorem w209 {Z : State} {a0 : Array Value} (hw : Hw Z a0) : (Jvm.Cond.code ({ cls := "java/util/Optional", name := "get", desc := "()Ljava/lang/Object;" } : Jvm.MethodName) jdk_32_method_5_code (1 : Nat) (Option.some (Jvm.ClassFile.FieldType.object "java/lang/Object"))).before a0 Z = true := hw _ (List.mem_of_getElem? (i := 209) rfl)
theorem w210 {Z : State} {a0 : Array Value} (hw : Hw Z a0) : (Jvm.Cond.methodLink "com/example/udfyld/udfyld/NormaliserQueryPinLaw" (45 : Nat) ({ cls := "java/lang/String", name := "length", desc := "()I" } : Jvm.MethodName)).before a0 Z = true := hw _ (List.mem_of_getElem? (i := 210) rfl)
theorem w211 {Z : State} {a0 : Array Value} (hw : Hw Z a0) : (Jvm.Cond.methodLink "com/example/udfyld/udfyld/NormaliserQueryPinLaw" (13 : Nat) ({ cls := "java/lang/String", name := "charAt", desc := "(I)C" } : Jvm.MethodName)).before a0 Z = true := hw _ (List.mem_of_getElem? (i := 211) rfl)
theorem w212 {Z : State} {a0 : Array Value} (hw : Hw Z a0) : (Jvm.Cond.methodLink "com/example/udfyld/udfyld/NormaliserQueryPinLaw" (49 : Nat) ({ cls := "com/example/udfyld/udfyld/NormaliserQueryPinLaw", name := "at", desc := "(Ljava/lang/String;[CIII)Z" } : Jvm.MethodName)).before a0 Z = true := hw _ (List.mem_of_getElem? (i := 212) rfl)
theorem w213 {Z : State} {a0 : Array Value} (hw : Hw Z a0) : (Jvm.Cond.static ({ cls := "com/example/udfyld/udfyld/NormaliserQueryPinLaw", name := "at", desc := "(Ljava/lang/String;[CIII)Z" } : Jvm.MethodName)).before a0 Z = true := hw _ (List.mem_of_getElem? (i := 213) rfl)
theorem w214 {Z : State} {a0 : Array Value} (hw : Hw Z a0) : (Jvm.Cond.code ({ cls := "com/example/udfyld/udfyld/NormaliserQueryPinLaw", name := "at", desc := "(Ljava/lang/String;[CIII)Z" } : Jvm.MethodName) method_5_code (5 : Nat) (Option.some Jvm.ClassFile.FieldType.boolean)).before a0 Z = true := hw _ (List.mem_of_getElem? (i := 214) rfl)
theorem w215 {Z : State} {a0 : Array Value} (hw : Hw Z a0) : (Jvm.Cond.methodLink "java/util/Arrays" (310 : Nat) ({ cls := "[B", name := "clone", desc := "()Ljava/lang/Object;" } : Jvm.MethodName)).before a0 Z = true := hw _ (List.mem_of_getElem? (i := 215) rfl)
theorem w216 {Z : State} {a0 : Array Value} (hw : Hw Z a0) : (Jvm.Cond.sameMethod "[B" "java/lang/Object" "clone" "()Ljava/lang/Object;").before a0 Z = true := hw _ (List.mem_of_getElem? (i := 216) rfl)
theorem w218 {Z : State} {a0 : Array Value} (hw : Hw Z a0) : (Jvm.Cond.instanceMethod ({ cls := "java/lang/Object", name := "clone", desc := "()Ljava/lang/Object;" } : Jvm.MethodName)).before a0 Z = true := hw _ (List.mem_of_getElem? (i := 218) rfl)
theorem w219 {Z : State} {a0 : Array Value} (hw : Hw Z a0) : (Jvm.Cond.selects "[B" ({ cls := "[B", name := "clone", desc := "()Ljava/lang/Object;" } : Jvm.MethodName) ({ cls := "java/lang/Object", name := "clone", desc := "()Ljava/lang/Object;" } : Jvm.MethodName)).before a0 Z = true := hw _ (List.mem_of_getElem? (i := 219) rfl)
theorem w220 {Z : State} {a0 : Array Value} (hw : Hw Z a0) : (Jvm.Cond.native ({ cls := "java/lang/Object", name := "clone", desc := "()Ljava/lang/Object;" } : Jvm.MethodName)).before a0 Z = true := hw _ (List.mem_of_getElem? (i := 220) rfl)
theorem w221 {Z : State} {a0 : Array Value} (hw : Hw Z a0) : (Jvm.Cond.castable "[B" "java/lang/Cloneable").before a0 Z = true := hw _ (List.mem_of_getElem? (i := 221) rfl)
theorem w222 {Z : State} {a0 : Array Value} (hw : Hw Z a0) : (Jvm.Cond.classLink "java/util/Arrays" (311 : Nat) "[B").before a0 Z = true := hw _ (List.mem_of_getElem? (i := 222) rfl)
theorem w223 {Z : State} {a0 : Array Value} (hw : Hw Z a0) : (Jvm.Cond.castable "[B" "[B").before a0 Z = true := hw _ (List.mem_of_getElem? (i := 223) rfl)
theorem pd0 : parseMethodDescriptor "([CI[BII)I" = some ⟨[(.array .char), .int, (.array .byte), .int, .int], some .int⟩ := by decide +kernel
theorem pd1 : parseMethodDescriptor "([CII)[B" = some ⟨[(.array .char), .int, .int], some (.array .byte)⟩ := by decide +kernel
theorem pd2 : parseMethodDescriptor "([BI)B" = some ⟨[(.array .byte), .int], some .byte⟩ := by decide +kernel
theorem pd3 : parseMethodDescriptor "([CIILjava/lang/Void;)V" = some ⟨[(.array .char), .int, .int, (.object "java/lang/Void")], none⟩ := by decide +kernel
theorem pd4 : parseMethodDescriptor "()B" = some ⟨[], some .byte⟩ := by decide +kernel
theorem pd5 : parseMethodDescriptor "(IILjava/util/function/BiFunction;)I" = some ⟨[.int, .int, (.object "java/util/function/BiFunction")], some .int⟩ := by decide +kernel
theorem pd6 : parseMethodDescriptor "(II)V" = some ⟨[.int, .int], none⟩ := by decide +kernel
theorem pd7 : parseMethodDescriptor "()Z" = some ⟨[], some .boolean⟩ := by decide +kernel
theorem pd8 : parseMethodDescriptor "([BI)C" = some ⟨[(.array .byte), .int], some .char⟩ := by decide +kernel
theorem pd9 : parseMethodDescriptor "(I)V" = some ⟨[.int], none⟩ := by decide +kernel
theorem pd10 : parseMethodDescriptor "(C)Z" = some ⟨[.char], some .boolean⟩ := by decide +kernel
theorem pd11 : parseMethodDescriptor "(C)Ljava/lang/AbstractStringBuilder;" = some ⟨[.char], some (.object "java/lang/AbstractStringBuilder")⟩ := by decide +kernel
theorem pd12 : parseMethodDescriptor "()I" = some ⟨[], some .int⟩ := by decide +kernel
theorem pd13 : parseMethodDescriptor "(C)Ljava/lang/StringBuilder;" = some ⟨[.char], some (.object "java/lang/StringBuilder")⟩ := by decide +kernel
theorem pd14 : parseMethodDescriptor "(II)I" = some ⟨[.int, .int], some .int⟩ := by decide +kernel
theorem pd15 : parseMethodDescriptor "([BII)[B" = some ⟨[(.array .byte), .int, .int], some (.array .byte)⟩ := by decide +kernel
theorem pd16 : parseMethodDescriptor "()[B" = some ⟨[], some (.array .byte)⟩ := by decide +kernel
theorem pd17 : parseMethodDescriptor "(Ljava/lang/AbstractStringBuilder;Ljava/lang/Void;)V" = some ⟨[(.object "java/lang/AbstractStringBuilder"), (.object "java/lang/Void")], none⟩ := by decide +kernel
theorem pd18 : parseMethodDescriptor "(Ljava/lang/StringBuilder;)V" = some ⟨[(.object "java/lang/StringBuilder")], none⟩ := by decide +kernel
theorem pd19 : parseMethodDescriptor "()Ljava/lang/String;" = some ⟨[], some (.object "java/lang/String")⟩ := by decide +kernel
theorem pd20 : parseMethodDescriptor "(I)C" = some ⟨[.int], some .char⟩ := by decide +kernel
theorem pd21 : parseMethodDescriptor "(Ljava/lang/StringBuilder;C)Z" = some ⟨[(.object "java/lang/StringBuilder"), .char], some .boolean⟩ := by decide +kernel
theorem pd22 : parseMethodDescriptor "(Ljava/lang/Object;)Ljava/lang/Object;" = some ⟨[(.object "java/lang/Object")], some (.object "java/lang/Object")⟩ := by decide +kernel
theorem pd23 : parseMethodDescriptor "(Ljava/lang/Object;)V" = some ⟨[(.object "java/lang/Object")], none⟩ := by decide +kernel
theorem pd24 : parseMethodDescriptor "(Ljava/lang/String;Z)Ljava/lang/String;" = some ⟨[(.object "java/lang/String"), .boolean], some (.object "java/lang/String")⟩ := by decide +kernel
theorem pd25 : parseMethodDescriptor "()Ljava/util/Optional;" = some ⟨[], some (.object "java/util/Optional")⟩ := by decide +kernel
theorem pd26 : parseMethodDescriptor "(Ljava/lang/Object;)Ljava/util/Optional;" = some ⟨[(.object "java/lang/Object")], some (.object "java/util/Optional")⟩ := by decide +kernel
theorem pd27 : parseMethodDescriptor "([C)V" = some ⟨[(.array .char)], none⟩ := by decide +kernel
theorem pd28 : parseMethodDescriptor "([C[ICI)V" = some ⟨[(.array .char), (.array .int), .char, .int], none⟩ := by decide +kernel
theorem pd29 : parseMethodDescriptor "(Ljava/lang/String;)Ljava/util/Optional;" = some ⟨[(.object "java/lang/String")], some (.object "java/util/Optional")⟩ := by decide +kernel
theorem pd30 : parseMethodDescriptor "()Ljava/lang/Object;" = some ⟨[], some (.object "java/lang/Object")⟩ := by decide +kernel
theorem pd31 : parseMethodDescriptor "(Ljava/lang/String;[CIII)Z" = some ⟨[(.object "java/lang/String"), (.array .char), .int, .int, .int], some .boolean⟩ := by decide +kernel
theorem pn0 : plainFor (⟨"java/lang/StringUTF16", "compress", "([CI[BII)I"⟩ : MethodName) = true := by first | exact plainFor_of_name (by first | (simp [plainName, overriddenIn]; done) | decide +kernel) | decide +kernel
theorem pn1 : plainFor (⟨"java/lang/StringUTF16", "compress", "([CII)[B"⟩ : MethodName) = true := by first | exact plainFor_of_name (by first | (simp [plainName, overriddenIn]; done) | decide +kernel) | decide +kernel
theorem pn2 : plainFor (⟨"java/lang/StringUTF16", "coderFromArrayLen", "([BI)B"⟩ : MethodName) = true := by first | exact plainFor_of_name (by first | (simp [plainName, overriddenIn]; done) | decide +kernel) | decide +kernel
theorem pn3 : plainFor (⟨"java/lang/String", "<init>", "([CIILjava/lang/Void;)V"⟩ : MethodName) = true := by first | exact plainFor_of_name (by first | (simp [plainName, overriddenIn]; done) | decide +kernel) | decide +kernel
theorem pn4 : plainFor (⟨"java/lang/String", "<init>", "([C)V"⟩ : MethodName) = true := by first | exact plainFor_of_name (by first | (simp [plainName, overriddenIn]; done) | decide +kernel) | decide +kernel
theorem pn5 : plainFor (⟨"java/lang/String", "coder", "()B"⟩ : MethodName) = true := by first | exact plainFor_of_name (by first | (simp [plainName, overriddenIn]; done) | decide +kernel) | decide +kernel
theorem pn6 : plainFor (⟨"java/lang/String", "length", "()I"⟩ : MethodName) = true := by first | exact plainFor_of_name (by first | (simp [plainName, overriddenIn]; done) | decide +kernel) | decide +kernel
theorem pn7 : plainFor (⟨"java/lang/String", "isLatin1", "()Z"⟩ : MethodName) = true := by first | exact plainFor_of_name (by first | (simp [plainName, overriddenIn]; done) | decide +kernel) | decide +kernel
theorem pn8 : plainFor (⟨"jdk/internal/util/Preconditions", "checkIndex", "(IILjava/util/function/BiFunction;)I"⟩ : MethodName) = true := by first | exact plainFor_of_name (by first | (simp [plainName, overriddenIn]; done) | decide +kernel) | decide +kernel
theorem pn9 : plainFor (⟨"java/lang/String", "checkIndex", "(II)V"⟩ : MethodName) = true := by first | exact plainFor_of_name (by first | (simp [plainName, overriddenIn]; done) | decide +kernel) | decide +kernel
theorem pn10 : plainFor (⟨"java/lang/StringLatin1", "charAt", "([BI)C"⟩ : MethodName) = true := by first | exact plainFor_of_name (by first | (simp [plainName, overriddenIn]; done) | decide +kernel) | decide +kernel
theorem pn11 : plainFor (⟨"java/lang/String", "charAt", "(I)C"⟩ : MethodName) = true := by first | exact plainFor_of_name (by first | (simp [plainName, overriddenIn]; done) | decide +kernel) | decide +kernel
theorem pn12 : plainFor (⟨"java/lang/Math", "min", "(II)I"⟩ : MethodName) = true := by first | exact plainFor_of_name (by first | (simp [plainName, overriddenIn]; done) | decide +kernel) | decide +kernel
theorem pn13 : plainFor (⟨"java/lang/String", "isEmpty", "()Z"⟩ : MethodName) = true := by first | exact plainFor_of_name (by first | (simp [plainName, overriddenIn]; done) | decide +kernel) | decide +kernel
theorem pn14 : plainFor (⟨"java/lang/AbstractStringBuilder", "<init>", "(I)V"⟩ : MethodName) = true := by first | exact plainFor_of_name (by first | (simp [plainName, overriddenIn]; done) | decide +kernel) | decide +kernel
theorem pn15 : plainFor (⟨"java/lang/StringBuilder", "<init>", "(I)V"⟩ : MethodName) = true := by first | exact plainFor_of_name (by first | (simp [plainName, overriddenIn]; done) | decide +kernel) | decide +kernel
theorem pn16 : plainFor (⟨"java/lang/AbstractStringBuilder", "ensureCapacityInternal", "(I)V"⟩ : MethodName) = true := by first | exact plainFor_of_name (by first | (simp [plainName, overriddenIn]; done) | decide +kernel) | decide +kernel
theorem pn17 : plainFor (⟨"java/lang/AbstractStringBuilder", "isLatin1", "()Z"⟩ : MethodName) = true := by first | exact plainFor_of_name (by first | (simp [plainName, overriddenIn]; done) | decide +kernel) | decide +kernel
theorem pn18 : plainFor (⟨"java/lang/StringLatin1", "canEncode", "(C)Z"⟩ : MethodName) = true := by first | exact plainFor_of_name (by first | (simp [plainName, overriddenIn]; done) | decide +kernel) | decide +kernel
theorem pn19 : plainFor (⟨"java/lang/AbstractStringBuilder", "append", "(C)Ljava/lang/AbstractStringBuilder;"⟩ : MethodName) = true := by first | exact plainFor_of_name (by first | (simp [plainName, overriddenIn]; done) | decide +kernel) | decide +kernel
theorem pn20 : plainFor (⟨"java/lang/StringBuilder", "append", "(C)Ljava/lang/StringBuilder;"⟩ : MethodName) = true := by first | exact plainFor_of_name (by first | (simp [plainName, overriddenIn]; done) | decide +kernel) | decide +kernel
theorem pn21 : plainFor (⟨"java/lang/AbstractStringBuilder", "getValue", "()[B"⟩ : MethodName) = true := by first | exact plainFor_of_name (by first | (simp [plainName, overriddenIn]; done) | decide +kernel) | decide +kernel
theorem pn22 : plainFor (⟨"java/lang/AbstractStringBuilder", "length", "()I"⟩ : MethodName) = true := by first | exact plainFor_of_name (by first | (simp [plainName, overriddenIn]; done) | decide +kernel) | decide +kernel
theorem pn23 : plainFor (⟨"java/lang/StringBuilder", "length", "()I"⟩ : MethodName) = true := by first | exact plainFor_of_name (by first | (simp [plainName, overriddenIn]; done) | decide +kernel) | decide +kernel
theorem pn24 : plainFor (⟨"com/example/udfyld/udfyld/Normaliser", "append", "(Ljava/lang/StringBuilder;C)Z"⟩ : MethodName) = true := by first | exact plainFor_of_name (by first | (simp [plainName, overriddenIn]; done) | decide +kernel) | decide +kernel
theorem pn25 : plainFor (⟨"java/util/Arrays", "checkLength", "(II)V"⟩ : MethodName) = true := by first | exact plainFor_of_name (by first | (simp [plainName, overriddenIn]; done) | decide +kernel) | decide +kernel
theorem pn26 : plainFor (⟨"java/util/Arrays", "copyOfRangeByte", "([BII)[B"⟩ : MethodName) = true := by first | exact plainFor_of_name (by first | (simp [plainName, overriddenIn]; done) | decide +kernel) | decide +kernel
theorem pn27 : plainFor (⟨"java/util/Arrays", "copyOfRange", "([BII)[B"⟩ : MethodName) = true := by first | exact plainFor_of_name (by first | (simp [plainName, overriddenIn]; done) | decide +kernel) | decide +kernel
theorem pn28 : plainFor (⟨"java/lang/String", "<init>", "(Ljava/lang/AbstractStringBuilder;Ljava/lang/Void;)V"⟩ : MethodName) = true := by first | exact plainFor_of_name (by first | (simp [plainName, overriddenIn]; done) | decide +kernel) | decide +kernel
theorem pn29 : plainFor (⟨"java/lang/String", "<init>", "(Ljava/lang/StringBuilder;)V"⟩ : MethodName) = true := by first | exact plainFor_of_name (by first | (simp [plainName, overriddenIn]; done) | decide +kernel) | decide +kernel
theorem pn30 : plainFor (⟨"java/lang/StringBuilder", "toString", "()Ljava/lang/String;"⟩ : MethodName) = true := by first | exact plainFor_of_name (by first | (simp [plainName, overriddenIn]; done) | decide +kernel) | decide +kernel
theorem pn31 : plainFor (⟨"com/example/udfyld/udfyld/Normaliser", "normalise", "(Ljava/lang/String;Z)Ljava/lang/String;"⟩ : MethodName) = true := by first | exact plainFor_of_name (by first | (simp [plainName, overriddenIn]; done) | decide +kernel) | decide +kernel
theorem pn32 : plainFor (⟨"java/util/Optional", "empty", "()Ljava/util/Optional;"⟩ : MethodName) = true := by first | exact plainFor_of_name (by first | (simp [plainName, overriddenIn]; done) | decide +kernel) | decide +kernel
theorem pn33 : plainFor (⟨"java/util/Optional", "isPresent", "()Z"⟩ : MethodName) = true := by first | exact plainFor_of_name (by first | (simp [plainName, overriddenIn]; done) | decide +kernel) | decide +kernel
theorem pn34 : plainFor (⟨"java/util/Optional", "get", "()Ljava/lang/Object;"⟩ : MethodName) = true := by first | exact plainFor_of_name (by first | (simp [plainName, overriddenIn]; done) | decide +kernel) | decide +kernel
theorem pn35 : plainFor (⟨"java/util/Objects", "requireNonNull", "(Ljava/lang/Object;)Ljava/lang/Object;"⟩ : MethodName) = true := by first | exact plainFor_of_name (by first | (simp [plainName, overriddenIn]; done) | decide +kernel) | decide +kernel
theorem pn36 : plainFor (⟨"java/util/Optional", "<init>", "(Ljava/lang/Object;)V"⟩ : MethodName) = true := by first | exact plainFor_of_name (by first | (simp [plainName, overriddenIn]; done) | decide +kernel) | decide +kernel
theorem pn37 : plainFor (⟨"java/util/Optional", "of", "(Ljava/lang/Object;)Ljava/util/Optional;"⟩ : MethodName) = true := by first | exact plainFor_of_name (by first | (simp [plainName, overriddenIn]; done) | decide +kernel) | decide +kernel
theorem pn38 : plainFor (⟨"com/example/udfyld/udfyld/Normaliser", "query", "(Ljava/lang/String;)Ljava/util/Optional;"⟩ : MethodName) = true := by first | exact plainFor_of_name (by first | (simp [plainName, overriddenIn]; done) | decide +kernel) | decide +kernel
theorem pn39 : plainFor (⟨"com/example/udfyld/udfyld/NormaliserQueryPinLaw", "draw", "(I)C"⟩ : MethodName) = true := by first | exact plainFor_of_name (by first | (simp [plainName, overriddenIn]; done) | decide +kernel) | decide +kernel
theorem pn40 : plainFor (⟨"com/example/udfyld/udfyld/NormaliserQueryPinLaw", "isLetter", "(C)Z"⟩ : MethodName) = true := by first | exact plainFor_of_name (by first | (simp [plainName, overriddenIn]; done) | decide +kernel) | decide +kernel
theorem pn41 : plainFor (⟨"com/example/udfyld/udfyld/NormaliserQueryPinLaw", "step", "([C[ICI)V"⟩ : MethodName) = true := by first | exact plainFor_of_name (by first | (simp [plainName, overriddenIn]; done) | decide +kernel) | decide +kernel
theorem pn42 : plainFor (⟨"com/example/udfyld/udfyld/NormaliserQueryPinLaw", "at", "(Ljava/lang/String;[CIII)Z"⟩ : MethodName) = true := by first | exact plainFor_of_name (by first | (simp [plainName, overriddenIn]; done) | decide +kernel) | decide +kernel
theorem pn43 : plainFor (⟨"com/example/udfyld/udfyld/NormaliserQueryPinLaw", "law", "(III)Z"⟩ : MethodName) = true := by first | exact plainFor_of_name (by first | (simp [plainName, overriddenIn]; done) | decide +kernel) | decide +kernel
theorem d_jdk_52_method_21_3 : decode jdk_52_method_21_code 3 = .ok (.iload 5, 2) := by decide +kernel
theorem d_jdk_52_method_21_5 : decode jdk_52_method_21_code 5 = .ok (.iload 4, 2) := by decide +kernel
theorem d_jdk_52_method_21_7 : decode jdk_52_method_21_code 7 = .ok (.if_icmp .ge 37, 3) := by decide +kernel
theorem d_jdk_52_method_21_44 : decode jdk_52_method_21_code 44 = .ok (.iload 4, 2) := by decide +kernel
theorem d_jdk_52_method_21_46 : decode jdk_52_method_21_code 46 = .ok (.ireturn, 1) := by decide +kernel
theorem d_jdk_52_method_21_10 : decode jdk_52_method_21_code 10 = .ok (.aload_n 0, 1) := by decide +kernel
theorem d_jdk_52_method_21_11 : decode jdk_52_method_21_code 11 = .ok (.iload_n 1, 1) := by decide +kernel
theorem d_jdk_52_method_21_12 : decode jdk_52_method_21_code 12 = .ok (.caload, 1) := by decide +kernel
theorem d_jdk_52_method_21_13 : decode jdk_52_method_21_code 13 = .ok (.istore 6, 2) := by decide +kernel
theorem d_jdk_52_method_21_15 : decode jdk_52_method_21_code 15 = .ok (.iload 6, 2) := by decide +kernel
theorem d_jdk_52_method_21_17 : decode jdk_52_method_21_code 17 = .ok (.sipush 255, 3) := by decide +kernel
theorem d_jdk_52_method_21_20 : decode jdk_52_method_21_code 20 = .ok (.if_icmp .le 6, 3) := by decide +kernel
theorem d_jdk_52_method_21_23 : decode jdk_52_method_21_code 23 = .ok (.iload 5, 2) := by decide +kernel
theorem d_jdk_52_method_21_25 : decode jdk_52_method_21_code 25 = .ok (.ireturn, 1) := by decide +kernel
theorem d_jdk_52_method_21_26 : decode jdk_52_method_21_code 26 = .ok (.aload_n 2, 1) := by decide +kernel
theorem d_jdk_52_method_21_27 : decode jdk_52_method_21_code 27 = .ok (.iload_n 3, 1) := by decide +kernel
theorem d_jdk_52_method_21_28 : decode jdk_52_method_21_code 28 = .ok (.iload 6, 2) := by decide +kernel
theorem d_jdk_52_method_21_30 : decode jdk_52_method_21_code 30 = .ok (.i2b, 1) := by decide +kernel
theorem d_jdk_52_method_21_31 : decode jdk_52_method_21_code 31 = .ok (.bastore, 1) := by decide +kernel
theorem d_jdk_52_method_21_32 : decode jdk_52_method_21_code 32 = .ok (.iinc 1 1, 3) := by decide +kernel
theorem d_jdk_52_method_21_35 : decode jdk_52_method_21_code 35 = .ok (.iinc 3 1, 3) := by decide +kernel
theorem d_jdk_52_method_21_38 : decode jdk_52_method_21_code 38 = .ok (.iinc 5 1, 3) := by decide +kernel
theorem d_jdk_52_method_21_41 : decode jdk_52_method_21_code 41 = .ok (.goto (-38), 3) := by decide +kernel
theorem d_jdk_52_method_21_0 : decode jdk_52_method_21_code 0 = .ok (.iconst 0, 1) := by decide +kernel
theorem d_jdk_52_method_21_1 : decode jdk_52_method_21_code 1 = .ok (.istore 5, 2) := by decide +kernel
theorem d_jdk_52_method_16_0 : decode jdk_52_method_16_code 0 = .ok (.iload_n 2, 1) := by decide +kernel
theorem d_jdk_52_method_16_1 : decode jdk_52_method_16_code 1 = .ok (.newarray .byte, 2) := by decide +kernel
theorem d_jdk_52_method_16_3 : decode jdk_52_method_16_code 3 = .ok (.astore_n 3, 1) := by decide +kernel
theorem d_jdk_52_method_16_4 : decode jdk_52_method_16_code 4 = .ok (.aload_n 0, 1) := by decide +kernel
theorem d_jdk_52_method_16_5 : decode jdk_52_method_16_code 5 = .ok (.iload_n 1, 1) := by decide +kernel
theorem d_jdk_52_method_16_6 : decode jdk_52_method_16_code 6 = .ok (.aload_n 3, 1) := by decide +kernel
theorem d_jdk_52_method_16_7 : decode jdk_52_method_16_code 7 = .ok (.iconst 0, 1) := by decide +kernel
theorem d_jdk_52_method_16_8 : decode jdk_52_method_16_code 8 = .ok (.iload_n 2, 1) := by decide +kernel
theorem d_jdk_52_method_16_9 : decode jdk_52_method_16_code 9 = .ok (.invokestatic 115, 3) := by decide +kernel
theorem d_jdk_52_method_16_12 : decode jdk_52_method_16_code 12 = .ok (.istore 4, 2) := by decide +kernel
theorem d_jdk_52_method_16_14 : decode jdk_52_method_16_code 14 = .ok (.iload 4, 2) := by decide +kernel
theorem d_jdk_52_method_16_16 : decode jdk_52_method_16_code 16 = .ok (.iload_n 2, 1) := by decide +kernel
theorem d_jdk_52_method_16_17 : decode jdk_52_method_16_code 17 = .ok (.if_icmp .eq 40, 3) := by decide +kernel
theorem d_jdk_52_method_16_57 : decode jdk_52_method_16_code 57 = .ok (.aload_n 3, 1) := by decide +kernel
theorem d_jdk_52_method_16_58 : decode jdk_52_method_16_code 58 = .ok (.areturn, 1) := by decide +kernel
theorem d_jdk_52_method_15_0 : decode jdk_52_method_15_code 0 = .ok (.iload_n 1, 1) := by decide +kernel
theorem d_jdk_52_method_15_1 : decode jdk_52_method_15_code 1 = .ok (.aload_n 0, 1) := by decide +kernel
theorem d_jdk_52_method_15_2 : decode jdk_52_method_15_code 2 = .ok (.arraylength, 1) := by decide +kernel
theorem d_jdk_52_method_15_3 : decode jdk_52_method_15_code 3 = .ok (.isub, 1) := by decide +kernel
theorem d_jdk_52_method_15_4 : decode jdk_52_method_15_code 4 = .ok (.bipush 31, 2) := by decide +kernel
theorem d_jdk_52_method_15_6 : decode jdk_52_method_15_code 6 = .ok (.iushr, 1) := by decide +kernel
theorem d_jdk_52_method_15_7 : decode jdk_52_method_15_code 7 = .ok (.i2b, 1) := by decide +kernel
theorem d_jdk_52_method_15_8 : decode jdk_52_method_15_code 8 = .ok (.ireturn, 1) := by decide +kernel
theorem d_jdk_42_method_149_0 : decode jdk_42_method_149_code 0 = .ok (.aload_n 0, 1) := by decide +kernel
theorem d_jdk_42_method_149_1 : decode jdk_42_method_149_code 1 = .ok (.invokespecial 1, 3) := by decide +kernel
theorem d_jdk_42_method_149_4 : decode jdk_42_method_149_code 4 = .ok (.iload_n 3, 1) := by decide +kernel
theorem d_jdk_42_method_149_5 : decode jdk_42_method_149_code 5 = .ok (.ifCond .ne 22, 3) := by decide +kernel
theorem d_jdk_42_method_149_27 : decode jdk_42_method_149_code 27 = .ok (.getstatic 38, 3) := by decide +kernel
theorem d_jdk_42_method_149_30 : decode jdk_42_method_149_code 30 = .ok (.ifCond .eq 28, 3) := by decide +kernel
theorem d_jdk_42_method_149_33 : decode jdk_42_method_149_code 33 = .ok (.aload_n 1, 1) := by decide +kernel
theorem d_jdk_42_method_149_34 : decode jdk_42_method_149_code 34 = .ok (.iload_n 2, 1) := by decide +kernel
theorem d_jdk_42_method_149_35 : decode jdk_42_method_149_code 35 = .ok (.iload_n 3, 1) := by decide +kernel
theorem d_jdk_42_method_149_36 : decode jdk_42_method_149_code 36 = .ok (.invokestatic 177, 3) := by decide +kernel
theorem d_jdk_42_method_149_39 : decode jdk_42_method_149_code 39 = .ok (.astore 5, 2) := by decide +kernel
theorem d_jdk_42_method_149_41 : decode jdk_42_method_149_code 41 = .ok (.aload_n 0, 1) := by decide +kernel
theorem d_jdk_42_method_149_42 : decode jdk_42_method_149_code 42 = .ok (.aload 5, 2) := by decide +kernel
theorem d_jdk_42_method_149_44 : decode jdk_42_method_149_code 44 = .ok (.iload_n 3, 1) := by decide +kernel
theorem d_jdk_42_method_149_45 : decode jdk_42_method_149_code 45 = .ok (.invokestatic 47, 3) := by decide +kernel
theorem d_jdk_42_method_149_48 : decode jdk_42_method_149_code 48 = .ok (.putfield 15, 3) := by decide +kernel
theorem d_jdk_42_method_149_51 : decode jdk_42_method_149_code 51 = .ok (.aload_n 0, 1) := by decide +kernel
theorem d_jdk_42_method_149_52 : decode jdk_42_method_149_code 52 = .ok (.aload 5, 2) := by decide +kernel
theorem d_jdk_42_method_149_54 : decode jdk_42_method_149_code 54 = .ok (.putfield 9, 3) := by decide +kernel
theorem d_jdk_42_method_149_57 : decode jdk_42_method_149_code 57 = .ok (.return_, 1) := by decide +kernel
theorem d_jdk_42_method_3_0 : decode jdk_42_method_3_code 0 = .ok (.aload_n 0, 1) := by decide +kernel
theorem d_jdk_42_method_3_1 : decode jdk_42_method_3_code 1 = .ok (.aload_n 1, 1) := by decide +kernel
theorem d_jdk_42_method_3_2 : decode jdk_42_method_3_code 2 = .ok (.iconst 0, 1) := by decide +kernel
theorem d_jdk_42_method_3_3 : decode jdk_42_method_3_code 3 = .ok (.aload_n 1, 1) := by decide +kernel
theorem d_jdk_42_method_3_4 : decode jdk_42_method_3_code 4 = .ok (.arraylength, 1) := by decide +kernel
theorem d_jdk_42_method_3_5 : decode jdk_42_method_3_code 5 = .ok (.aconst_null, 1) := by decide +kernel
theorem d_jdk_42_method_3_6 : decode jdk_42_method_3_code 6 = .ok (.invokespecial 27, 3) := by decide +kernel
theorem d_jdk_42_method_3_9 : decode jdk_42_method_3_code 9 = .ok (.return_, 1) := by decide +kernel
theorem d_jdk_42_method_152_0 : decode jdk_42_method_152_code 0 = .ok (.getstatic 38, 3) := by decide +kernel
theorem d_jdk_42_method_152_3 : decode jdk_42_method_152_code 3 = .ok (.ifCond .eq 10, 3) := by decide +kernel
theorem d_jdk_42_method_152_6 : decode jdk_42_method_152_code 6 = .ok (.aload_n 0, 1) := by decide +kernel
theorem d_jdk_42_method_152_7 : decode jdk_42_method_152_code 7 = .ok (.getfield 15, 3) := by decide +kernel
theorem d_jdk_42_method_152_10 : decode jdk_42_method_152_code 10 = .ok (.goto 4, 3) := by decide +kernel
theorem d_jdk_42_method_152_14 : decode jdk_42_method_152_code 14 = .ok (.ireturn, 1) := by decide +kernel
theorem d_jdk_42_method_54_0 : decode jdk_42_method_54_code 0 = .ok (.aload_n 0, 1) := by decide +kernel
theorem d_jdk_42_method_54_1 : decode jdk_42_method_54_code 1 = .ok (.getfield 9, 3) := by decide +kernel
theorem d_jdk_42_method_54_4 : decode jdk_42_method_54_code 4 = .ok (.arraylength, 1) := by decide +kernel
theorem d_jdk_42_method_54_5 : decode jdk_42_method_54_code 5 = .ok (.aload_n 0, 1) := by decide +kernel
theorem d_jdk_42_method_54_6 : decode jdk_42_method_54_code 6 = .ok (.invokevirtual 335, 3) := by decide +kernel
theorem d_jdk_42_method_54_9 : decode jdk_42_method_54_code 9 = .ok (.ishr, 1) := by decide +kernel
theorem d_jdk_42_method_54_10 : decode jdk_42_method_54_code 10 = .ok (.ireturn, 1) := by decide +kernel
theorem d_jdk_42_method_154_0 : decode jdk_42_method_154_code 0 = .ok (.getstatic 38, 3) := by decide +kernel
theorem d_jdk_42_method_154_3 : decode jdk_42_method_154_code 3 = .ok (.ifCond .eq 14, 3) := by decide +kernel
theorem d_jdk_42_method_154_6 : decode jdk_42_method_154_code 6 = .ok (.aload_n 0, 1) := by decide +kernel
theorem d_jdk_42_method_154_7 : decode jdk_42_method_154_code 7 = .ok (.getfield 15, 3) := by decide +kernel
theorem d_jdk_42_method_154_10 : decode jdk_42_method_154_code 10 = .ok (.ifCond .ne 7, 3) := by decide +kernel
theorem d_jdk_42_method_154_13 : decode jdk_42_method_154_code 13 = .ok (.iconst 1, 1) := by decide +kernel
theorem d_jdk_42_method_154_14 : decode jdk_42_method_154_code 14 = .ok (.goto 4, 3) := by decide +kernel
theorem d_jdk_42_method_154_18 : decode jdk_42_method_154_code 18 = .ok (.ireturn, 1) := by decide +kernel
theorem d_jdk_41_method_11_0 : decode jdk_41_method_11_code 0 = .ok (.iload_n 0, 1) := by decide +kernel
theorem d_jdk_41_method_11_1 : decode jdk_41_method_11_code 1 = .ok (.ifCond .lt 8, 3) := by decide +kernel
theorem d_jdk_41_method_11_4 : decode jdk_41_method_11_code 4 = .ok (.iload_n 0, 1) := by decide +kernel
theorem d_jdk_41_method_11_5 : decode jdk_41_method_11_code 5 = .ok (.iload_n 1, 1) := by decide +kernel
theorem d_jdk_41_method_11_6 : decode jdk_41_method_11_code 6 = .ok (.if_icmp .lt 10, 3) := by decide +kernel
theorem d_jdk_41_method_11_16 : decode jdk_41_method_11_code 16 = .ok (.iload_n 0, 1) := by decide +kernel
theorem d_jdk_41_method_11_17 : decode jdk_41_method_11_code 17 = .ok (.ireturn, 1) := by decide +kernel
theorem d_jdk_42_method_155_0 : decode jdk_42_method_155_code 0 = .ok (.iload_n 0, 1) := by decide +kernel
theorem d_jdk_42_method_155_1 : decode jdk_42_method_155_code 1 = .ok (.iload_n 1, 1) := by decide +kernel
theorem d_jdk_42_method_155_2 : decode jdk_42_method_155_code 2 = .ok (.getstatic 1053, 3) := by decide +kernel
theorem d_jdk_42_method_155_5 : decode jdk_42_method_155_code 5 = .ok (.invokestatic 1059, 3) := by decide +kernel
theorem d_jdk_42_method_155_8 : decode jdk_42_method_155_code 8 = .ok (.pop, 1) := by decide +kernel
theorem d_jdk_42_method_155_9 : decode jdk_42_method_155_code 9 = .ok (.return_, 1) := by decide +kernel
theorem d_jdk_43_method_2_0 : decode jdk_43_method_2_code 0 = .ok (.iload_n 1, 1) := by decide +kernel
theorem d_jdk_43_method_2_1 : decode jdk_43_method_2_code 1 = .ok (.aload_n 0, 1) := by decide +kernel
theorem d_jdk_43_method_2_2 : decode jdk_43_method_2_code 2 = .ok (.arraylength, 1) := by decide +kernel
theorem d_jdk_43_method_2_3 : decode jdk_43_method_2_code 3 = .ok (.invokestatic 9, 3) := by decide +kernel
theorem d_jdk_43_method_2_6 : decode jdk_43_method_2_code 6 = .ok (.aload_n 0, 1) := by decide +kernel
theorem d_jdk_43_method_2_7 : decode jdk_43_method_2_code 7 = .ok (.iload_n 1, 1) := by decide +kernel
theorem d_jdk_43_method_2_8 : decode jdk_43_method_2_code 8 = .ok (.baload, 1) := by decide +kernel
theorem d_jdk_43_method_2_9 : decode jdk_43_method_2_code 9 = .ok (.sipush 255, 3) := by decide +kernel
theorem d_jdk_43_method_2_12 : decode jdk_43_method_2_code 12 = .ok (.iand, 1) := by decide +kernel
theorem d_jdk_43_method_2_13 : decode jdk_43_method_2_code 13 = .ok (.i2c, 1) := by decide +kernel
theorem d_jdk_43_method_2_14 : decode jdk_43_method_2_code 14 = .ok (.ireturn, 1) := by decide +kernel
theorem d_jdk_42_method_56_0 : decode jdk_42_method_56_code 0 = .ok (.aload_n 0, 1) := by decide +kernel
theorem d_jdk_42_method_56_1 : decode jdk_42_method_56_code 1 = .ok (.invokevirtual 492, 3) := by decide +kernel
theorem d_jdk_42_method_56_4 : decode jdk_42_method_56_code 4 = .ok (.ifCond .eq 12, 3) := by decide +kernel
theorem d_jdk_42_method_56_7 : decode jdk_42_method_56_code 7 = .ok (.aload_n 0, 1) := by decide +kernel
theorem d_jdk_42_method_56_8 : decode jdk_42_method_56_code 8 = .ok (.getfield 9, 3) := by decide +kernel
theorem d_jdk_42_method_56_11 : decode jdk_42_method_56_code 11 = .ok (.iload_n 1, 1) := by decide +kernel
theorem d_jdk_42_method_56_12 : decode jdk_42_method_56_code 12 = .ok (.invokestatic 495, 3) := by decide +kernel
theorem d_jdk_42_method_56_15 : decode jdk_42_method_56_code 15 = .ok (.ireturn, 1) := by decide +kernel
theorem d_jdk_29_method_69_0 : decode jdk_29_method_69_code 0 = .ok (.iload_n 0, 1) := by decide +kernel
theorem d_jdk_29_method_69_1 : decode jdk_29_method_69_code 1 = .ok (.iload_n 1, 1) := by decide +kernel
theorem d_jdk_29_method_69_2 : decode jdk_29_method_69_code 2 = .ok (.if_icmp .gt 7, 3) := by decide +kernel
theorem d_jdk_29_method_69_9 : decode jdk_29_method_69_code 9 = .ok (.iload_n 1, 1) := by decide +kernel
theorem d_jdk_29_method_69_10 : decode jdk_29_method_69_code 10 = .ok (.ireturn, 1) := by decide +kernel
theorem d_jdk_29_method_69_5 : decode jdk_29_method_69_code 5 = .ok (.iload_n 0, 1) := by decide +kernel
theorem d_jdk_29_method_69_6 : decode jdk_29_method_69_code 6 = .ok (.goto 4, 3) := by decide +kernel
theorem d_jdk_42_method_55_0 : decode jdk_42_method_55_code 0 = .ok (.aload_n 0, 1) := by decide +kernel
theorem d_jdk_42_method_55_1 : decode jdk_42_method_55_code 1 = .ok (.getfield 9, 3) := by decide +kernel
theorem d_jdk_42_method_55_4 : decode jdk_42_method_55_code 4 = .ok (.arraylength, 1) := by decide +kernel
theorem d_jdk_42_method_55_5 : decode jdk_42_method_55_code 5 = .ok (.ifCond .ne 7, 3) := by decide +kernel
theorem d_jdk_42_method_55_12 : decode jdk_42_method_55_code 12 = .ok (.iconst 0, 1) := by decide +kernel
theorem d_jdk_42_method_55_13 : decode jdk_42_method_55_code 13 = .ok (.ireturn, 1) := by decide +kernel
theorem d_jdk_42_method_55_8 : decode jdk_42_method_55_code 8 = .ok (.iconst 1, 1) := by decide +kernel
theorem d_jdk_42_method_55_9 : decode jdk_42_method_55_code 9 = .ok (.goto 4, 3) := by decide +kernel
theorem d_jdk_68_method_2_0 : decode jdk_68_method_2_code 0 = .ok (.aload_n 0, 1) := by decide +kernel
theorem d_jdk_68_method_2_1 : decode jdk_68_method_2_code 1 = .ok (.invokespecial 3, 3) := by decide +kernel
theorem d_jdk_68_method_2_4 : decode jdk_68_method_2_code 4 = .ok (.getstatic 18, 3) := by decide +kernel
theorem d_jdk_68_method_2_7 : decode jdk_68_method_2_code 7 = .ok (.ifCond .eq 18, 3) := by decide +kernel
theorem d_jdk_68_method_2_10 : decode jdk_68_method_2_code 10 = .ok (.aload_n 0, 1) := by decide +kernel
theorem d_jdk_68_method_2_11 : decode jdk_68_method_2_code 11 = .ok (.iload_n 1, 1) := by decide +kernel
theorem d_jdk_68_method_2_12 : decode jdk_68_method_2_code 12 = .ok (.newarray .byte, 2) := by decide +kernel
theorem d_jdk_68_method_2_14 : decode jdk_68_method_2_code 14 = .ok (.putfield 15, 3) := by decide +kernel
theorem d_jdk_68_method_2_17 : decode jdk_68_method_2_code 17 = .ok (.aload_n 0, 1) := by decide +kernel
theorem d_jdk_68_method_2_18 : decode jdk_68_method_2_code 18 = .ok (.iconst 0, 1) := by decide +kernel
theorem d_jdk_68_method_2_19 : decode jdk_68_method_2_code 19 = .ok (.putfield 22, 3) := by decide +kernel
theorem d_jdk_68_method_2_22 : decode jdk_68_method_2_code 22 = .ok (.goto 16, 3) := by decide +kernel
theorem d_jdk_68_method_2_38 : decode jdk_68_method_2_code 38 = .ok (.return_, 1) := by decide +kernel
theorem d_jdk_67_method_2_0 : decode jdk_67_method_2_code 0 = .ok (.aload_n 0, 1) := by decide +kernel
theorem d_jdk_67_method_2_1 : decode jdk_67_method_2_code 1 = .ok (.iload_n 1, 1) := by decide +kernel
theorem d_jdk_67_method_2_2 : decode jdk_67_method_2_code 2 = .ok (.invokespecial 1, 3) := by decide +kernel
theorem d_jdk_67_method_2_5 : decode jdk_67_method_2_code 5 = .ok (.return_, 1) := by decide +kernel
theorem d_jdk_68_method_9_0 : decode jdk_68_method_9_code 0 = .ok (.aload_n 0, 1) := by decide +kernel
theorem d_jdk_68_method_9_1 : decode jdk_68_method_9_code 1 = .ok (.getfield 15, 3) := by decide +kernel
theorem d_jdk_68_method_9_4 : decode jdk_68_method_9_code 4 = .ok (.arraylength, 1) := by decide +kernel
theorem d_jdk_68_method_9_5 : decode jdk_68_method_9_code 5 = .ok (.aload_n 0, 1) := by decide +kernel
theorem d_jdk_68_method_9_6 : decode jdk_68_method_9_code 6 = .ok (.getfield 22, 3) := by decide +kernel
theorem d_jdk_68_method_9_9 : decode jdk_68_method_9_code 9 = .ok (.ishr, 1) := by decide +kernel
theorem d_jdk_68_method_9_10 : decode jdk_68_method_9_code 10 = .ok (.istore_n 2, 1) := by decide +kernel
theorem d_jdk_68_method_9_11 : decode jdk_68_method_9_code 11 = .ok (.iload_n 1, 1) := by decide +kernel
theorem d_jdk_68_method_9_12 : decode jdk_68_method_9_code 12 = .ok (.iload_n 2, 1) := by decide +kernel
theorem d_jdk_68_method_9_13 : decode jdk_68_method_9_code 13 = .ok (.isub, 1) := by decide +kernel
theorem d_jdk_68_method_9_14 : decode jdk_68_method_9_code 14 = .ok (.ifCond .le 24, 3) := by decide +kernel
theorem d_jdk_68_method_9_38 : decode jdk_68_method_9_code 38 = .ok (.return_, 1) := by decide +kernel
theorem d_jdk_68_method_68_0 : decode jdk_68_method_68_code 0 = .ok (.getstatic 18, 3) := by decide +kernel
theorem d_jdk_68_method_68_3 : decode jdk_68_method_68_code 3 = .ok (.ifCond .eq 14, 3) := by decide +kernel
theorem d_jdk_68_method_68_6 : decode jdk_68_method_68_code 6 = .ok (.aload_n 0, 1) := by decide +kernel
theorem d_jdk_68_method_68_7 : decode jdk_68_method_68_code 7 = .ok (.getfield 22, 3) := by decide +kernel
theorem d_jdk_68_method_68_10 : decode jdk_68_method_68_code 10 = .ok (.ifCond .ne 7, 3) := by decide +kernel
theorem d_jdk_68_method_68_13 : decode jdk_68_method_68_code 13 = .ok (.iconst 1, 1) := by decide +kernel
theorem d_jdk_68_method_68_14 : decode jdk_68_method_68_code 14 = .ok (.goto 4, 3) := by decide +kernel
theorem d_jdk_68_method_68_18 : decode jdk_68_method_68_code 18 = .ok (.ireturn, 1) := by decide +kernel
theorem d_jdk_43_method_3_0 : decode jdk_43_method_3_code 0 = .ok (.iload_n 0, 1) := by decide +kernel
theorem d_jdk_43_method_3_1 : decode jdk_43_method_3_code 1 = .ok (.sipush 255, 3) := by decide +kernel
theorem d_jdk_43_method_3_4 : decode jdk_43_method_3_code 4 = .ok (.if_icmp .gt 7, 3) := by decide +kernel
theorem d_jdk_43_method_3_7 : decode jdk_43_method_3_code 7 = .ok (.iconst 1, 1) := by decide +kernel
theorem d_jdk_43_method_3_8 : decode jdk_43_method_3_code 8 = .ok (.goto 4, 3) := by decide +kernel
theorem d_jdk_43_method_3_12 : decode jdk_43_method_3_code 12 = .ok (.ireturn, 1) := by decide +kernel
theorem d_jdk_68_method_31_0 : decode jdk_68_method_31_code 0 = .ok (.aload_n 0, 1) := by decide +kernel
theorem d_jdk_68_method_31_1 : decode jdk_68_method_31_code 1 = .ok (.aload_n 0, 1) := by decide +kernel
theorem d_jdk_68_method_31_2 : decode jdk_68_method_31_code 2 = .ok (.getfield 79, 3) := by decide +kernel
theorem d_jdk_68_method_31_5 : decode jdk_68_method_31_code 5 = .ok (.iconst 1, 1) := by decide +kernel
theorem d_jdk_68_method_31_6 : decode jdk_68_method_31_code 6 = .ok (.iadd, 1) := by decide +kernel
theorem d_jdk_68_method_31_7 : decode jdk_68_method_31_code 7 = .ok (.invokevirtual 100, 3) := by decide +kernel
theorem d_jdk_68_method_31_10 : decode jdk_68_method_31_code 10 = .ok (.aload_n 0, 1) := by decide +kernel
theorem d_jdk_68_method_31_11 : decode jdk_68_method_31_code 11 = .ok (.invokevirtual 83, 3) := by decide +kernel
theorem d_jdk_68_method_31_14 : decode jdk_68_method_31_code 14 = .ok (.ifCond .eq 31, 3) := by decide +kernel
theorem d_jdk_68_method_31_17 : decode jdk_68_method_31_code 17 = .ok (.iload_n 1, 1) := by decide +kernel
theorem d_jdk_68_method_31_18 : decode jdk_68_method_31_code 18 = .ok (.invokestatic 191, 3) := by decide +kernel
theorem d_jdk_68_method_31_21 : decode jdk_68_method_31_code 21 = .ok (.ifCond .eq 24, 3) := by decide +kernel
theorem d_jdk_68_method_31_24 : decode jdk_68_method_31_code 24 = .ok (.aload_n 0, 1) := by decide +kernel
theorem d_jdk_68_method_31_25 : decode jdk_68_method_31_code 25 = .ok (.getfield 15, 3) := by decide +kernel
theorem d_jdk_68_method_31_28 : decode jdk_68_method_31_code 28 = .ok (.aload_n 0, 1) := by decide +kernel
theorem d_jdk_68_method_31_29 : decode jdk_68_method_31_code 29 = .ok (.dup, 1) := by decide +kernel
theorem d_jdk_68_method_31_30 : decode jdk_68_method_31_code 30 = .ok (.getfield 79, 3) := by decide +kernel
theorem d_jdk_68_method_31_33 : decode jdk_68_method_31_code 33 = .ok (.dup_x1, 1) := by decide +kernel
theorem d_jdk_68_method_31_34 : decode jdk_68_method_31_code 34 = .ok (.iconst 1, 1) := by decide +kernel
theorem d_jdk_68_method_31_35 : decode jdk_68_method_31_code 35 = .ok (.iadd, 1) := by decide +kernel
theorem d_jdk_68_method_31_36 : decode jdk_68_method_31_code 36 = .ok (.putfield 79, 3) := by decide +kernel
theorem d_jdk_68_method_31_39 : decode jdk_68_method_31_code 39 = .ok (.iload_n 1, 1) := by decide +kernel
theorem d_jdk_68_method_31_40 : decode jdk_68_method_31_code 40 = .ok (.i2b, 1) := by decide +kernel
theorem d_jdk_68_method_31_41 : decode jdk_68_method_31_code 41 = .ok (.bastore, 1) := by decide +kernel
theorem d_jdk_68_method_31_42 : decode jdk_68_method_31_code 42 = .ok (.goto 33, 3) := by decide +kernel
theorem d_jdk_68_method_31_75 : decode jdk_68_method_31_code 75 = .ok (.aload_n 0, 1) := by decide +kernel
theorem d_jdk_68_method_31_76 : decode jdk_68_method_31_code 76 = .ok (.areturn, 1) := by decide +kernel
theorem d_jdk_67_method_14_0 : decode jdk_67_method_14_code 0 = .ok (.aload_n 0, 1) := by decide +kernel
theorem d_jdk_67_method_14_1 : decode jdk_67_method_14_code 1 = .ok (.iload_n 1, 1) := by decide +kernel
theorem d_jdk_67_method_14_2 : decode jdk_67_method_14_code 2 = .ok (.invokespecial 50, 3) := by decide +kernel
theorem d_jdk_67_method_14_5 : decode jdk_67_method_14_code 5 = .ok (.pop, 1) := by decide +kernel
theorem d_jdk_67_method_14_6 : decode jdk_67_method_14_code 6 = .ok (.aload_n 0, 1) := by decide +kernel
theorem d_jdk_67_method_14_7 : decode jdk_67_method_14_code 7 = .ok (.areturn, 1) := by decide +kernel
theorem d_jdk_68_method_64_0 : decode jdk_68_method_64_code 0 = .ok (.aload_n 0, 1) := by decide +kernel
theorem d_jdk_68_method_64_1 : decode jdk_68_method_64_code 1 = .ok (.getfield 15, 3) := by decide +kernel
theorem d_jdk_68_method_64_4 : decode jdk_68_method_64_code 4 = .ok (.areturn, 1) := by decide +kernel
theorem d_jdk_68_method_6_0 : decode jdk_68_method_6_code 0 = .ok (.aload_n 0, 1) := by decide +kernel
theorem d_jdk_68_method_6_1 : decode jdk_68_method_6_code 1 = .ok (.getfield 79, 3) := by decide +kernel
theorem d_jdk_68_method_6_4 : decode jdk_68_method_6_code 4 = .ok (.ireturn, 1) := by decide +kernel
theorem d_jdk_67_method_93_0 : decode jdk_67_method_93_code 0 = .ok (.aload_n 0, 1) := by decide +kernel
theorem d_jdk_67_method_93_1 : decode jdk_67_method_93_code 1 = .ok (.invokespecial 343, 3) := by decide +kernel
theorem d_jdk_67_method_93_4 : decode jdk_67_method_93_code 4 = .ok (.ireturn, 1) := by decide +kernel
theorem d_prog_12_method_5_0 : decode prog_12_method_5_code 0 = .ok (.aload_n 0, 1) := by decide +kernel
theorem d_prog_12_method_5_1 : decode prog_12_method_5_code 1 = .ok (.invokevirtual 51, 3) := by decide +kernel
theorem d_prog_12_method_5_4 : decode prog_12_method_5_code 4 = .ok (.bipush 50, 2) := by decide +kernel
theorem d_prog_12_method_5_6 : decode prog_12_method_5_code 6 = .ok (.if_icmp .lt 5, 3) := by decide +kernel
theorem d_prog_12_method_5_9 : decode prog_12_method_5_code 9 = .ok (.iconst 0, 1) := by decide +kernel
theorem d_prog_12_method_5_10 : decode prog_12_method_5_code 10 = .ok (.ireturn, 1) := by decide +kernel
theorem d_prog_12_method_5_11 : decode prog_12_method_5_code 11 = .ok (.aload_n 0, 1) := by decide +kernel
theorem d_prog_12_method_5_12 : decode prog_12_method_5_code 12 = .ok (.iload_n 1, 1) := by decide +kernel
theorem d_prog_12_method_5_13 : decode prog_12_method_5_code 13 = .ok (.invokevirtual 52, 3) := by decide +kernel
theorem d_prog_12_method_5_16 : decode prog_12_method_5_code 16 = .ok (.pop, 1) := by decide +kernel
theorem d_prog_12_method_5_17 : decode prog_12_method_5_code 17 = .ok (.iconst 1, 1) := by decide +kernel
theorem d_prog_12_method_5_18 : decode prog_12_method_5_code 18 = .ok (.ireturn, 1) := by decide +kernel
theorem d_jdk_65_method_131_0 : decode jdk_65_method_131_code 0 = .ok (.iload_n 1, 1) := by decide +kernel
theorem d_jdk_65_method_131_1 : decode jdk_65_method_131_code 1 = .ok (.iload_n 0, 1) := by decide +kernel
theorem d_jdk_65_method_131_2 : decode jdk_65_method_131_code 2 = .ok (.if_icmp .ge 35, 3) := by decide +kernel
theorem d_jdk_65_method_131_37 : decode jdk_65_method_131_code 37 = .ok (.return_, 1) := by decide +kernel
theorem d_jdk_65_method_133_0 : decode jdk_65_method_133_code 0 = .ok (.iload_n 1, 1) := by decide +kernel
theorem d_jdk_65_method_133_1 : decode jdk_65_method_133_code 1 = .ok (.iload_n 2, 1) := by decide +kernel
theorem d_jdk_65_method_133_2 : decode jdk_65_method_133_code 2 = .ok (.invokestatic 343, 3) := by decide +kernel
theorem d_jdk_65_method_133_5 : decode jdk_65_method_133_code 5 = .ok (.iload_n 2, 1) := by decide +kernel
theorem d_jdk_65_method_133_6 : decode jdk_65_method_133_code 6 = .ok (.iload_n 1, 1) := by decide +kernel
theorem d_jdk_65_method_133_7 : decode jdk_65_method_133_code 7 = .ok (.isub, 1) := by decide +kernel
theorem d_jdk_65_method_133_8 : decode jdk_65_method_133_code 8 = .ok (.istore_n 3, 1) := by decide +kernel
theorem d_jdk_65_method_133_9 : decode jdk_65_method_133_code 9 = .ok (.iload_n 3, 1) := by decide +kernel
theorem d_jdk_65_method_133_10 : decode jdk_65_method_133_code 10 = .ok (.newarray .byte, 2) := by decide +kernel
theorem d_jdk_65_method_133_12 : decode jdk_65_method_133_code 12 = .ok (.astore 4, 2) := by decide +kernel
theorem d_jdk_65_method_133_14 : decode jdk_65_method_133_code 14 = .ok (.aload_n 0, 1) := by decide +kernel
theorem d_jdk_65_method_133_15 : decode jdk_65_method_133_code 15 = .ok (.iload_n 1, 1) := by decide +kernel
theorem d_jdk_65_method_133_16 : decode jdk_65_method_133_code 16 = .ok (.aload 4, 2) := by decide +kernel
theorem d_jdk_65_method_133_18 : decode jdk_65_method_133_code 18 = .ok (.iconst 0, 1) := by decide +kernel
theorem d_jdk_65_method_133_19 : decode jdk_65_method_133_code 19 = .ok (.aload_n 0, 1) := by decide +kernel
theorem d_jdk_65_method_133_20 : decode jdk_65_method_133_code 20 = .ok (.arraylength, 1) := by decide +kernel
theorem d_jdk_65_method_133_21 : decode jdk_65_method_133_code 21 = .ok (.iload_n 1, 1) := by decide +kernel
theorem d_jdk_65_method_133_22 : decode jdk_65_method_133_code 22 = .ok (.isub, 1) := by decide +kernel
theorem d_jdk_65_method_133_23 : decode jdk_65_method_133_code 23 = .ok (.iload_n 3, 1) := by decide +kernel
theorem d_jdk_65_method_133_24 : decode jdk_65_method_133_code 24 = .ok (.invokestatic 304, 3) := by decide +kernel
theorem d_jdk_65_method_133_27 : decode jdk_65_method_133_code 27 = .ok (.invokestatic 150, 3) := by decide +kernel
theorem d_jdk_65_method_133_30 : decode jdk_65_method_133_code 30 = .ok (.aload 4, 2) := by decide +kernel
theorem d_jdk_65_method_133_32 : decode jdk_65_method_133_code 32 = .ok (.areturn, 1) := by decide +kernel
theorem d_jdk_65_method_132_0 : decode jdk_65_method_132_code 0 = .ok (.iload_n 1, 1) := by decide +kernel
theorem d_jdk_65_method_132_1 : decode jdk_65_method_132_code 1 = .ok (.ifCond .ne 9, 3) := by decide +kernel
theorem d_jdk_65_method_132_4 : decode jdk_65_method_132_code 4 = .ok (.iload_n 2, 1) := by decide +kernel
theorem d_jdk_65_method_132_5 : decode jdk_65_method_132_code 5 = .ok (.aload_n 0, 1) := by decide +kernel
theorem d_jdk_65_method_132_6 : decode jdk_65_method_132_code 6 = .ok (.arraylength, 1) := by decide +kernel
theorem d_jdk_65_method_132_7 : decode jdk_65_method_132_code 7 = .ok (.if_icmp .eq 10, 3) := by decide +kernel
theorem d_jdk_65_method_132_10 : decode jdk_65_method_132_code 10 = .ok (.aload_n 0, 1) := by decide +kernel
theorem d_jdk_65_method_132_11 : decode jdk_65_method_132_code 11 = .ok (.iload_n 1, 1) := by decide +kernel
theorem d_jdk_65_method_132_12 : decode jdk_65_method_132_code 12 = .ok (.iload_n 2, 1) := by decide +kernel
theorem d_jdk_65_method_132_13 : decode jdk_65_method_132_code 13 = .ok (.invokestatic 339, 3) := by decide +kernel
theorem d_jdk_65_method_132_16 : decode jdk_65_method_132_code 16 = .ok (.areturn, 1) := by decide +kernel
theorem d_jdk_65_method_132_17 : decode jdk_65_method_132_code 17 = .ok (.aload_n 0, 1) := by decide +kernel
theorem d_jdk_65_method_132_18 : decode jdk_65_method_132_code 18 = .ok (.invokevirtual 310, 3) := by decide +kernel
theorem d_jdk_65_method_132_21 : decode jdk_65_method_132_code 21 = .ok (.checkcast 311, 3) := by decide +kernel
theorem d_jdk_65_method_132_24 : decode jdk_65_method_132_code 24 = .ok (.areturn, 1) := by decide +kernel
theorem d_jdk_42_method_150_0 : decode jdk_42_method_150_code 0 = .ok (.aload_n 0, 1) := by decide +kernel
theorem d_jdk_42_method_150_1 : decode jdk_42_method_150_code 1 = .ok (.invokespecial 1, 3) := by decide +kernel
theorem d_jdk_42_method_150_4 : decode jdk_42_method_150_code 4 = .ok (.aload_n 1, 1) := by decide +kernel
theorem d_jdk_42_method_150_5 : decode jdk_42_method_150_code 5 = .ok (.invokevirtual 552, 3) := by decide +kernel
theorem d_jdk_42_method_150_8 : decode jdk_42_method_150_code 8 = .ok (.astore_n 3, 1) := by decide +kernel
theorem d_jdk_42_method_150_9 : decode jdk_42_method_150_code 9 = .ok (.aload_n 1, 1) := by decide +kernel
theorem d_jdk_42_method_150_10 : decode jdk_42_method_150_code 10 = .ok (.invokevirtual 549, 3) := by decide +kernel
theorem d_jdk_42_method_150_13 : decode jdk_42_method_150_code 13 = .ok (.istore 4, 2) := by decide +kernel
theorem d_jdk_42_method_150_15 : decode jdk_42_method_150_code 15 = .ok (.aload_n 1, 1) := by decide +kernel
theorem d_jdk_42_method_150_16 : decode jdk_42_method_150_code 16 = .ok (.invokevirtual 1047, 3) := by decide +kernel
theorem d_jdk_42_method_150_19 : decode jdk_42_method_150_code 19 = .ok (.ifCond .eq 22, 3) := by decide +kernel
theorem d_jdk_42_method_150_22 : decode jdk_42_method_150_code 22 = .ok (.aload_n 0, 1) := by decide +kernel
theorem d_jdk_42_method_150_23 : decode jdk_42_method_150_code 23 = .ok (.iconst 0, 1) := by decide +kernel
theorem d_jdk_42_method_150_24 : decode jdk_42_method_150_code 24 = .ok (.putfield 15, 3) := by decide +kernel
theorem d_jdk_42_method_150_27 : decode jdk_42_method_150_code 27 = .ok (.aload_n 0, 1) := by decide +kernel
theorem d_jdk_42_method_150_28 : decode jdk_42_method_150_code 28 = .ok (.aload_n 3, 1) := by decide +kernel
theorem d_jdk_42_method_150_29 : decode jdk_42_method_150_code 29 = .ok (.iconst 0, 1) := by decide +kernel
theorem d_jdk_42_method_150_30 : decode jdk_42_method_150_code 30 = .ok (.iload 4, 2) := by decide +kernel
theorem d_jdk_42_method_150_32 : decode jdk_42_method_150_code 32 = .ok (.invokestatic 54, 3) := by decide +kernel
theorem d_jdk_42_method_150_35 : decode jdk_42_method_150_code 35 = .ok (.putfield 9, 3) := by decide +kernel
theorem d_jdk_42_method_150_38 : decode jdk_42_method_150_code 38 = .ok (.goto 59, 3) := by decide +kernel
theorem d_jdk_42_method_150_97 : decode jdk_42_method_150_code 97 = .ok (.return_, 1) := by decide +kernel
theorem d_jdk_42_method_53_0 : decode jdk_42_method_53_code 0 = .ok (.aload_n 0, 1) := by decide +kernel
theorem d_jdk_42_method_53_1 : decode jdk_42_method_53_code 1 = .ok (.aload_n 1, 1) := by decide +kernel
theorem d_jdk_42_method_53_2 : decode jdk_42_method_53_code 2 = .ok (.aconst_null, 1) := by decide +kernel
theorem d_jdk_42_method_53_3 : decode jdk_42_method_53_code 3 = .ok (.invokespecial 489, 3) := by decide +kernel
theorem d_jdk_42_method_53_6 : decode jdk_42_method_53_code 6 = .ok (.return_, 1) := by decide +kernel
theorem d_jdk_67_method_42_0 : decode jdk_67_method_42_code 0 = .ok (.new 18, 3) := by decide +kernel
theorem d_jdk_67_method_42_3 : decode jdk_67_method_42_code 3 = .ok (.dup, 1) := by decide +kernel
theorem d_jdk_67_method_42_4 : decode jdk_67_method_42_code 4 = .ok (.aload_n 0, 1) := by decide +kernel
theorem d_jdk_67_method_42_5 : decode jdk_67_method_42_code 5 = .ok (.invokespecial 137, 3) := by decide +kernel
theorem d_jdk_67_method_42_8 : decode jdk_67_method_42_code 8 = .ok (.areturn, 1) := by decide +kernel
theorem d_prog_12_method_4_22 : decode prog_12_method_4_code 22 = .ok (.iload 4, 2) := by decide +kernel
theorem d_prog_12_method_4_24 : decode prog_12_method_4_code 24 = .ok (.aload_n 0, 1) := by decide +kernel
theorem d_prog_12_method_4_25 : decode prog_12_method_4_code 25 = .ok (.invokevirtual 34, 3) := by decide +kernel
theorem d_prog_12_method_4_28 : decode prog_12_method_4_code 28 = .ok (.if_icmp .ge 115, 3) := by decide +kernel
theorem d_prog_12_method_4_143 : decode prog_12_method_4_code 143 = .ok (.iload_n 1, 1) := by decide +kernel
theorem d_prog_12_method_4_144 : decode prog_12_method_4_code 144 = .ok (.ifCond .eq 18, 3) := by decide +kernel
theorem d_prog_12_method_4_162 : decode prog_12_method_4_code 162 = .ok (.aload_n 2, 1) := by decide +kernel
theorem d_prog_12_method_4_163 : decode prog_12_method_4_code 163 = .ok (.invokevirtual 59, 3) := by decide +kernel
theorem d_prog_12_method_4_166 : decode prog_12_method_4_code 166 = .ok (.areturn, 1) := by decide +kernel
theorem d_prog_12_method_4_31 : decode prog_12_method_4_code 31 = .ok (.aload_n 0, 1) := by decide +kernel
theorem d_prog_12_method_4_32 : decode prog_12_method_4_code 32 = .ok (.iload 4, 2) := by decide +kernel
theorem d_prog_12_method_4_34 : decode prog_12_method_4_code 34 = .ok (.invokevirtual 47, 3) := by decide +kernel
theorem d_prog_12_method_4_37 : decode prog_12_method_4_code 37 = .ok (.istore 5, 2) := by decide +kernel
theorem d_prog_12_method_4_39 : decode prog_12_method_4_code 39 = .ok (.iload 5, 2) := by decide +kernel
theorem d_prog_12_method_4_41 : decode prog_12_method_4_code 41 = .ok (.bipush 32, 2) := by decide +kernel
theorem d_prog_12_method_4_43 : decode prog_12_method_4_code 43 = .ok (.if_icmp .ne 19, 3) := by decide +kernel
theorem d_prog_12_method_4_46 : decode prog_12_method_4_code 46 = .ok (.aload_n 2, 1) := by decide +kernel
theorem d_prog_12_method_4_47 : decode prog_12_method_4_code 47 = .ok (.invokevirtual 51, 3) := by decide +kernel
theorem d_prog_12_method_4_50 : decode prog_12_method_4_code 50 = .ok (.ifCond .le 7, 3) := by decide +kernel
theorem d_prog_12_method_4_57 : decode prog_12_method_4_code 57 = .ok (.iconst 0, 1) := by decide +kernel
theorem d_prog_12_method_4_58 : decode prog_12_method_4_code 58 = .ok (.istore_n 3, 1) := by decide +kernel
theorem d_prog_12_method_4_59 : decode prog_12_method_4_code 59 = .ok (.goto 78, 3) := by decide +kernel
theorem d_prog_12_method_4_137 : decode prog_12_method_4_code 137 = .ok (.iinc 4 1, 3) := by decide +kernel
theorem d_prog_12_method_4_140 : decode prog_12_method_4_code 140 = .ok (.goto (-118), 3) := by decide +kernel
theorem d_prog_12_method_4_53 : decode prog_12_method_4_code 53 = .ok (.iconst 1, 1) := by decide +kernel
theorem d_prog_12_method_4_54 : decode prog_12_method_4_code 54 = .ok (.goto 4, 3) := by decide +kernel
theorem d_prog_12_method_4_62 : decode prog_12_method_4_code 62 = .ok (.iload 5, 2) := by decide +kernel
theorem d_prog_12_method_4_64 : decode prog_12_method_4_code 64 = .ok (.bipush 97, 2) := by decide +kernel
theorem d_prog_12_method_4_66 : decode prog_12_method_4_code 66 = .ok (.if_icmp .lt 17, 3) := by decide +kernel
theorem d_prog_12_method_4_83 : decode prog_12_method_4_code 83 = .ok (.iload 5, 2) := by decide +kernel
theorem d_prog_12_method_4_85 : decode prog_12_method_4_code 85 = .ok (.bipush 65, 2) := by decide +kernel
theorem d_prog_12_method_4_87 : decode prog_12_method_4_code 87 = .ok (.if_icmp .lt 24, 3) := by decide +kernel
theorem d_prog_12_method_4_111 : decode prog_12_method_4_code 111 = .ok (.aconst_null, 1) := by decide +kernel
theorem d_prog_12_method_4_112 : decode prog_12_method_4_code 112 = .ok (.areturn, 1) := by decide +kernel
theorem d_prog_12_method_4_90 : decode prog_12_method_4_code 90 = .ok (.iload 5, 2) := by decide +kernel
theorem d_prog_12_method_4_92 : decode prog_12_method_4_code 92 = .ok (.bipush 90, 2) := by decide +kernel
theorem d_prog_12_method_4_94 : decode prog_12_method_4_code 94 = .ok (.if_icmp .gt 17, 3) := by decide +kernel
theorem d_prog_12_method_4_97 : decode prog_12_method_4_code 97 = .ok (.iload 5, 2) := by decide +kernel
theorem d_prog_12_method_4_99 : decode prog_12_method_4_code 99 = .ok (.bipush 65, 2) := by decide +kernel
theorem d_prog_12_method_4_101 : decode prog_12_method_4_code 101 = .ok (.isub, 1) := by decide +kernel
theorem d_prog_12_method_4_102 : decode prog_12_method_4_code 102 = .ok (.bipush 97, 2) := by decide +kernel
theorem d_prog_12_method_4_104 : decode prog_12_method_4_code 104 = .ok (.iadd, 1) := by decide +kernel
theorem d_prog_12_method_4_105 : decode prog_12_method_4_code 105 = .ok (.i2c, 1) := by decide +kernel
theorem d_prog_12_method_4_106 : decode prog_12_method_4_code 106 = .ok (.istore 6, 2) := by decide +kernel
theorem d_prog_12_method_4_108 : decode prog_12_method_4_code 108 = .ok (.goto 5, 3) := by decide +kernel
theorem d_prog_12_method_4_113 : decode prog_12_method_4_code 113 = .ok (.iload_n 3, 1) := by decide +kernel
theorem d_prog_12_method_4_114 : decode prog_12_method_4_code 114 = .ok (.ifCond .eq 12, 3) := by decide +kernel
theorem d_prog_12_method_4_126 : decode prog_12_method_4_code 126 = .ok (.aload_n 2, 1) := by decide +kernel
theorem d_prog_12_method_4_127 : decode prog_12_method_4_code 127 = .ok (.iload 6, 2) := by decide +kernel
theorem d_prog_12_method_4_129 : decode prog_12_method_4_code 129 = .ok (.invokestatic 56, 3) := by decide +kernel
theorem d_prog_12_method_4_132 : decode prog_12_method_4_code 132 = .ok (.ifCond .ne 5, 3) := by decide +kernel
theorem d_prog_12_method_4_135 : decode prog_12_method_4_code 135 = .ok (.aconst_null, 1) := by decide +kernel
theorem d_prog_12_method_4_136 : decode prog_12_method_4_code 136 = .ok (.areturn, 1) := by decide +kernel
theorem d_prog_12_method_4_117 : decode prog_12_method_4_code 117 = .ok (.aload_n 2, 1) := by decide +kernel
theorem d_prog_12_method_4_118 : decode prog_12_method_4_code 118 = .ok (.bipush 32, 2) := by decide +kernel
theorem d_prog_12_method_4_120 : decode prog_12_method_4_code 120 = .ok (.invokevirtual 52, 3) := by decide +kernel
theorem d_prog_12_method_4_123 : decode prog_12_method_4_code 123 = .ok (.pop, 1) := by decide +kernel
theorem d_prog_12_method_4_124 : decode prog_12_method_4_code 124 = .ok (.iconst 0, 1) := by decide +kernel
theorem d_prog_12_method_4_125 : decode prog_12_method_4_code 125 = .ok (.istore_n 3, 1) := by decide +kernel
theorem d_prog_12_method_4_69 : decode prog_12_method_4_code 69 = .ok (.iload 5, 2) := by decide +kernel
theorem d_prog_12_method_4_71 : decode prog_12_method_4_code 71 = .ok (.bipush 122, 2) := by decide +kernel
theorem d_prog_12_method_4_73 : decode prog_12_method_4_code 73 = .ok (.if_icmp .gt 10, 3) := by decide +kernel
theorem d_prog_12_method_4_76 : decode prog_12_method_4_code 76 = .ok (.iload 5, 2) := by decide +kernel
theorem d_prog_12_method_4_78 : decode prog_12_method_4_code 78 = .ok (.istore 6, 2) := by decide +kernel
theorem d_prog_12_method_4_80 : decode prog_12_method_4_code 80 = .ok (.goto 33, 3) := by decide +kernel
theorem d_prog_12_method_4_0 : decode prog_12_method_4_code 0 = .ok (.new 32, 3) := by decide +kernel
theorem d_prog_12_method_4_3 : decode prog_12_method_4_code 3 = .ok (.dup, 1) := by decide +kernel
theorem d_prog_12_method_4_4 : decode prog_12_method_4_code 4 = .ok (.aload_n 0, 1) := by decide +kernel
theorem d_prog_12_method_4_5 : decode prog_12_method_4_code 5 = .ok (.invokevirtual 34, 3) := by decide +kernel
theorem d_prog_12_method_4_8 : decode prog_12_method_4_code 8 = .ok (.bipush 51, 2) := by decide +kernel
theorem d_prog_12_method_4_10 : decode prog_12_method_4_code 10 = .ok (.invokestatic 38, 3) := by decide +kernel
theorem d_prog_12_method_4_13 : decode prog_12_method_4_code 13 = .ok (.invokespecial 44, 3) := by decide +kernel
theorem d_prog_12_method_4_16 : decode prog_12_method_4_code 16 = .ok (.astore_n 2, 1) := by decide +kernel
theorem d_prog_12_method_4_17 : decode prog_12_method_4_code 17 = .ok (.iconst 0, 1) := by decide +kernel
theorem d_prog_12_method_4_18 : decode prog_12_method_4_code 18 = .ok (.istore_n 3, 1) := by decide +kernel
theorem d_prog_12_method_4_19 : decode prog_12_method_4_code 19 = .ok (.iconst 0, 1) := by decide +kernel
theorem d_prog_12_method_4_20 : decode prog_12_method_4_code 20 = .ok (.istore 4, 2) := by decide +kernel
theorem d_jdk_32_method_1_0 : decode jdk_32_method_1_code 0 = .ok (.getstatic 1, 3) := by decide +kernel
theorem d_jdk_32_method_1_3 : decode jdk_32_method_1_code 3 = .ok (.astore_n 0, 1) := by decide +kernel
theorem d_jdk_32_method_1_4 : decode jdk_32_method_1_code 4 = .ok (.aload_n 0, 1) := by decide +kernel
theorem d_jdk_32_method_1_5 : decode jdk_32_method_1_code 5 = .ok (.areturn, 1) := by decide +kernel
theorem d_jdk_32_method_6_0 : decode jdk_32_method_6_code 0 = .ok (.aload_n 0, 1) := by decide +kernel
theorem d_jdk_32_method_6_1 : decode jdk_32_method_6_code 1 = .ok (.getfield 13, 3) := by decide +kernel
theorem d_jdk_32_method_6_4 : decode jdk_32_method_6_code 4 = .ok (.ifnull 7, 3) := by decide +kernel
theorem d_jdk_32_method_6_11 : decode jdk_32_method_6_code 11 = .ok (.iconst 0, 1) := by decide +kernel
theorem d_jdk_32_method_6_12 : decode jdk_32_method_6_code 12 = .ok (.ireturn, 1) := by decide +kernel
theorem d_jdk_32_method_6_7 : decode jdk_32_method_6_code 7 = .ok (.iconst 1, 1) := by decide +kernel
theorem d_jdk_32_method_6_8 : decode jdk_32_method_6_code 8 = .ok (.goto 4, 3) := by decide +kernel
theorem d_jdk_32_method_5_0 : decode jdk_32_method_5_code 0 = .ok (.aload_n 0, 1) := by decide +kernel
theorem d_jdk_32_method_5_1 : decode jdk_32_method_5_code 1 = .ok (.getfield 13, 3) := by decide +kernel
theorem d_jdk_32_method_5_4 : decode jdk_32_method_5_code 4 = .ok (.ifnonnull 13, 3) := by decide +kernel
theorem d_jdk_32_method_5_17 : decode jdk_32_method_5_code 17 = .ok (.aload_n 0, 1) := by decide +kernel
theorem d_jdk_32_method_5_18 : decode jdk_32_method_5_code 18 = .ok (.getfield 13, 3) := by decide +kernel
theorem d_jdk_32_method_5_21 : decode jdk_32_method_5_code 21 = .ok (.areturn, 1) := by decide +kernel
theorem d_jdk_31_method_10_0 : decode jdk_31_method_10_code 0 = .ok (.aload_n 0, 1) := by decide +kernel
theorem d_jdk_31_method_10_1 : decode jdk_31_method_10_code 1 = .ok (.ifnonnull 11, 3) := by decide +kernel
theorem d_jdk_31_method_10_12 : decode jdk_31_method_10_code 12 = .ok (.aload_n 0, 1) := by decide +kernel
theorem d_jdk_31_method_10_13 : decode jdk_31_method_10_code 13 = .ok (.areturn, 1) := by decide +kernel
theorem d_jdk_32_method_2_0 : decode jdk_32_method_2_code 0 = .ok (.aload_n 0, 1) := by decide +kernel
theorem d_jdk_32_method_2_1 : decode jdk_32_method_2_code 1 = .ok (.invokespecial 7, 3) := by decide +kernel
theorem d_jdk_32_method_2_4 : decode jdk_32_method_2_code 4 = .ok (.aload_n 0, 1) := by decide +kernel
theorem d_jdk_32_method_2_5 : decode jdk_32_method_2_code 5 = .ok (.aload_n 1, 1) := by decide +kernel
theorem d_jdk_32_method_2_6 : decode jdk_32_method_2_code 6 = .ok (.putfield 13, 3) := by decide +kernel
theorem d_jdk_32_method_2_9 : decode jdk_32_method_2_code 9 = .ok (.return_, 1) := by decide +kernel
theorem d_jdk_32_method_3_0 : decode jdk_32_method_3_code 0 = .ok (.new 2, 3) := by decide +kernel
theorem d_jdk_32_method_3_3 : decode jdk_32_method_3_code 3 = .ok (.dup, 1) := by decide +kernel
theorem d_jdk_32_method_3_4 : decode jdk_32_method_3_code 4 = .ok (.aload_n 0, 1) := by decide +kernel
theorem d_jdk_32_method_3_5 : decode jdk_32_method_3_code 5 = .ok (.invokestatic 17, 3) := by decide +kernel
theorem d_jdk_32_method_3_8 : decode jdk_32_method_3_code 8 = .ok (.invokespecial 23, 3) := by decide +kernel
theorem d_jdk_32_method_3_11 : decode jdk_32_method_3_code 11 = .ok (.areturn, 1) := by decide +kernel
theorem d_prog_12_method_2_0 : decode prog_12_method_2_code 0 = .ok (.aload_n 0, 1) := by decide +kernel
theorem d_prog_12_method_2_1 : decode prog_12_method_2_code 1 = .ok (.iconst 0, 1) := by decide +kernel
theorem d_prog_12_method_2_2 : decode prog_12_method_2_code 2 = .ok (.invokestatic 7, 3) := by decide +kernel
theorem d_prog_12_method_2_5 : decode prog_12_method_2_code 5 = .ok (.astore_n 1, 1) := by decide +kernel
theorem d_prog_12_method_2_6 : decode prog_12_method_2_code 6 = .ok (.aload_n 1, 1) := by decide +kernel
theorem d_prog_12_method_2_7 : decode prog_12_method_2_code 7 = .ok (.ifnull 10, 3) := by decide +kernel
theorem d_prog_12_method_2_17 : decode prog_12_method_2_code 17 = .ok (.invokestatic 19, 3) := by decide +kernel
theorem d_prog_12_method_2_20 : decode prog_12_method_2_code 20 = .ok (.areturn, 1) := by decide +kernel
theorem d_prog_12_method_2_10 : decode prog_12_method_2_code 10 = .ok (.aload_n 1, 1) := by decide +kernel
theorem d_prog_12_method_2_11 : decode prog_12_method_2_code 11 = .ok (.invokevirtual 13, 3) := by decide +kernel
theorem d_prog_12_method_2_14 : decode prog_12_method_2_code 14 = .ok (.ifCond .eq 7, 3) := by decide +kernel
theorem d_prog_12_method_2_21 : decode prog_12_method_2_code 21 = .ok (.aload_n 1, 1) := by decide +kernel
theorem d_prog_12_method_2_22 : decode prog_12_method_2_code 22 = .ok (.invokestatic 25, 3) := by decide +kernel
theorem d_prog_12_method_2_25 : decode prog_12_method_2_code 25 = .ok (.areturn, 1) := by decide +kernel
theorem d_method_2_0 : decode method_2_code 0 = .ok (.iload_n 0, 1) := by decide +kernel
theorem d_method_2_1 : decode method_2_code 1 = .ok (.iconst 3, 1) := by decide +kernel
theorem d_method_2_2 : decode method_2_code 2 = .ok (.iand, 1) := by decide +kernel
theorem d_method_2_3 : decode method_2_code 3 = .ok (.istore_n 1, 1) := by decide +kernel
theorem d_method_2_4 : decode method_2_code 4 = .ok (.iload_n 0, 1) := by decide +kernel
theorem d_method_2_5 : decode method_2_code 5 = .ok (.iconst 2, 1) := by decide +kernel
theorem d_method_2_6 : decode method_2_code 6 = .ok (.iushr, 1) := by decide +kernel
theorem d_method_2_7 : decode method_2_code 7 = .ok (.sipush 255, 3) := by decide +kernel
theorem d_method_2_10 : decode method_2_code 10 = .ok (.iand, 1) := by decide +kernel
theorem d_method_2_11 : decode method_2_code 11 = .ok (.istore_n 2, 1) := by decide +kernel
theorem d_method_2_12 : decode method_2_code 12 = .ok (.iload_n 1, 1) := by decide +kernel
theorem d_method_2_13 : decode method_2_code 13 = .ok (.ifCond .ne 6, 3) := by decide +kernel
theorem d_method_2_16 : decode method_2_code 16 = .ok (.bipush 32, 2) := by decide +kernel
theorem d_method_2_18 : decode method_2_code 18 = .ok (.ireturn, 1) := by decide +kernel
theorem d_method_2_19 : decode method_2_code 19 = .ok (.iload_n 1, 1) := by decide +kernel
theorem d_method_2_20 : decode method_2_code 20 = .ok (.iconst 1, 1) := by decide +kernel
theorem d_method_2_21 : decode method_2_code 21 = .ok (.if_icmp .ne 12, 3) := by decide +kernel
theorem d_method_2_24 : decode method_2_code 24 = .ok (.bipush 97, 2) := by decide +kernel
theorem d_method_2_26 : decode method_2_code 26 = .ok (.iload_n 2, 1) := by decide +kernel
theorem d_method_2_27 : decode method_2_code 27 = .ok (.bipush 26, 2) := by decide +kernel
theorem d_method_2_29 : decode method_2_code 29 = .ok (.irem, 1) := by decide +kernel
theorem d_method_2_30 : decode method_2_code 30 = .ok (.iadd, 1) := by decide +kernel
theorem d_method_2_31 : decode method_2_code 31 = .ok (.i2c, 1) := by decide +kernel
theorem d_method_2_32 : decode method_2_code 32 = .ok (.ireturn, 1) := by decide +kernel
theorem d_method_2_33 : decode method_2_code 33 = .ok (.iload_n 1, 1) := by decide +kernel
theorem d_method_2_34 : decode method_2_code 34 = .ok (.iconst 2, 1) := by decide +kernel
theorem d_method_2_35 : decode method_2_code 35 = .ok (.if_icmp .ne 12, 3) := by decide +kernel
theorem d_method_2_38 : decode method_2_code 38 = .ok (.bipush 65, 2) := by decide +kernel
theorem d_method_2_40 : decode method_2_code 40 = .ok (.iload_n 2, 1) := by decide +kernel
theorem d_method_2_41 : decode method_2_code 41 = .ok (.bipush 26, 2) := by decide +kernel
theorem d_method_2_43 : decode method_2_code 43 = .ok (.irem, 1) := by decide +kernel
theorem d_method_2_44 : decode method_2_code 44 = .ok (.iadd, 1) := by decide +kernel
theorem d_method_2_45 : decode method_2_code 45 = .ok (.i2c, 1) := by decide +kernel
theorem d_method_2_46 : decode method_2_code 46 = .ok (.ireturn, 1) := by decide +kernel
theorem d_method_2_47 : decode method_2_code 47 = .ok (.iload_n 2, 1) := by decide +kernel
theorem d_method_2_48 : decode method_2_code 48 = .ok (.i2c, 1) := by decide +kernel
theorem d_method_2_49 : decode method_2_code 49 = .ok (.ireturn, 1) := by decide +kernel
theorem d_method_3_0 : decode method_3_code 0 = .ok (.iload_n 0, 1) := by decide +kernel
theorem d_method_3_1 : decode method_3_code 1 = .ok (.bipush 32, 2) := by decide +kernel
theorem d_method_3_3 : decode method_3_code 3 = .ok (.ior, 1) := by decide +kernel
theorem d_method_3_4 : decode method_3_code 4 = .ok (.istore_n 1, 1) := by decide +kernel
theorem d_method_3_5 : decode method_3_code 5 = .ok (.iload_n 1, 1) := by decide +kernel
theorem d_method_3_6 : decode method_3_code 6 = .ok (.bipush 97, 2) := by decide +kernel
theorem d_method_3_8 : decode method_3_code 8 = .ok (.if_icmp .lt 13, 3) := by decide +kernel
theorem d_method_3_21 : decode method_3_code 21 = .ok (.iconst 0, 1) := by decide +kernel
theorem d_method_3_22 : decode method_3_code 22 = .ok (.ireturn, 1) := by decide +kernel
theorem d_method_3_11 : decode method_3_code 11 = .ok (.iload_n 1, 1) := by decide +kernel
theorem d_method_3_12 : decode method_3_code 12 = .ok (.bipush 122, 2) := by decide +kernel
theorem d_method_3_14 : decode method_3_code 14 = .ok (.if_icmp .gt 7, 3) := by decide +kernel
theorem d_method_3_17 : decode method_3_code 17 = .ok (.iconst 1, 1) := by decide +kernel
theorem d_method_3_18 : decode method_3_code 18 = .ok (.goto 4, 3) := by decide +kernel
theorem d_method_4_0 : decode method_4_code 0 = .ok (.iload_n 2, 1) := by decide +kernel
theorem d_method_4_1 : decode method_4_code 1 = .ok (.bipush 32, 2) := by decide +kernel
theorem d_method_4_3 : decode method_4_code 3 = .ok (.if_icmp .ne 4, 3) := by decide +kernel
theorem d_method_4_6 : decode method_4_code 6 = .ok (.return_, 1) := by decide +kernel
theorem d_method_4_7 : decode method_4_code 7 = .ok (.iload_n 2, 1) := by decide +kernel
theorem d_method_4_8 : decode method_4_code 8 = .ok (.invokestatic 7, 3) := by decide +kernel
theorem d_method_4_11 : decode method_4_code 11 = .ok (.ifCond .ne 8, 3) := by decide +kernel
theorem d_method_4_14 : decode method_4_code 14 = .ok (.aload_n 1, 1) := by decide +kernel
theorem d_method_4_15 : decode method_4_code 15 = .ok (.iconst 2, 1) := by decide +kernel
theorem d_method_4_16 : decode method_4_code 16 = .ok (.iconst 1, 1) := by decide +kernel
theorem d_method_4_17 : decode method_4_code 17 = .ok (.iastore, 1) := by decide +kernel
theorem d_method_4_18 : decode method_4_code 18 = .ok (.return_, 1) := by decide +kernel
theorem d_method_4_19 : decode method_4_code 19 = .ok (.aload_n 1, 1) := by decide +kernel
theorem d_method_4_20 : decode method_4_code 20 = .ok (.iconst 1, 1) := by decide +kernel
theorem d_method_4_21 : decode method_4_code 21 = .ok (.iaload, 1) := by decide +kernel
theorem d_method_4_22 : decode method_4_code 22 = .ok (.bipush (-100), 2) := by decide +kernel
theorem d_method_4_24 : decode method_4_code 24 = .ok (.if_icmp .eq 27, 3) := by decide +kernel
theorem d_method_4_51 : decode method_4_code 51 = .ok (.aload_n 0, 1) := by decide +kernel
theorem d_method_4_52 : decode method_4_code 52 = .ok (.aload_n 1, 1) := by decide +kernel
theorem d_method_4_53 : decode method_4_code 53 = .ok (.iconst 0, 1) := by decide +kernel
theorem d_method_4_54 : decode method_4_code 54 = .ok (.iaload, 1) := by decide +kernel
theorem d_method_4_55 : decode method_4_code 55 = .ok (.iload_n 2, 1) := by decide +kernel
theorem d_method_4_56 : decode method_4_code 56 = .ok (.bipush 32, 2) := by decide +kernel
theorem d_method_4_58 : decode method_4_code 58 = .ok (.ior, 1) := by decide +kernel
theorem d_method_4_59 : decode method_4_code 59 = .ok (.i2c, 1) := by decide +kernel
theorem d_method_4_60 : decode method_4_code 60 = .ok (.castore, 1) := by decide +kernel
theorem d_method_4_61 : decode method_4_code 61 = .ok (.aload_n 1, 1) := by decide +kernel
theorem d_method_4_62 : decode method_4_code 62 = .ok (.iconst 0, 1) := by decide +kernel
theorem d_method_4_63 : decode method_4_code 63 = .ok (.aload_n 1, 1) := by decide +kernel
theorem d_method_4_64 : decode method_4_code 64 = .ok (.iconst 0, 1) := by decide +kernel
theorem d_method_4_65 : decode method_4_code 65 = .ok (.iaload, 1) := by decide +kernel
theorem d_method_4_66 : decode method_4_code 66 = .ok (.iconst 1, 1) := by decide +kernel
theorem d_method_4_67 : decode method_4_code 67 = .ok (.iadd, 1) := by decide +kernel
theorem d_method_4_68 : decode method_4_code 68 = .ok (.iastore, 1) := by decide +kernel
theorem d_method_4_69 : decode method_4_code 69 = .ok (.aload_n 1, 1) := by decide +kernel
theorem d_method_4_70 : decode method_4_code 70 = .ok (.iconst 1, 1) := by decide +kernel
theorem d_method_4_71 : decode method_4_code 71 = .ok (.iload_n 3, 1) := by decide +kernel
theorem d_method_4_72 : decode method_4_code 72 = .ok (.iastore, 1) := by decide +kernel
theorem d_method_4_73 : decode method_4_code 73 = .ok (.return_, 1) := by decide +kernel
theorem d_method_4_27 : decode method_4_code 27 = .ok (.iload_n 3, 1) := by decide +kernel
theorem d_method_4_28 : decode method_4_code 28 = .ok (.aload_n 1, 1) := by decide +kernel
theorem d_method_4_29 : decode method_4_code 29 = .ok (.iconst 1, 1) := by decide +kernel
theorem d_method_4_30 : decode method_4_code 30 = .ok (.iaload, 1) := by decide +kernel
theorem d_method_4_31 : decode method_4_code 31 = .ok (.isub, 1) := by decide +kernel
theorem d_method_4_32 : decode method_4_code 32 = .ok (.iconst 1, 1) := by decide +kernel
theorem d_method_4_33 : decode method_4_code 33 = .ok (.if_icmp .le 18, 3) := by decide +kernel
theorem d_method_4_36 : decode method_4_code 36 = .ok (.aload_n 0, 1) := by decide +kernel
theorem d_method_4_37 : decode method_4_code 37 = .ok (.aload_n 1, 1) := by decide +kernel
theorem d_method_4_38 : decode method_4_code 38 = .ok (.iconst 0, 1) := by decide +kernel
theorem d_method_4_39 : decode method_4_code 39 = .ok (.iaload, 1) := by decide +kernel
theorem d_method_4_40 : decode method_4_code 40 = .ok (.bipush 32, 2) := by decide +kernel
theorem d_method_4_42 : decode method_4_code 42 = .ok (.castore, 1) := by decide +kernel
theorem d_method_4_43 : decode method_4_code 43 = .ok (.aload_n 1, 1) := by decide +kernel
theorem d_method_4_44 : decode method_4_code 44 = .ok (.iconst 0, 1) := by decide +kernel
theorem d_method_4_45 : decode method_4_code 45 = .ok (.aload_n 1, 1) := by decide +kernel
theorem d_method_4_46 : decode method_4_code 46 = .ok (.iconst 0, 1) := by decide +kernel
theorem d_method_4_47 : decode method_4_code 47 = .ok (.iaload, 1) := by decide +kernel
theorem d_method_4_48 : decode method_4_code 48 = .ok (.iconst 1, 1) := by decide +kernel
theorem d_method_4_49 : decode method_4_code 49 = .ok (.iadd, 1) := by decide +kernel
theorem d_method_4_50 : decode method_4_code 50 = .ok (.iastore, 1) := by decide +kernel
theorem d_method_5_0 : decode method_5_code 0 = .ok (.iload 4, 2) := by decide +kernel
theorem d_method_5_2 : decode method_5_code 2 = .ok (.iload_n 3, 1) := by decide +kernel
theorem d_method_5_3 : decode method_5_code 3 = .ok (.if_icmp .ge 18, 3) := by decide +kernel
theorem d_method_5_21 : decode method_5_code 21 = .ok (.iconst 1, 1) := by decide +kernel
theorem d_method_5_22 : decode method_5_code 22 = .ok (.goto 4, 3) := by decide +kernel
theorem d_method_5_26 : decode method_5_code 26 = .ok (.ireturn, 1) := by decide +kernel
theorem d_method_5_6 : decode method_5_code 6 = .ok (.aload_n 0, 1) := by decide +kernel
theorem d_method_5_7 : decode method_5_code 7 = .ok (.iload_n 2, 1) := by decide +kernel
theorem d_method_5_8 : decode method_5_code 8 = .ok (.iload 4, 2) := by decide +kernel
theorem d_method_5_10 : decode method_5_code 10 = .ok (.iadd, 1) := by decide +kernel
theorem d_method_5_11 : decode method_5_code 11 = .ok (.invokevirtual 13, 3) := by decide +kernel
theorem d_method_5_14 : decode method_5_code 14 = .ok (.aload_n 1, 1) := by decide +kernel
theorem d_method_5_15 : decode method_5_code 15 = .ok (.iload 4, 2) := by decide +kernel
theorem d_method_5_17 : decode method_5_code 17 = .ok (.caload, 1) := by decide +kernel
theorem d_method_5_18 : decode method_5_code 18 = .ok (.if_icmp .ne 7, 3) := by decide +kernel
abbrev EL1 : List (String × Nat) := []
theorem el {Z : State} {a0 : Array Value} (hw : Hw Z a0) : EW Z a0 EL1 := EW.nil
def low (c : Int32) : Int32 := (c ||| 32).toUInt32.toUInt16.toUInt32.toInt32
def letter (c : Int32) : Bool := decide (¬ (c ||| 32) < 97 ∧ ¬ 122 < (c ||| 32))
theorem let_all : ∀ n : Fin 256, (letter (Int32.ofNat n) = true ↔ ((¬ Int32.ofNat n < 97 ∧ ¬ 122 < Int32.ofNat n) ∨ (¬ Int32.ofNat n < 65 ∧ ¬ 90 < Int32.ofNat n))) ∧ ((¬ Int32.ofNat n < 97 ∧ ¬ 122 < Int32.ofNat n) → low (Int32.ofNat n) = Int32.ofNat n) ∧ ((¬ Int32.ofNat n < 65 ∧ ¬ 90 < Int32.ofNat n) → low (Int32.ofNat n) = (Int32.ofNat n - 65 + 97).toUInt32.toUInt16.toUInt32.toInt32) ∧ (¬ low (Int32.ofNat n) < 0 ∧ ¬ 255 < low (Int32.ofNat n)) := by decide +kernel
theorem let_spec {c : Int32} (h : L1 c) : (letter c = true ↔ ((¬ c < 97 ∧ ¬ 122 < c) ∨ (¬ c < 65 ∧ ¬ 90 < c))) ∧ ((¬ c < 97 ∧ ¬ 122 < c) → low c = c) ∧ ((¬ c < 65 ∧ ¬ 90 < c) → low c = (c - 65 + 97).toUInt32.toUInt16.toUInt32.toInt32) ∧ L1 (low c) := by
  have r := h.rng
  obtain ⟨n, hn, rfl⟩ : ∃ n : Nat, n < 256 ∧ c = Int32.ofNat n := ⟨c.toInt.toNat, by omega, Int32.toInt_inj.mp (by rw [n_toInt (by omega)]; omega)⟩
  exact let_all ⟨n, hn⟩
def gp : Option Nat → Bool
  | some (_ + 1) => true
  | _ => false
def nrm : List Int32 → List Int32 → Bool → Option (List Int32)
  | [], out, _ => some out
  | c :: cs, out, pd => if c = 32 then nrm cs out (decide (0 < out.length)) else if letter c = true then (if (if pd = true then out ++ [32] else out).length < 50 then nrm cs ((if pd = true then out ++ [32] else out) ++ [low c]) false else none) else none
def stp (c : Int32) (σ : List Int32 × Option Nat × Bool) : List Int32 × Option Nat × Bool :=
  if c = 32 then (σ.1, σ.2.1.map (· + 1), σ.2.2) else if letter c = true then ((if gp σ.2.1 = true then σ.1 ++ [32] else σ.1) ++ [low c], some 0, σ.2.2) else (σ.1, σ.2.1.map (· + 1), true)
theorem stp_bad {c : Int32} {σ : List Int32 × Option Nat × Bool} (h : σ.2.2 = true) : (stp c σ).2.2 = true := by
  unfold stp; split
  · exact h
  · split
    · exact h
    · rfl
theorem stp_len (c : Int32) (σ : List Int32 × Option Nat × Bool) : σ.1.length ≤ (stp c σ).1.length := by
  unfold stp; split
  · exact Nat.le_refl _
  · split
    · split <;> simp only [List.length_append, List.length_cons, List.length_nil] <;> omega
    · exact Nat.le_refl _
theorem fold_bad : ∀ (ds : List Int32) (σ : List Int32 × Option Nat × Bool), σ.2.2 = true → (ds.foldl (fun σ c => stp c σ) σ).2.2 = true
  | [], _, h => h
  | _ :: ds, _, h => fold_bad ds _ (stp_bad h)
theorem fold_len : ∀ (ds : List Int32) (σ : List Int32 × Option Nat × Bool), σ.1.length ≤ (ds.foldl (fun σ c => stp c σ) σ).1.length
  | [], _ => Nat.le_refl _
  | c :: ds, σ => Nat.le_trans (stp_len c σ) (fold_len ds (stp c σ))
theorem nrm_eq (B : List Int32) : ∀ (ds t : List Int32) (g : Option Nat), B.length + t.length ≤ 50 → (g = none ↔ B ++ t = []) →
    nrm ds (B ++ t) (gp g) = if (ds.foldl (fun σ c => stp c σ) (t, g, false)).2.2 = true ∨ 50 < B.length + (ds.foldl (fun σ c => stp c σ) (t, g, false)).1.length then none else some (B ++ (ds.foldl (fun σ c => stp c σ) (t, g, false)).1) := by
  intro ds
  induction ds with
  | nil =>
    intro t g hl _
    have hn : ¬ (false = true ∨ 50 < B.length + t.length) := by intro q; rcases q with q | q; cases q; omega
    show some (B ++ t) = if false = true ∨ 50 < B.length + t.length then none else some (B ++ t)
    rw [if_neg hn]
  | cons c ds ih =>
    intro t g hl hg
    rw [List.foldl_cons]
    by_cases h32 : c = 32
    · have e1 : stp c (t, g, false) = (t, g.map (· + 1), false) := by unfold stp; rw [if_pos h32]
      have e2 : decide (0 < (B ++ t).length) = gp (g.map (· + 1)) := by
        cases g with
        | none => rw [hg.mp rfl]; rfl
        | some k =>
          have : ¬ B ++ t = [] := fun q => by cases hg.mpr q
          have h0 : 0 < (B ++ t).length := List.length_pos_iff.mpr this
          rw [decide_eq_true h0]; rfl
      have e3 : nrm (c :: ds) (B ++ t) (gp g) = nrm ds (B ++ t) (gp (g.map (· + 1))) := by rw [nrm, if_pos h32, e2]
      rw [e3, e1]
      exact ih t _ hl (by rw [← hg]; cases g <;> simp)
    · by_cases hl2 : letter c = true
      · have e1 : stp c (t, g, false) = ((if gp g = true then t ++ [32] else t) ++ [low c], some 0, false) := by unfold stp; rw [if_neg h32, if_pos hl2]
        have e2 : (if gp g = true then (B ++ t) ++ [32] else B ++ t) = B ++ (if gp g = true then t ++ [32] else t) := by split <;> simp
        rw [nrm, if_neg h32, if_pos hl2, e2, e1]
        generalize (if gp g = true then t ++ [32] else t) = t1
        by_cases h50 : (B ++ t1).length < 50
        · rw [if_pos h50, List.append_assoc]
          exact ih (t1 ++ [low c]) (some 0) (by simp only [List.length_append, List.length_cons, List.length_nil] at h50 ⊢; omega) (by simp)
        · rw [if_neg h50]
          have := fold_len ds (t1 ++ [low c], some 0, false)
          simp only [List.length_append, List.length_cons, List.length_nil] at h50 this
          rw [if_pos (Or.inr (by omega))]
      · have e1 : stp c (t, g, false) = (t, g.map (· + 1), true) := by unfold stp; rw [if_neg h32, if_neg hl2]
        rw [nrm, if_neg h32, if_neg hl2, e1, if_pos (Or.inl (fold_bad ds _ rfl))]
theorem nrm_q (ds : List Int32) : ∀ (k : Nat) (out : List Int32), out.length + k ≤ 50 → nrm (List.replicate k 113 ++ ds) out false = nrm ds (out ++ List.replicate k 113) false := by
  intro k
  induction k with
  | zero => intro out _; simp
  | succ k ih =>
    intro out h
    have e : List.replicate (k + 1) (113 : Int32) ++ ds = 113 :: (List.replicate k 113 ++ ds) := by rw [List.replicate_succ]; rfl
    have h113 : ¬ (113 : Int32) = 32 := by decide
    have hl : letter 113 = true := by decide
    have hlow : low 113 = 113 := by decide
    rw [e, nrm, if_neg h113, if_pos hl, if_neg (by decide : ¬ false = true), if_pos (by omega), hlow, ih _ (by simp only [List.length_append, List.length_cons, List.length_nil]; omega), List.append_assoc]
    rfl
def lastOf (pos : Nat) : Option Nat → Int32
  | none => -100
  | some g => Int32.ofInt ((pos : Int) - 1 - (g : Int))
theorem last_up (pos : Nat) (g : Option Nat) : lastOf (pos + 1) (g.map (· + 1)) = lastOf pos g := by
  cases g with
  | none => rfl
  | some g =>
    show Int32.ofInt (((pos + 1 : Nat) : Int) - 1 - ((g + 1 : Nat) : Int)) = Int32.ofInt ((pos : Int) - 1 - (g : Int))
    congr 1; omega
theorem last_int {pos g : Nat} (h : pos ≤ 5) (hg : g ≤ pos) : (lastOf pos (some g)).toInt = (pos : Int) - 1 - (g : Int) := by
  show (Int32.ofInt _).toInt = _
  exact Int32.toInt_ofInt_of_le (by omega) (by omega)
theorem last_0 (pos : Nat) : lastOf (pos + 1) (some 0) = Int32.ofNat pos := by
  show Int32.ofInt (((pos + 1 : Nat) : Int) - 1 - ((0 : Nat) : Int)) = Int32.ofNat pos
  rw [show ((pos + 1 : Nat) : Int) - 1 - ((0 : Nat) : Int) = (pos : Int) by omega]; rfl
theorem last_ne {pos g : Nat} (h : pos ≤ 5) (hg : g ≤ pos) : ¬ lastOf pos (some g) = -100 := fun q => by
  have := last_int h hg
  rw [q] at this
  have e : (-100 : Int32).toInt = -100 := rfl
  omega
theorem last_sub {pos g : Nat} (h : pos ≤ 5) (hg : g ≤ pos) : (Int32.ofNat pos - lastOf pos (some g)).toInt = 1 + (g : Int) := by
  have q := c_isub (Int32.ofNat pos) (lastOf pos (some g))
  have r := rng32 (Int32.ofNat pos - lastOf pos (some g))
  rw [last_int h hg, n_toInt (by omega)] at q
  omega
/-- the law's two arrays -/
def TA (Z : State) (h : Heap) (tl st : Addr) (kt ks : ClassId) (pos : Nat) (t : List Int32) (g : Option Nat) (bad : Bool) : Prop :=
  Arv Z h tl kt .char 6 (t.map cv ++ List.replicate (6 - t.length) (.int 0)) (.int 0) ∧ Arv Z h st ks .int 3 [.int (Int32.ofNat t.length), .int (lastOf pos g), .int (if bad = true then 1 else 0)] (.int 0) ∧ t.length + g.getD 0 ≤ pos ∧ (∀ c ∈ t, L1 c)
theorem tset {t : List Int32} {x : Int32} (h : t.length < 6) : (t.map cv ++ List.replicate (6 - t.length) (Value.int 0)).set t.length (Value.int x) = (t ++ [x]).map cv ++ List.replicate (6 - (t ++ [x]).length) (Value.int 0) := by
  have e1 : 6 - t.length = (6 - (t ++ [x]).length) + 1 := by simp only [List.length_append, List.length_cons, List.length_nil]; omega
  have e2 : (t.map cv).length = t.length := by simp
  rw [e1, List.replicate_succ, List.set_append_right _ _ (by omega), e2, Nat.sub_self, List.set_cons_zero, List.map_append, List.append_assoc]
  rfl
theorem sset {cs : List Int32} {r : List Value} {x : Int32} (h : 0 < r.length) : (cs.map bv ++ r).set cs.length (.int x.toInt8.toInt32) = (cs ++ [x]).map bv ++ r.drop 1 := by
  cases r with
  | nil => simp at h
  | cons y r =>
    have e2 : (cs.map bv).length = cs.length := by simp
    rw [List.set_append_right _ _ (by omega), e2, Nat.sub_self, List.set_cons_zero, List.map_append, List.append_assoc]
    rfl
theorem drop_cons {cs : List Int32} {i : Nat} (h : i < cs.length) : cs.drop i = cs.getD i 0 :: cs.drop (i + 1) := by
  rw [List.drop_eq_getElem_cons h, List.getD_eq_getElem?_getD, List.getElem?_eq_getElem h]; rfl
/-- Optional's empty one -/
def OE (Z : State) : Prop := ∃ em : Addr, Sta Z Z.heap "java/util/Optional" "EMPTY" "Ljava/util/Optional;" (.ref em) ∧ Exa Z Z.heap em "java/util/Optional" ∧ Fld Z Z.heap em "java/util/Optional" "value" "Ljava/lang/Object;" .null
set_option maxRecDepth 65536 in
set_option maxHeartbeats 40000000 in
theorem lp_compress {p : Program} {l : Launch} {e : Env} {R : Room} {s : State} {m : MethodId} {args : Array Value} {below : List Frame} {meth : Method} {c : Code} {Z : State} {a0 : Array Value} (hw : Hw Z a0) {n0 : Nat} {cells slots : Nat} (hc : cells ≤ R.cells) (hl : slots ≤ R.slots) {a d : Addr} {ka kd : ClassId} {cs : List Int32} {n : Nat} (hn : cs.length = n) (hbig : n < 2147483648) {hh : Heap} (hne : a ≠ d) : ∀ (r i : Nat), i + r = n → ∀ (T : State) (vm : Vm) (h : Heap) (o : Slot), One o → (∀ c ∈ cs.take i, ¬ 255 < c) → Wk p l e R s m args below meth c Z a0 EL1 n0 "java/lang/StringUTF16" "compress" jdk_52_method_21_code 7 (some .int) T vm h cells slots → Arv Z h a ka .char (Int32.ofNat n) (cs.map cv) (.int 0) → Arv Z h d kd .byte (Int32.ofNat n) ((cs.take i).map bv ++ List.replicate (n - i) (.int 0)) (.int 0) → Mine Z EL1 n0 vm h d → Keep hh h [d] → Go p e below s R Z EL1 n0 (fun v vm' h' => ∃ k, k ≤ n ∧ v = some (.int (Int32.ofNat k)) ∧ (∀ c ∈ cs.take k, ¬ 255 < c) ∧ (k < n → 255 < cs.getD k 0) ∧ Keep hh h' [d] ∧ Arv Z h' d kd .byte (Int32.ofNat n) ((cs.take k).map bv ++ List.replicate (n - k) (.int 0)) (.int 0)) (T.setTop (mkF m 3 #[rv a, iv (Int32.ofNat i), rv d, iv (Int32.ofNat i), iv (Int32.ofNat n), iv (Int32.ofNat i), o] [])) := by
  intro r
  induction r with
  | zero =>
    intro i hi T vm h o ho hle W A D M K
    obtain rfl : i = n := by omega
    refine s_iload (pc' := 5) W d_jdk_52_method_21_3 rfl rfl ?_
    refine s_iload (pc' := 7) W d_jdk_52_method_21_5 rfl rfl ?_
    refine s_icmpge (pc' := 10) (pcT := 44) W d_jdk_52_method_21_7 (by decide) rfl rfl (fun _ => ?_) (fun hq => absurd hq (n_ge (Nat.le_refl _) hbig))
    refine s_iload (pc' := 46) W d_jdk_52_method_21_44 rfl rfl ?_
    refine s_ireturn W rfl d_jdk_52_method_21_46 hc hl ?_
    intro vm' C'
    exact ⟨i, Nat.le_refl _, rfl, hle, fun q => absurd q (Nat.lt_irrefl _), K, D⟩
  | succ r ih =>
    intro i hi T vm h o ho hle W A D M K
    have hin : i < n := by omega
    have hi31 : i < 2147483648 := by omega
    refine s_iload (pc' := 5) W d_jdk_52_method_21_3 rfl rfl ?_
    refine s_iload (pc' := 7) W d_jdk_52_method_21_5 rfl rfl ?_
    refine s_icmpge (pc' := 10) (pcT := 44) W d_jdk_52_method_21_7 (by decide) rfl rfl (fun hq => absurd (n_lt hin hbig) hq) (fun _ => ?_)
    refine s_aload_n (pc' := 11) W d_jdk_52_method_21_10 rfl rfl rfl ?_
    refine s_iload_n (pc' := 12) W d_jdk_52_method_21_11 rfl rfl ?_
    refine s_caload (pc' := 13) W (.int (cs.getD i 0)) A (n_nn hi31) (n_lt hin hbig) (by rw [n_clamp hi31]; exact cv_getD cs i) d_jdk_52_method_21_12 rfl ?_
    refine s_istore (pc' := 15) W #[rv a, iv (Int32.ofNat i), rv d, iv (Int32.ofNat i), iv (Int32.ofNat n), iv (Int32.ofNat i), iv (cs.getD i 0)] d_jdk_52_method_21_13 (Jvm.Free.XS.store1 (i := 6) rfl ho rfl) rfl ?_
    refine s_iload (pc' := 17) W d_jdk_52_method_21_15 rfl rfl ?_
    refine s_sipush (pc' := 20) W (255 : Int32) d_jdk_52_method_21_17 rfl rfl ?_
    refine s_icmple (pc' := 23) (pcT := 26) W d_jdk_52_method_21_20 (by decide) rfl rfl (fun hx => ?_) (fun hx => ?_)
    · refine s_aload_n (pc' := 27) W d_jdk_52_method_21_26 rfl rfl rfl ?_
      refine s_iload_n (pc' := 28) W d_jdk_52_method_21_27 rfl rfl ?_
      refine s_iload (pc' := 30) W d_jdk_52_method_21_28 rfl rfl ?_
      refine s_i2b (pc' := 31) W d_jdk_52_method_21_30 rfl ?_
      refine s_bastore (pc' := 32) W i D M (n_clamp hi31) (n_nn hi31) (n_lt hin hbig) (by rw [len_mid hn (Nat.le_of_lt hin)]; exact hin) d_jdk_52_method_21_31 rfl ?_
      intro T h W K1 C1 Vn1
      replace A := A.keep K1 (ninS hne nin0)
      replace M := M.mv C1
      have D := Vn1
      clear Vn1
      replace K := K.trans K1 (fun x hx => Or.inl hx)
      rw [bb, set_step hn hin (x := .int (cs.getD i 0).toInt8.toInt32) rfl] at D
      refine s_iinc (pc' := 35) W (1 : Int32) #[rv a, iv ((Int32.ofNat i) + (1 : Int32)), rv d, iv (Int32.ofNat i), iv (Int32.ofNat n), iv (Int32.ofNat i), iv (cs.getD i 0)] d_jdk_52_method_21_32 rfl rfl rfl rfl ?_
      refine s_iinc (pc' := 38) W (1 : Int32) #[rv a, iv ((Int32.ofNat i) + (1 : Int32)), rv d, iv ((Int32.ofNat i) + (1 : Int32)), iv (Int32.ofNat n), iv (Int32.ofNat i), iv (cs.getD i 0)] d_jdk_52_method_21_35 rfl rfl rfl rfl ?_
      refine s_iinc (pc' := 41) W (1 : Int32) #[rv a, iv ((Int32.ofNat i) + (1 : Int32)), rv d, iv ((Int32.ofNat i) + (1 : Int32)), iv (Int32.ofNat n), iv ((Int32.ofNat i) + (1 : Int32)), iv (cs.getD i 0)] d_jdk_52_method_21_38 rfl rfl rfl rfl ?_
      refine s_goto (pc' := 3) W d_jdk_52_method_21_41 (by decide) rfl ?_
      simp only [n_succ]
      exact ih (i + 1) (by omega) T _ h _ (One.val rfl) (mem_take_succ (by omega) hle hx) W A D M K
    · refine s_iload (pc' := 25) W d_jdk_52_method_21_23 rfl rfl ?_
      refine s_ireturn W rfl d_jdk_52_method_21_25 hc hl ?_
      intro vm' C'
      exact ⟨i, Nat.le_of_lt hin, rfl, hle, fun _ => hx, K, D⟩
set_option maxRecDepth 65536 in
set_option maxHeartbeats 40000000 in
theorem ef_compress5 (m : MethodId) (x0 : Addr) (x1 : Int32) (x2 : Addr) (x3 : Int32) (x4 : Int32) : entryFrame m #[(.ref x0), (.int x1), (.ref x2), (.int x3), (.int x4)] 7 = mkF m 0 #[.val (.ref x0), .val (.int x1), .val (.ref x2), .val (.int x3), .val (.int x4), .unset, .unset] [] := by first | (simp [entryFrame, mkF, argsToLocals, Value.category]; done) | rfl
set_option maxRecDepth 65536 in
set_option maxHeartbeats 40000000 in
theorem c_compress5 (l : Launch) {Z : State} {a0 : Array Value} (hw : Hw Z a0) {n0 : Nat} {h : Heap} (O : Old Z n0 h) {a d : Nat} {ka kd : ClassId} {cs : List Int32} {n : Nat} (hn : cs.length = n) (hbig : n < 2147483648) (hne : a ≠ d) (A : Arv Z h a ka .char (Int32.ofNat n) (cs.map cv) (.int 0)) (D : Arv Z h d kd .byte (Int32.ofNat n) (List.replicate n (.int 0)) (.int 0)) (M0 : n0 ≤ d) (Md : d < h.size) :
    Con l Z EL1 n0 (⟨"java/lang/StringUTF16", "compress", "([CI[BII)I"⟩ : MethodName) jdk_52_method_21_code 7 (some .int) [] ({ frames := 0, cells := 0, slots := 0, locals := 0 } : Room) #[(.ref a), (.int (0 : Int32)), (.ref d), (.int (0 : Int32)), (.int (Int32.ofNat n))] h [d] (fun v vm' h' => ∃ k, k ≤ n ∧ v = some (.int (Int32.ofNat k)) ∧ (∀ c ∈ cs.take k, ¬ 255 < c) ∧ (k < n → 255 < cs.getD k 0) ∧ Keep h h' [d] ∧ Arv Z h' d kd .byte (Int32.ofNat n) ((cs.take k).map bv ++ List.replicate (n - k) (.int 0)) (.int 0)) := by
  refine Con.of pn0 O (el hw) ?_
  intro pg_ e s m below meth cd_ T W hs_ hSf
  rw [ef_compress5]
  refine s_iconst (pc' := 1) W (0 : Int32) d_jdk_52_method_21_0 rfl rfl ?_
  refine s_istore (pc' := 3) W #[rv a, iv (0 : Int32), rv d, iv (0 : Int32), iv (Int32.ofNat n), iv (0 : Int32), .unset] d_jdk_52_method_21_1 rfl rfl ?_
  have Qs := lp_compress (e := e) (R := ({ frames := 0, cells := 0, slots := 0, locals := 0 } : Room)) hw (Nat.le_refl _) (Nat.le_refl _) (cs := cs) (n := n) hn hbig (hh := h) hne n 0 (Nat.zero_add n) T s.vm h .unset One.u (fun c hc => by simp at hc) W A (by simpa using D) ⟨M0, Md, hSf d (by simp)⟩ (Keep.refl _ _)
  exact Qs
set_option maxRecDepth 65536 in
set_option maxHeartbeats 40000000 in
theorem ef_compress3 (m : MethodId) (x0 : Addr) (x1 : Int32) (x2 : Int32) : entryFrame m #[(.ref x0), (.int x1), (.int x2)] 6 = mkF m 0 #[.val (.ref x0), .val (.int x1), .val (.int x2), .unset, .unset, .unset] [] := by first | (simp [entryFrame, mkF, argsToLocals, Value.category]; done) | rfl
set_option maxRecDepth 65536 in
set_option maxHeartbeats 40000000 in
theorem c_compress3 (l : Launch) {Z : State} {a0 : Array Value} (hw : Hw Z a0) {n0 : Nat} {h : Heap} (O : Old Z n0 h) {a : Nat} {ka : ClassId} {cs : List Int32} {n : Nat} (hn : cs.length = n) (hbig : n ≤ 4096) (hL : ∀ c ∈ cs, L1 c) (A : Arv Z h a ka .char (Int32.ofNat n) (cs.map cv) (.int 0)) :
    Con l Z EL1 n0 (⟨"java/lang/StringUTF16", "compress", "([CII)[B"⟩ : MethodName) jdk_52_method_16_code 6 (some (.array .byte)) [] ({ frames := 1, cells := 1, slots := n, locals := 18 } : Room) #[(.ref a), (.int (0 : Int32)), (.int (Int32.ofNat n))] h [] (fun v vm' h' => ∃ b kb, v = some (.ref b) ∧ Keep h h' [] ∧ Arv Z h' b kb .byte (Int32.ofNat n) (cs.map bv) (.int 0) ∧ h.size ≤ b) := by
  refine Con.of pn1 O (el hw) ?_
  intro pg_ e s m below meth cd_ T W hs_ hSf
  rw [ef_compress3]
  have hn31 : n < 2147483648 := by omega
  refine s_iload_n (pc' := 1) W d_jdk_52_method_16_0 rfl rfl ?_
  refine s_newarr (pc' := 3) W (aty := .byte) n "[B" (by decide) (w23 hw) d_jdk_52_method_16_1 (n_nn hn31) (by rw [n_clamp hn31]; exact Nat.le_refl _) (by omega) (by (try dsimp only) <;> omega) (by (try dsimp only) <;> omega) rfl ?_
  intro b T h k_b g_b
  have ne_a_b : @Ne Nat a b := by have := nlt A.lt; omega
  intro W K1 C1 M_b V_b X_b
  replace A := A.keep K1 nin0
  have V_b : Arv Z h b k_b .byte (Int32.ofNat n) (List.replicate n (.int 0)) (.int 0) := by have q := V_b; rw [n_clamp hn31] at q; exact q
  have K0 := K1
  refine s_astore_n (pc' := 4) W #[rv a, iv (0 : Int32), iv (Int32.ofNat n), rv b, .unset, .unset] d_jdk_52_method_16_3 rfl rfl rfl ?_
  refine s_aload_n (pc' := 5) W d_jdk_52_method_16_4 rfl rfl rfl ?_
  refine s_iload_n (pc' := 6) W d_jdk_52_method_16_5 rfl rfl ?_
  refine s_aload_n (pc' := 7) W d_jdk_52_method_16_6 rfl rfl rfl ?_
  refine s_iconst (pc' := 8) W (0 : Int32) d_jdk_52_method_16_7 rfl rfl ?_
  refine s_iload_n (pc' := 9) W d_jdk_52_method_16_8 rfl rfl ?_
  refine s_static (pc' := 12) W (w24 hw) (w25 hw) (w21 hw) (w26 hw) (by decide) pd0 [(.ref a), (.int (0 : Int32)), (.ref b), (.int (0 : Int32)), (.int (Int32.ofNat n))] rfl (c_compress5 l hw W.old hn hn31 ne_a_b A V_b M_b.1 M_b.2.1) (allS ⟨M_b.2.1, M_b.2.2⟩ all0) rfl d_jdk_52_method_16_9 0 (le rfl) (bl rfl) (bl rfl) (by (try dsimp only) <;> omega) (by (try dsimp only) <;> omega) rfl ?_
  rintro _ T vm h W C2 ⟨k, hk, rfl, hle, hgt, K2, Vn⟩
  replace A := A.keep K2 (ninS ne_a_b nin0)
  replace M_b := M_b.mv C2
  replace X_b := X_b.keep K2
  obtain rfl : k = n := by
      rcases Nat.lt_or_ge k n with q | q
      · exact absurd (hgt q) (hL _ (mem_getD (by omega))).2
      · omega
  refine s_istore (pc' := 14) W #[rv a, iv (0 : Int32), iv (Int32.ofNat k), rv b, iv (Int32.ofNat k), .unset] d_jdk_52_method_16_12 rfl rfl ?_
  refine s_iload (pc' := 16) W d_jdk_52_method_16_14 rfl rfl ?_
  refine s_iload_n (pc' := 17) W d_jdk_52_method_16_16 rfl rfl ?_
  refine s_icmpeq (pc' := 20) (pcT := 57) W d_jdk_52_method_16_17 (by decide) rfl rfl (fun _ => ?_) (fun hq => absurd (rfl : (Int32.ofNat k) = Int32.ofNat k) hq)
  refine s_aload_n (pc' := 58) W d_jdk_52_method_16_57 rfl rfl rfl ?_
  refine s_areturn W rfl rfl rfl d_jdk_52_method_16_58 (by (try dsimp only) <;> omega) (by (try dsimp only) <;> omega) ?_
  intro vm' C'
  exact ⟨b, k_b, rfl, K0.trans K2 (fun x hx => Or.inr (by cases List.mem_singleton.mp hx; omega)), by simpa [List.take_of_length_le (Nat.le_of_eq hn)] using Vn, by omega⟩
set_option maxRecDepth 65536 in
set_option maxHeartbeats 40000000 in
theorem ef_coderfrom (m : MethodId) (x0 : Addr) (x1 : Int32) : entryFrame m #[(.ref x0), (.int x1)] 2 = mkF m 0 #[.val (.ref x0), .val (.int x1)] [] := by first | (simp [entryFrame, mkF, argsToLocals, Value.category]; done) | rfl
set_option maxRecDepth 65536 in
set_option maxHeartbeats 40000000 in
theorem c_coderfrom (l : Launch) {Z : State} {a0 : Array Value} (hw : Hw Z a0) {n0 : Nat} {h : Heap} (O : Old Z n0 h) {a : Nat} {ka : ClassId} {z : Int32} {vs : List Value} {dv : Value} (A : Arv Z h a ka .byte z vs dv) :
    Con l Z EL1 n0 (⟨"java/lang/StringUTF16", "coderFromArrayLen", "([BI)B"⟩ : MethodName) jdk_52_method_15_code 2 (some .byte) [] ({ frames := 0, cells := 0, slots := 0, locals := 0 } : Room) #[(.ref a), (.int z)] h [] (fun v vm' h' => v = some (.int 0) ∧ h = h') := by
  refine Con.of pn2 O (el hw) ?_
  intro pg_ e s m below meth cd_ T W hs_ hSf
  rw [ef_coderfrom]
  refine s_iload_n (pc' := 1) W d_jdk_52_method_15_0 rfl rfl ?_
  refine s_aload_n (pc' := 2) W d_jdk_52_method_15_1 rfl rfl rfl ?_
  refine s_alen (pc' := 3) W A d_jdk_52_method_15_2 rfl ?_
  refine s_isub (pc' := 4) W d_jdk_52_method_15_3 rfl ?_
  refine s_bipush (pc' := 6) W (31 : Int32) d_jdk_52_method_15_4 rfl rfl ?_
  refine s_iushr (pc' := 7) W d_jdk_52_method_15_6 rfl ?_
  refine s_i2b (pc' := 8) W d_jdk_52_method_15_7 rfl ?_
  refine s_nreturn W (t := .byte) rfl (by simp) d_jdk_52_method_15_8 (bl rfl) (bl rfl) ?_
  intro vm' C'
  exact ⟨by rw [sub_self32]; rfl, rfl⟩
set_option maxRecDepth 65536 in
set_option maxHeartbeats 40000000 in
theorem ef_strinit4 (m : MethodId) (x0 : Addr) (x1 : Addr) (x2 : Int32) (x3 : Int32) : entryFrame m #[(.ref x0), (.ref x1), (.int x2), (.int x3), .null] 6 = mkF m 0 #[.val (.ref x0), .val (.ref x1), .val (.int x2), .val (.int x3), .val .null, .unset] [] := by first | (simp [entryFrame, mkF, argsToLocals, Value.category]; done) | rfl
set_option maxRecDepth 65536 in
set_option maxHeartbeats 40000000 in
theorem c_strinit4 (l : Launch) {Z : State} {a0 : Array Value} (hw : Hw Z a0) {n0 : Nat} {h : Heap} (O : Old Z n0 h) {a : Nat} {cs : List Int32} {n : Nat} (CS0 : CS Z) (hn : cs.length = n) (hbig : n ≤ 4096) (hL : ∀ c ∈ cs, L1 c) (E : Exa Z h a "java/lang/String") (M0 : n0 ≤ a) (Ma : a < h.size) (Fc : Fld Z h a "java/lang/String" "coder" "B" (.int 0)) (Fv : Fld Z h a "java/lang/String" "value" "[B" .null) {d : Nat} {kd : ClassId} (A : Arv Z h d kd .char (Int32.ofNat n) (cs.map cv) (.int 0)) (hpos : 0 < n) :
    Con l Z EL1 n0 (⟨"java/lang/String", "<init>", "([CIILjava/lang/Void;)V"⟩ : MethodName) jdk_42_method_149_code 6 none [] ({ frames := 2, cells := 1, slots := n, locals := 35 } : Room) #[(.ref a), (.ref d), (.int (0 : Int32)), (.int (Int32.ofNat n)), .null] h [a] (fun v vm' h' => v = none ∧ Keep h h' [a] ∧ ∃ b kb, LatB Z h' a b kb cs) := by
  refine Con.of pn3 O (el hw) ?_
  intro pg_ e s m below meth cd_ T W hs_ hSf
  rw [ef_strinit4]
  have M : Mine Z EL1 n0 s.vm h a := ⟨M0, Ma, hSf a (by simp)⟩
  refine s_aload_n (pc' := 1) W d_jdk_42_method_149_0 rfl rfl rfl ?_
  refine s_objinit (pc' := 4) W (w15 hw) (w16 hw) (w17 hw) rfl d_jdk_42_method_149_1 0 (le rfl) (bl rfl) (bl rfl) rfl ?_
  intro T W
  refine s_iload_n (pc' := 5) W d_jdk_42_method_149_4 rfl rfl ?_
  refine s_ifne (pc' := 8) (pcT := 27) W d_jdk_42_method_149_5 (by decide) rfl rfl (fun _ => ?_) (fun hq => absurd hq (fun q => by have := n_inj (j := 0) (by omega) (by omega) q; omega))
  obtain ⟨vc, Sc, hvc⟩ := CS0
  refine s_gets (pc' := 30) W (w18 hw) Via.refl Sc d_jdk_42_method_149_27 rfl ?_
  intro T W
  refine s_ifeq (pc' := 33) (pcT := 58) W d_jdk_42_method_149_30 (by decide) rfl rfl (fun hq => absurd hq hvc) (fun _ => ?_)
  refine s_aload_n (pc' := 34) W d_jdk_42_method_149_33 rfl rfl rfl ?_
  refine s_iload_n (pc' := 35) W d_jdk_42_method_149_34 rfl rfl ?_
  refine s_iload_n (pc' := 36) W d_jdk_42_method_149_35 rfl rfl ?_
  refine s_static (pc' := 39) W (w19 hw) (w20 hw) (w21 hw) (w22 hw) (by decide) pd1 [(.ref d), (.int (0 : Int32)), (.int (Int32.ofNat n))] rfl (c_compress3 l hw W.old hn hbig hL A) all0 rfl d_jdk_42_method_149_36 0 (le rfl) (bl rfl) (bl rfl) (by (try dsimp only) <;> omega) (by (try dsimp only) <;> omega) rfl ?_
  rintro _ T vm h W C1 ⟨b, kb, rfl, K1, V_b, hb⟩
  replace E := E.keep K1
  replace Fc := Fc.keep K1 nin0
  replace Fv := Fv.keep K1 nin0
  replace M := M.mv C1
  replace A := A.keep K1 nin0
  have Kt := K1
  have nab : @Ne Nat a b := by omega
  refine s_astore (pc' := 41) W #[rv a, rv d, iv (0 : Int32), iv (Int32.ofNat n), .val .null, rv b] d_jdk_42_method_149_39 rfl rfl rfl ?_
  refine s_aload_n (pc' := 42) W d_jdk_42_method_149_41 rfl rfl rfl ?_
  refine s_aload (pc' := 44) W d_jdk_42_method_149_42 rfl rfl rfl ?_
  refine s_iload_n (pc' := 45) W d_jdk_42_method_149_44 rfl rfl ?_
  refine s_static (pc' := 48) W (w27 hw) (w28 hw) (w21 hw) (w29 hw) (by decide) pd2 [(.ref b), (.int (Int32.ofNat n))] rfl (c_coderfrom l hw W.old V_b) all0 rfl d_jdk_42_method_149_45 1 (le rfl) (bl rfl) (bl rfl) (by (try dsimp only) <;> omega) (by (try dsimp only) <;> omega) rfl ?_
  rintro _ T vm _ W C2 ⟨rfl, rfl⟩
  replace M := M.mv C2
  refine s_putfn (pc' := 51) W (w30 hw) Via.refl Fc E M (Or.inr ⟨(w31 hw), rfl, rfl⟩) (w6 hw) (ty := .byte) (v' := .int 0) (by decide) rfl rfl d_jdk_42_method_149_48 rfl ?_
  intro T h W K3 C3 Wr3 Fn3
  replace Fv := Fv.other Wr3 (Or.inr (slot_ne (Or.inr (w33 hw)) (Or.inr (w31 hw)) (by decide) (by decide : parseFieldDescriptor "[B" = some (.array .byte)) (by decide : parseFieldDescriptor "B" = some .byte)))
  replace E := E.keep K3
  replace M := M.mv C3
  replace V_b := V_b.keep K3 (ninS (Ne.symm nab) nin0)
  have Fc := Fn3
  clear Fn3
  replace Kt := ((Keep.refl _ [a]).trans Kt all0).trans K3 (fun x hx => Or.inl hx)
  refine s_aload_n (pc' := 52) W d_jdk_42_method_149_51 rfl rfl rfl ?_
  refine s_aload (pc' := 54) W d_jdk_42_method_149_52 rfl rfl rfl ?_
  refine s_putf (pc' := 57) W (w32 hw) Via.refl Fv E M (Or.inr ⟨(w33 hw), rfl, rfl⟩) (w6 hw) (ty := (.array .byte)) (by decide) rfl rfl d_jdk_42_method_149_54 rfl ?_
  intro T h W K4 C4 Wr4 Fn4
  replace Fc := Fc.other Wr4 (Or.inr (slot_ne (Or.inr (w31 hw)) (Or.inr (w33 hw)) (by decide) (by decide : parseFieldDescriptor "B" = some .byte) (by decide : parseFieldDescriptor "[B" = some (.array .byte))))
  replace E := E.keep K4
  replace M := M.mv C4
  replace V_b := V_b.keep K4 (ninS (Ne.symm nab) nin0)
  have Fv := Fn4
  clear Fn4
  replace Kt := Kt.trans K4 (fun x hx => Or.inl hx)
  refine s_ret W rfl d_jdk_42_method_149_57 (by (try dsimp only) <;> omega) (by (try dsimp only) <;> omega) ?_
  intro vm' C'
  exact ⟨rfl, Kt, b, kb, E, Fc, Fv, by rw [hn]; exact V_b, hL, by omega⟩
set_option maxRecDepth 65536 in
set_option maxHeartbeats 40000000 in
theorem ef_strinit (m : MethodId) (x0 : Addr) (x1 : Addr) : entryFrame m #[(.ref x0), (.ref x1)] 2 = mkF m 0 #[.val (.ref x0), .val (.ref x1)] [] := by first | (simp [entryFrame, mkF, argsToLocals, Value.category]; done) | rfl
set_option maxRecDepth 65536 in
set_option maxHeartbeats 40000000 in
theorem c_strinit (l : Launch) {Z : State} {a0 : Array Value} (hw : Hw Z a0) {n0 : Nat} {h : Heap} (O : Old Z n0 h) {a : Nat} {cs : List Int32} {n : Nat} (CS0 : CS Z) (hn : cs.length = n) (hbig : n ≤ 4096) (hL : ∀ c ∈ cs, L1 c) (E : Exa Z h a "java/lang/String") (M0 : n0 ≤ a) (Ma : a < h.size) (Fc : Fld Z h a "java/lang/String" "coder" "B" (.int 0)) (Fv : Fld Z h a "java/lang/String" "value" "[B" .null) {d : Nat} {kd : ClassId} (A : Arv Z h d kd .char (Int32.ofNat n) (cs.map cv) (.int 0)) (hpos : 0 < n) :
    Con l Z EL1 n0 (⟨"java/lang/String", "<init>", "([C)V"⟩ : MethodName) jdk_42_method_3_code 2 none [] ({ frames := 3, cells := 1, slots := n, locals := 52 } : Room) #[(.ref a), (.ref d)] h [a] (fun v vm' h' => v = none ∧ Keep h h' [a] ∧ ∃ b kb, LatB Z h' a b kb cs) := by
  refine Con.of pn4 O (el hw) ?_
  intro pg_ e s m below meth cd_ T W hs_ hSf
  rw [ef_strinit]
  have Sa := hSf a (by simp)
  refine s_aload_n (pc' := 1) W d_jdk_42_method_3_0 rfl rfl rfl ?_
  refine s_aload_n (pc' := 2) W d_jdk_42_method_3_1 rfl rfl rfl ?_
  refine s_iconst (pc' := 3) W (0 : Int32) d_jdk_42_method_3_2 rfl rfl ?_
  refine s_aload_n (pc' := 4) W d_jdk_42_method_3_3 rfl rfl rfl ?_
  refine s_alen (pc' := 5) W A d_jdk_42_method_3_4 rfl ?_
  refine s_aconst_null (pc' := 6) W d_jdk_42_method_3_5 rfl ?_
  refine s_init (pc' := 9) W rfl (w11 hw) (w12 hw) (w7 hw) (w14 hw) (by decide) pd3 [(.ref d), (.int (0 : Int32)), (.int (Int32.ofNat n)), .null] rfl (c_strinit4 l hw W.old CS0 hn hbig hL E M0 Ma Fc Fv A hpos) (allS ⟨Ma, Sa⟩ all0) rfl d_jdk_42_method_3_6 0 (le rfl) (bl rfl) (bl rfl) (by (try dsimp only) <;> omega) (by (try dsimp only) <;> omega) rfl ?_
  rintro _ T vm h W C1 ⟨rfl, K1, L⟩
  refine s_ret W rfl d_jdk_42_method_3_9 (by (try dsimp only) <;> omega) (by (try dsimp only) <;> omega) ?_
  intro vm' C'
  exact ⟨rfl, K1, L⟩
set_option maxRecDepth 65536 in
set_option maxHeartbeats 40000000 in
theorem ef_strcoder (m : MethodId) (x0 : Addr) : entryFrame m #[(.ref x0)] 1 = mkF m 0 #[.val (.ref x0)] [] := by first | (simp [entryFrame, mkF, argsToLocals, Value.category]; done) | rfl
set_option maxRecDepth 65536 in
set_option maxHeartbeats 40000000 in
theorem c_strcoder (l : Launch) {Z : State} {a0 : Array Value} (hw : Hw Z a0) {n0 : Nat} {h : Heap} (O : Old Z n0 h) (CS0 : CS Z) {a b : Nat} {kb : ClassId} {cs : List Int32} (F : LatB Z h a b kb cs) :
    Con l Z EL1 n0 (⟨"java/lang/String", "coder", "()B"⟩ : MethodName) jdk_42_method_152_code 1 (some .byte) [] ({ frames := 0, cells := 0, slots := 0, locals := 0 } : Room) #[(.ref a)] h [] (fun v vm' h' => v = some (.int 0) ∧ h = h') := by
  refine Con.of pn5 O (el hw) ?_
  intro pg_ e s m below meth cd_ T W hs_ hSf
  rw [ef_strcoder]
  obtain ⟨vc, Sc, hvc⟩ := CS0
  refine s_gets (pc' := 3) W (w18 hw) Via.refl Sc d_jdk_42_method_152_0 rfl ?_
  intro T W
  refine s_ifeq (pc' := 6) (pcT := 13) W d_jdk_42_method_152_3 (by decide) rfl rfl (fun hq => absurd hq hvc) (fun _ => ?_)
  refine s_aload_n (pc' := 7) W d_jdk_42_method_152_6 rfl rfl rfl ?_
  refine s_getf (pc' := 10) W (w30 hw) Via.refl F.2.1 d_jdk_42_method_152_7 rfl ?_
  intro T W
  refine s_goto (pc' := 14) W d_jdk_42_method_152_10 (by decide) rfl ?_
  refine s_nreturn W (t := .byte) rfl (by simp) d_jdk_42_method_152_14 (bl rfl) (bl rfl) ?_
  intro vm' C'
  exact ⟨rfl, rfl⟩
set_option maxRecDepth 65536 in
set_option maxHeartbeats 40000000 in
theorem ef_strlength (m : MethodId) (x0 : Addr) : entryFrame m #[(.ref x0)] 1 = mkF m 0 #[.val (.ref x0)] [] := by first | (simp [entryFrame, mkF, argsToLocals, Value.category]; done) | rfl
set_option maxRecDepth 65536 in
set_option maxHeartbeats 40000000 in
theorem c_strlength (l : Launch) {Z : State} {a0 : Array Value} (hw : Hw Z a0) {n0 : Nat} {h : Heap} (O : Old Z n0 h) (CS0 : CS Z) {a b : Nat} {kb : ClassId} {cs : List Int32} (F : LatB Z h a b kb cs) :
    Con l Z EL1 n0 (⟨"java/lang/String", "length", "()I"⟩ : MethodName) jdk_42_method_54_code 1 (some .int) [] ({ frames := 1, cells := 0, slots := 0, locals := 13 } : Room) #[(.ref a)] h [] (fun v vm' h' => v = some (.int (Int32.ofNat cs.length)) ∧ h = h') := by
  refine Con.of pn6 O (el hw) ?_
  intro pg_ e s m below meth cd_ T W hs_ hSf
  rw [ef_strlength]
  refine s_aload_n (pc' := 1) W d_jdk_42_method_54_0 rfl rfl rfl ?_
  refine s_getf (pc' := 4) W (w32 hw) Via.refl F.2.2.1 d_jdk_42_method_54_1 rfl ?_
  intro T W
  refine s_alen (pc' := 5) W F.2.2.2.1 d_jdk_42_method_54_4 rfl ?_
  refine s_aload_n (pc' := 6) W d_jdk_42_method_54_5 rfl rfl rfl ?_
  refine s_virt (pc' := 9) W (C0 := "java/lang/String") (w56 hw) (w57 hw) (w59 hw) (w58 hw) (w7 hw) (w60 hw) (notFace_of_selects (args := a0) (w59 hw)) (by decide) pd4 [] rfl F.1 (c_strcoder l hw W.old CS0 F) all0 rfl d_jdk_42_method_54_6 1 (le rfl) (bl rfl) (bl rfl) (bl rfl) (bl rfl) rfl ?_
  rintro _ T vm _ W C1 ⟨rfl, rfl⟩
  refine s_ishr (pc' := 10) W d_jdk_42_method_54_9 rfl ?_
  refine s_ireturn W rfl d_jdk_42_method_54_10 (bl rfl) (bl rfl) ?_
  intro vm' C'
  exact ⟨by rw [shr0], rfl⟩
set_option maxRecDepth 65536 in
set_option maxHeartbeats 40000000 in
theorem ef_islatin1 (m : MethodId) (x0 : Addr) : entryFrame m #[(.ref x0)] 1 = mkF m 0 #[.val (.ref x0)] [] := by first | (simp [entryFrame, mkF, argsToLocals, Value.category]; done) | rfl
set_option maxRecDepth 65536 in
set_option maxHeartbeats 40000000 in
theorem c_islatin1 (l : Launch) {Z : State} {a0 : Array Value} (hw : Hw Z a0) {n0 : Nat} {h : Heap} (O : Old Z n0 h) (CS0 : CS Z) {a b : Nat} {kb : ClassId} {cs : List Int32} (F : LatB Z h a b kb cs) :
    Con l Z EL1 n0 (⟨"java/lang/String", "isLatin1", "()Z"⟩ : MethodName) jdk_42_method_154_code 1 (some .boolean) [] ({ frames := 0, cells := 0, slots := 0, locals := 0 } : Room) #[(.ref a)] h [] (fun v vm' h' => v = some (.int 1) ∧ h = h') := by
  refine Con.of pn7 O (el hw) ?_
  intro pg_ e s m below meth cd_ T W hs_ hSf
  rw [ef_islatin1]
  obtain ⟨vc, Sc, hvc⟩ := CS0
  refine s_gets (pc' := 3) W (w18 hw) Via.refl Sc d_jdk_42_method_154_0 rfl ?_
  intro T W
  refine s_ifeq (pc' := 6) (pcT := 17) W d_jdk_42_method_154_3 (by decide) rfl rfl (fun hq => absurd hq hvc) (fun _ => ?_)
  refine s_aload_n (pc' := 7) W d_jdk_42_method_154_6 rfl rfl rfl ?_
  refine s_getf (pc' := 10) W (w30 hw) Via.refl F.2.1 d_jdk_42_method_154_7 rfl ?_
  intro T W
  refine s_ifne (pc' := 13) (pcT := 17) W d_jdk_42_method_154_10 (by decide) rfl rfl (fun hq => absurd (by decide) hq) (fun _ => ?_)
  refine s_iconst (pc' := 14) W (1 : Int32) d_jdk_42_method_154_13 rfl rfl ?_
  refine s_goto (pc' := 18) W d_jdk_42_method_154_14 (by decide) rfl ?_
  refine s_nreturn W (t := .boolean) rfl (by simp) d_jdk_42_method_154_18 (bl rfl) (bl rfl) ?_
  intro vm' C'
  exact ⟨rfl, rfl⟩
set_option maxRecDepth 65536 in
set_option maxHeartbeats 40000000 in
theorem ef_pchkN (m : MethodId) (x0 : Int32) (x1 : Int32) : entryFrame m #[(.int x0), (.int x1), .null] 3 = mkF m 0 #[.val (.int x0), .val (.int x1), .val .null] [] := by first | (simp [entryFrame, mkF, argsToLocals, Value.category]; done) | rfl
set_option maxRecDepth 65536 in
set_option maxHeartbeats 40000000 in
theorem c_pchkN (l : Launch) {Z : State} {a0 : Array Value} (hw : Hw Z a0) {n0 : Nat} {h : Heap} (O : Old Z n0 h) {i z : Int32} (h0 : ¬ i < 0) (h1 : i < z) :
    Con l Z EL1 n0 (⟨"jdk/internal/util/Preconditions", "checkIndex", "(IILjava/util/function/BiFunction;)I"⟩ : MethodName) jdk_41_method_11_code 3 (some .int) [] ({ frames := 0, cells := 0, slots := 0, locals := 0 } : Room) #[(.int i), (.int z), .null] h [] (fun v vm' h' => v = some (.int i) ∧ h = h') := by
  refine Con.of pn8 O (el hw) ?_
  intro pg_ e s m below meth cd_ T W hs_ hSf
  rw [ef_pchkN]
  refine s_iload_n (pc' := 1) W d_jdk_41_method_11_0 rfl rfl ?_
  refine s_iflt (pc' := 4) (pcT := 9) W d_jdk_41_method_11_1 (by decide) rfl rfl (fun hq => absurd hq h0) (fun _ => ?_)
  refine s_iload_n (pc' := 5) W d_jdk_41_method_11_4 rfl rfl ?_
  refine s_iload_n (pc' := 6) W d_jdk_41_method_11_5 rfl rfl ?_
  refine s_icmplt (pc' := 9) (pcT := 16) W d_jdk_41_method_11_6 (by decide) rfl rfl (fun _ => ?_) (fun hq => absurd h1 hq)
  refine s_iload_n (pc' := 17) W d_jdk_41_method_11_16 rfl rfl ?_
  refine s_ireturn W rfl d_jdk_41_method_11_17 (bl rfl) (bl rfl) ?_
  intro vm' C'
  exact ⟨rfl, rfl⟩
set_option maxRecDepth 65536 in
set_option maxHeartbeats 40000000 in
theorem ef_pchkR (m : MethodId) (x0 : Int32) (x1 : Int32) (x2 : Addr) : entryFrame m #[(.int x0), (.int x1), (.ref x2)] 3 = mkF m 0 #[.val (.int x0), .val (.int x1), .val (.ref x2)] [] := by first | (simp [entryFrame, mkF, argsToLocals, Value.category]; done) | rfl
set_option maxRecDepth 65536 in
set_option maxHeartbeats 40000000 in
theorem c_pchkR (l : Launch) {Z : State} {a0 : Array Value} (hw : Hw Z a0) {n0 : Nat} {h : Heap} (O : Old Z n0 h) {i z : Int32} {f : Nat} (h0 : ¬ i < 0) (h1 : i < z) :
    Con l Z EL1 n0 (⟨"jdk/internal/util/Preconditions", "checkIndex", "(IILjava/util/function/BiFunction;)I"⟩ : MethodName) jdk_41_method_11_code 3 (some .int) [] ({ frames := 0, cells := 0, slots := 0, locals := 0 } : Room) #[(.int i), (.int z), (.ref f)] h [] (fun v vm' h' => v = some (.int i) ∧ h = h') := by
  refine Con.of pn8 O (el hw) ?_
  intro pg_ e s m below meth cd_ T W hs_ hSf
  rw [ef_pchkR]
  refine s_iload_n (pc' := 1) W d_jdk_41_method_11_0 rfl rfl ?_
  refine s_iflt (pc' := 4) (pcT := 9) W d_jdk_41_method_11_1 (by decide) rfl rfl (fun hq => absurd hq h0) (fun _ => ?_)
  refine s_iload_n (pc' := 5) W d_jdk_41_method_11_4 rfl rfl ?_
  refine s_iload_n (pc' := 6) W d_jdk_41_method_11_5 rfl rfl ?_
  refine s_icmplt (pc' := 9) (pcT := 16) W d_jdk_41_method_11_6 (by decide) rfl rfl (fun _ => ?_) (fun hq => absurd h1 hq)
  refine s_iload_n (pc' := 17) W d_jdk_41_method_11_16 rfl rfl ?_
  refine s_ireturn W rfl d_jdk_41_method_11_17 (bl rfl) (bl rfl) ?_
  intro vm' C'
  exact ⟨rfl, rfl⟩
set_option maxRecDepth 65536 in
set_option maxHeartbeats 40000000 in
theorem ef_schk (m : MethodId) (x0 : Int32) (x1 : Int32) : entryFrame m #[(.int x0), (.int x1)] 2 = mkF m 0 #[.val (.int x0), .val (.int x1)] [] := by first | (simp [entryFrame, mkF, argsToLocals, Value.category]; done) | rfl
set_option maxRecDepth 65536 in
set_option maxHeartbeats 40000000 in
theorem c_schk (l : Launch) {Z : State} {a0 : Array Value} (hw : Hw Z a0) {n0 : Nat} {h : Heap} (O : Old Z n0 h) (FM : Fmt Z) {i z : Int32} (h0 : ¬ i < 0) (h1 : i < z) :
    Con l Z EL1 n0 (⟨"java/lang/String", "checkIndex", "(II)V"⟩ : MethodName) jdk_42_method_155_code 2 none [] ({ frames := 1, cells := 0, slots := 0, locals := 14 } : Room) #[(.int i), (.int z)] h [] (fun v vm' h' => v = none ∧ h = h') := by
  refine Con.of pn9 O (el hw) ?_
  intro pg_ e s m below meth cd_ T W hs_ hSf
  rw [ef_schk]
  obtain ⟨vf, Sf, hvf⟩ := FM
  refine s_iload_n (pc' := 1) W d_jdk_42_method_155_0 rfl rfl ?_
  refine s_iload_n (pc' := 2) W d_jdk_42_method_155_1 rfl rfl ?_
  refine s_gets (pc' := 5) W (w97 hw) Via.refl Sf d_jdk_42_method_155_2 rfl ?_
  intro T W
  rcases ref_cases hvf with rfl | ⟨f, rfl⟩
  · refine s_static (pc' := 8) W (w99 hw) (w100 hw) (w98 hw) (w101 hw) (by decide) pd5 [(.int i), (.int z), .null] rfl (c_pchkN l hw W.old h0 h1) all0 rfl d_jdk_42_method_155_5 0 (le rfl) (bl rfl) (bl rfl) (bl rfl) (bl rfl) rfl ?_
    rintro _ T vm _ W C1 ⟨rfl, rfl⟩
    refine s_pop (pc' := 9) W d_jdk_42_method_155_8 rfl rfl ?_
    refine s_ret W rfl d_jdk_42_method_155_9 (bl rfl) (bl rfl) ?_
    intro vm' C'
    exact ⟨rfl, rfl⟩
  · refine s_static (pc' := 8) W (w99 hw) (w100 hw) (w98 hw) (w101 hw) (by decide) pd5 [(.int i), (.int z), (.ref f)] rfl (c_pchkR l hw W.old h0 h1) all0 rfl d_jdk_42_method_155_5 0 (le rfl) (bl rfl) (bl rfl) (bl rfl) (bl rfl) rfl ?_
    rintro _ T vm _ W C2 ⟨rfl, rfl⟩
    refine s_pop (pc' := 9) W d_jdk_42_method_155_8 rfl rfl ?_
    refine s_ret W rfl d_jdk_42_method_155_9 (bl rfl) (bl rfl) ?_
    intro vm' C'
    exact ⟨rfl, rfl⟩
set_option maxRecDepth 65536 in
set_option maxHeartbeats 40000000 in
theorem ef_l1charat (m : MethodId) (x0 : Addr) (x1 : Int32) : entryFrame m #[(.ref x0), (.int x1)] 2 = mkF m 0 #[.val (.ref x0), .val (.int x1)] [] := by first | (simp [entryFrame, mkF, argsToLocals, Value.category]; done) | rfl
set_option maxRecDepth 65536 in
set_option maxHeartbeats 40000000 in
theorem c_l1charat (l : Launch) {Z : State} {a0 : Array Value} (hw : Hw Z a0) {n0 : Nat} {h : Heap} (O : Old Z n0 h) (FM : Fmt Z) {b : Nat} {kb : ClassId} {cs : List Int32} {i : Nat} (A : Arv Z h b kb .byte (Int32.ofNat cs.length) (cs.map bv) (.int 0)) (hL : ∀ c ∈ cs, L1 c) (hn : cs.length < 2147483648) (hi : i < cs.length) :
    Con l Z EL1 n0 (⟨"java/lang/StringLatin1", "charAt", "([BI)C"⟩ : MethodName) jdk_43_method_2_code 2 (some .char) [] ({ frames := 2, cells := 0, slots := 0, locals := 27 } : Room) #[(.ref b), (.int (Int32.ofNat i))] h [] (fun v vm' h' => v = some (.int (cs.getD i 0)) ∧ h = h') := by
  refine Con.of pn10 O (el hw) ?_
  intro pg_ e s m below meth cd_ T W hs_ hSf
  rw [ef_l1charat]
  have hi31 : i < 2147483648 := by omega
  refine s_iload_n (pc' := 1) W d_jdk_43_method_2_0 rfl rfl ?_
  refine s_aload_n (pc' := 2) W d_jdk_43_method_2_1 rfl rfl rfl ?_
  refine s_alen (pc' := 3) W A d_jdk_43_method_2_2 rfl ?_
  refine s_static (pc' := 6) W (w94 hw) (w95 hw) (w7 hw) (w96 hw) (by decide) pd6 [(.int (Int32.ofNat i)), (.int (Int32.ofNat cs.length))] rfl (c_schk l hw W.old FM (n_nn hi31) (n_lt hi hn)) all0 rfl d_jdk_43_method_2_3 0 (le rfl) (bl rfl) (bl rfl) (bl rfl) (bl rfl) rfl ?_
  rintro _ T vm _ W C1 ⟨rfl, rfl⟩
  refine s_aload_n (pc' := 7) W d_jdk_43_method_2_6 rfl rfl rfl ?_
  refine s_iload_n (pc' := 8) W d_jdk_43_method_2_7 rfl rfl ?_
  refine s_baload (pc' := 9) W (.int (cs.getD i 0).toInt8.toInt32) A (n_nn hi31) (n_lt hi hn) (by rw [n_clamp hi31]; exact bv_getD cs i) d_jdk_43_method_2_8 rfl ?_
  refine s_sipush (pc' := 12) W (255 : Int32) d_jdk_43_method_2_9 rfl rfl ?_
  refine s_iand (pc' := 13) W d_jdk_43_method_2_12 rfl ?_
  refine s_i2c (pc' := 14) W d_jdk_43_method_2_13 rfl ?_
  refine s_nreturn W (t := .char) rfl (by simp) d_jdk_43_method_2_14 (bl rfl) (bl rfl) ?_
  intro vm' C'
  exact ⟨by have q := hL _ (mem_getD hi); rw [q.back, q.i2c, q.nar], rfl⟩
set_option maxRecDepth 65536 in
set_option maxHeartbeats 40000000 in
theorem ef_charatL (m : MethodId) (x0 : Addr) (x1 : Int32) : entryFrame m #[(.ref x0), (.int x1)] 2 = mkF m 0 #[.val (.ref x0), .val (.int x1)] [] := by first | (simp [entryFrame, mkF, argsToLocals, Value.category]; done) | rfl
set_option maxRecDepth 65536 in
set_option maxHeartbeats 40000000 in
theorem c_charatL (l : Launch) {Z : State} {a0 : Array Value} (hw : Hw Z a0) {n0 : Nat} {h : Heap} (O : Old Z n0 h) (CS0 : CS Z) (FM : Fmt Z) {a b : Nat} {kb : ClassId} {cs : List Int32} (F : LatB Z h a b kb cs) {i : Nat} (hi : i < cs.length) :
    Con l Z EL1 n0 (⟨"java/lang/String", "charAt", "(I)C"⟩ : MethodName) jdk_42_method_56_code 2 (some .char) [] ({ frames := 3, cells := 0, slots := 0, locals := 40 } : Room) #[(.ref a), (.int (Int32.ofNat i))] h [] (fun v vm' h' => v = some (.int (cs.getD i 0)) ∧ h = h') := by
  refine Con.of pn11 O (el hw) ?_
  intro pg_ e s m below meth cd_ T W hs_ hSf
  rw [ef_charatL]
  refine s_aload_n (pc' := 1) W d_jdk_42_method_56_0 rfl rfl rfl ?_
  refine s_virt (pc' := 4) W (C0 := "java/lang/String") (w85 hw) (w86 hw) (w88 hw) (w87 hw) (w7 hw) (w89 hw) (notFace_of_selects (args := a0) (w88 hw)) (by decide) pd7 [] rfl F.1 (c_islatin1 l hw W.old CS0 F) all0 rfl d_jdk_42_method_56_1 0 (le rfl) (bl rfl) (bl rfl) (bl rfl) (bl rfl) rfl ?_
  rintro _ T vm _ W C1 ⟨rfl, rfl⟩
  refine s_ifeq (pc' := 7) (pcT := 16) W d_jdk_42_method_56_4 (by decide) rfl rfl (fun hq => absurd hq (by decide)) (fun _ => ?_)
  refine s_aload_n (pc' := 8) W d_jdk_42_method_56_7 rfl rfl rfl ?_
  refine s_getf (pc' := 11) W (w32 hw) Via.refl F.2.2.1 d_jdk_42_method_56_8 rfl ?_
  intro T W
  refine s_iload_n (pc' := 12) W d_jdk_42_method_56_11 rfl rfl ?_
  refine s_static (pc' := 15) W (w90 hw) (w91 hw) (w92 hw) (w93 hw) (by decide) pd8 [(.ref b), (.int (Int32.ofNat i))] rfl (c_l1charat l hw W.old FM F.2.2.2.1 F.2.2.2.2.1 F.2.2.2.2.2 hi) all0 rfl d_jdk_42_method_56_12 0 (le rfl) (bl rfl) (bl rfl) (bl rfl) (bl rfl) rfl ?_
  rintro _ T vm _ W C2 ⟨rfl, rfl⟩
  refine s_nreturn W (t := .char) rfl (by simp) d_jdk_42_method_56_15 (bl rfl) (bl rfl) ?_
  intro vm' C'
  exact ⟨by rw [(F.2.2.2.2.1 _ (mem_getD hi)).nar], rfl⟩
set_option maxRecDepth 65536 in
set_option maxHeartbeats 40000000 in
theorem ef_mathmin (m : MethodId) (x0 : Int32) (x1 : Int32) : entryFrame m #[(.int x0), (.int x1)] 2 = mkF m 0 #[.val (.int x0), .val (.int x1)] [] := by first | (simp [entryFrame, mkF, argsToLocals, Value.category]; done) | rfl
set_option maxRecDepth 65536 in
set_option maxHeartbeats 40000000 in
theorem c_mathmin (l : Launch) {Z : State} {a0 : Array Value} (hw : Hw Z a0) {n0 : Nat} {h : Heap} (O : Old Z n0 h) {x y : Int32} :
    Con l Z EL1 n0 (⟨"java/lang/Math", "min", "(II)I"⟩ : MethodName) jdk_29_method_69_code 2 (some .int) [] ({ frames := 0, cells := 0, slots := 0, locals := 0 } : Room) #[(.int x), (.int y)] h [] (fun v vm' h' => v = some (.int (if y < x then y else x)) ∧ h = h') := by
  refine Con.of pn12 O (el hw) ?_
  intro pg_ e s m below meth cd_ T W hs_ hSf
  rw [ef_mathmin]
  refine s_iload_n (pc' := 1) W d_jdk_29_method_69_0 rfl rfl ?_
  refine s_iload_n (pc' := 2) W d_jdk_29_method_69_1 rfl rfl ?_
  refine s_icmpgt (pc' := 5) (pcT := 9) W d_jdk_29_method_69_2 (by decide) rfl rfl (fun hq => ?_) (fun hq => ?_)
  · refine s_iload_n (pc' := 10) W d_jdk_29_method_69_9 rfl rfl ?_
    refine s_ireturn W rfl d_jdk_29_method_69_10 (bl rfl) (bl rfl) ?_
    intro vm' C'
    exact ⟨by rw [if_pos hq], rfl⟩
  · refine s_iload_n (pc' := 6) W d_jdk_29_method_69_5 rfl rfl ?_
    refine s_goto (pc' := 10) W d_jdk_29_method_69_6 (by decide) rfl ?_
    refine s_ireturn W rfl d_jdk_29_method_69_10 (bl rfl) (bl rfl) ?_
    intro vm' C'
    exact ⟨by rw [if_neg hq], rfl⟩
set_option maxRecDepth 65536 in
set_option maxHeartbeats 40000000 in
theorem ef_isempty (m : MethodId) (x0 : Addr) : entryFrame m #[(.ref x0)] 1 = mkF m 0 #[.val (.ref x0)] [] := by first | (simp [entryFrame, mkF, argsToLocals, Value.category]; done) | rfl
set_option maxRecDepth 65536 in
set_option maxHeartbeats 40000000 in
theorem c_isempty (l : Launch) {Z : State} {a0 : Array Value} (hw : Hw Z a0) {n0 : Nat} {h : Heap} (O : Old Z n0 h) {a b : Nat} {kb : ClassId} {cs : List Int32} (F : LatB Z h a b kb cs) :
    Con l Z EL1 n0 (⟨"java/lang/String", "isEmpty", "()Z"⟩ : MethodName) jdk_42_method_55_code 1 (some .boolean) [] ({ frames := 0, cells := 0, slots := 0, locals := 0 } : Room) #[(.ref a)] h [] (fun v vm' h' => v = some (.int (if cs.length = 0 then 1 else 0)) ∧ h = h') := by
  refine Con.of pn13 O (el hw) ?_
  intro pg_ e s m below meth cd_ T W hs_ hSf
  rw [ef_isempty]
  refine s_aload_n (pc' := 1) W d_jdk_42_method_55_0 rfl rfl rfl ?_
  refine s_getf (pc' := 4) W (w32 hw) Via.refl F.2.2.1 d_jdk_42_method_55_1 rfl ?_
  intro T W
  refine s_alen (pc' := 5) W F.2.2.2.1 d_jdk_42_method_55_4 rfl ?_
  refine s_ifne (pc' := 8) (pcT := 12) W d_jdk_42_method_55_5 (by decide) rfl rfl (fun hz => ?_) (fun hz => ?_)
  · refine s_iconst (pc' := 13) W (0 : Int32) d_jdk_42_method_55_12 rfl rfl ?_
    refine s_nreturn W (t := .boolean) rfl (by simp) d_jdk_42_method_55_13 (bl rfl) (bl rfl) ?_
    intro vm' C'
    exact ⟨by rw [if_neg (fun q => hz (by rw [q]; rfl))]; rfl, rfl⟩
  · refine s_iconst (pc' := 9) W (1 : Int32) d_jdk_42_method_55_8 rfl rfl ?_
    refine s_goto (pc' := 13) W d_jdk_42_method_55_9 (by decide) rfl ?_
    refine s_nreturn W (t := .boolean) rfl (by simp) d_jdk_42_method_55_13 (bl rfl) (bl rfl) ?_
    intro vm' C'
    exact ⟨by rw [if_pos (n_inj (j := 0) F.2.2.2.2.2 (by decide) hz)]; rfl, rfl⟩
set_option maxRecDepth 65536 in
set_option maxHeartbeats 40000000 in
theorem ef_asbinit (m : MethodId) (x0 : Addr) (x1 : Int32) : entryFrame m #[(.ref x0), (.int x1)] 2 = mkF m 0 #[.val (.ref x0), .val (.int x1)] [] := by first | (simp [entryFrame, mkF, argsToLocals, Value.category]; done) | rfl
set_option maxRecDepth 65536 in
set_option maxHeartbeats 40000000 in
theorem c_asbinit (l : Launch) {Z : State} {a0 : Array Value} (hw : Hw Z a0) {n0 : Nat} {h : Heap} (O : Old Z n0 h) {a : Nat} {cap : Nat} (CS0 : CS Z) (hcap : cap ≤ 4096) (E : Exa Z h a "java/lang/StringBuilder") (M0 : n0 ≤ a) (Ma : a < h.size) (Fc : Fld Z h a "java/lang/AbstractStringBuilder" "coder" "B" (.int 0)) (Fv : Fld Z h a "java/lang/AbstractStringBuilder" "value" "[B" .null) (Fn : Fld Z h a "java/lang/AbstractStringBuilder" "count" "I" (.int 0)) :
    Con l Z EL1 n0 (⟨"java/lang/AbstractStringBuilder", "<init>", "(I)V"⟩ : MethodName) jdk_68_method_2_code 2 none [] ({ frames := 1, cells := 1, slots := cap, locals := 12 } : Room) #[(.ref a), (.int (Int32.ofNat cap))] h [a] (fun v vm' h' => v = none ∧ Keep h h' [a] ∧ ∃ b kb, SBd Z h' a b kb cap [] ∧ h.size ≤ b ∧ Mine Z EL1 n0 vm' h' b) := by
  refine Con.of pn14 O (el hw) ?_
  intro pg_ e s m below meth cd_ T W hs_ hSf
  rw [ef_asbinit]
  have M : Mine Z EL1 n0 s.vm h a := ⟨M0, Ma, hSf a (by simp)⟩
  have Kt := Keep.refl h [a]
  refine s_aload_n (pc' := 1) W d_jdk_68_method_2_0 rfl rfl rfl ?_
  refine s_objinit (pc' := 4) W (w74 hw) (w16 hw) (w17 hw) rfl d_jdk_68_method_2_1 0 (le rfl) (bl rfl) (bl rfl) rfl ?_
  intro T W
  obtain ⟨vc, Sc, hvc⟩ := CS0
  refine s_gets (pc' := 7) W (w75 hw) Via.refl Sc d_jdk_68_method_2_4 rfl ?_
  intro T W
  refine s_ifeq (pc' := 10) (pcT := 25) W d_jdk_68_method_2_7 (by decide) rfl rfl (fun hq => absurd hq hvc) (fun _ => ?_)
  refine s_aload_n (pc' := 11) W d_jdk_68_method_2_10 rfl rfl rfl ?_
  refine s_iload_n (pc' := 12) W d_jdk_68_method_2_11 rfl rfl ?_
  refine s_newarr (pc' := 14) W (aty := .byte) cap "[B" (by decide) (w23 hw) d_jdk_68_method_2_12 (n_nn (by omega)) (by rw [n_clamp (by omega)]; exact Nat.le_refl _) (by omega) (by (try dsimp only) <;> omega) (by (try dsimp only) <;> omega) rfl ?_
  intro b T h k_b g_b
  have fs_b := Nat.le_trans Kt.1 (Nat.le_of_eq g_b.symm)
  have ne_a_b : @Ne Nat a b := by have := nlt E.lt; omega
  intro W K1 C1 M_b V_b X_b
  replace Kt := Kt.trans K1 all0
  replace E := E.keep K1
  replace Fc := Fc.keep K1 nin0
  replace Fv := Fv.keep K1 nin0
  replace Fn := Fn.keep K1 nin0
  replace M := M.mv C1
  have V_b : Arv Z h b k_b .byte (Int32.ofNat cap) (List.replicate cap (.int 0)) (.int 0) := by have q := V_b; rw [n_clamp (by omega)] at q; exact q
  refine s_putf (pc' := 17) W (w76 hw) Via.refl Fv E M (Or.inl (w77 hw)) (w49 hw) (ty := (.array .byte)) (by decide) rfl rfl d_jdk_68_method_2_14 rfl ?_
  intro T h W K2 C2 Wr2 Fn2
  replace Fc := Fc.other Wr2 (Or.inr (slot_ne (Or.inl (w79 hw)) (Or.inl (w77 hw)) (by decide) (by decide : parseFieldDescriptor "B" = some .byte) (by decide : parseFieldDescriptor "[B" = some (.array .byte))))
  replace Fn := Fn.other Wr2 (Or.inr (slot_ne (Or.inl (w113 hw)) (Or.inl (w77 hw)) (by decide) (by decide : parseFieldDescriptor "I" = some .int) (by decide : parseFieldDescriptor "[B" = some (.array .byte))))
  replace Kt := Kt.trans K2 (allS (P := fun x => _ ∨ _) (Or.inl (by simp)) all0)
  replace E := E.keep K2
  replace M := M.mv C2
  replace V_b := V_b.keep K2 (ninS (Ne.symm ne_a_b) nin0)
  replace M_b := M_b.mv C2
  replace X_b := X_b.keep K2
  have Fv := Fn2
  clear Fn2
  refine s_aload_n (pc' := 18) W d_jdk_68_method_2_17 rfl rfl rfl ?_
  refine s_iconst (pc' := 19) W (0 : Int32) d_jdk_68_method_2_18 rfl rfl ?_
  refine s_putfn (pc' := 22) W (w78 hw) Via.refl Fc E M (Or.inl (w79 hw)) (w49 hw) (ty := .byte) (v' := .int 0) (by decide) rfl rfl d_jdk_68_method_2_19 rfl ?_
  intro T h W K3 C3 Wr3 Fn3
  replace Fn := Fn.other Wr3 (Or.inr (slot_ne (Or.inl (w113 hw)) (Or.inl (w79 hw)) (by decide) (by decide : parseFieldDescriptor "I" = some .int) (by decide : parseFieldDescriptor "B" = some .byte)))
  replace Fv := Fv.other Wr3 (Or.inr (slot_ne (Or.inl (w77 hw)) (Or.inl (w79 hw)) (by decide) (by decide : parseFieldDescriptor "[B" = some (.array .byte)) (by decide : parseFieldDescriptor "B" = some .byte)))
  replace Kt := Kt.trans K3 (allS (P := fun x => _ ∨ _) (Or.inl (by simp)) all0)
  replace E := E.keep K3
  replace M := M.mv C3
  replace V_b := V_b.keep K3 (ninS (Ne.symm ne_a_b) nin0)
  replace M_b := M_b.mv C3
  replace X_b := X_b.keep K3
  have Fc := Fn3
  clear Fn3
  refine s_goto (pc' := 38) W d_jdk_68_method_2_22 (by decide) rfl ?_
  refine s_ret W rfl d_jdk_68_method_2_38 (by (try dsimp only) <;> omega) (by (try dsimp only) <;> omega) ?_
  intro vm' C'
  exact ⟨rfl, Kt, b, k_b, ⟨E, Fc, Fn, Fv, ⟨List.replicate cap (.int 0), by simp, V_b⟩, fun c hc => by simp at hc, hcap, X_b⟩, fs_b, M_b.mv C'⟩
set_option maxRecDepth 65536 in
set_option maxHeartbeats 40000000 in
theorem ef_sbinitI (m : MethodId) (x0 : Addr) (x1 : Int32) : entryFrame m #[(.ref x0), (.int x1)] 2 = mkF m 0 #[.val (.ref x0), .val (.int x1)] [] := by first | (simp [entryFrame, mkF, argsToLocals, Value.category]; done) | rfl
set_option maxRecDepth 65536 in
set_option maxHeartbeats 40000000 in
theorem c_sbinitI (l : Launch) {Z : State} {a0 : Array Value} (hw : Hw Z a0) {n0 : Nat} {h : Heap} (O : Old Z n0 h) {a : Nat} {cap : Nat} (CS0 : CS Z) (hcap : cap ≤ 4096) (E : Exa Z h a "java/lang/StringBuilder") (M0 : n0 ≤ a) (Ma : a < h.size) (Fc : Fld Z h a "java/lang/AbstractStringBuilder" "coder" "B" (.int 0)) (Fv : Fld Z h a "java/lang/AbstractStringBuilder" "value" "[B" .null) (Fn : Fld Z h a "java/lang/AbstractStringBuilder" "count" "I" (.int 0)) :
    Con l Z EL1 n0 (⟨"java/lang/StringBuilder", "<init>", "(I)V"⟩ : MethodName) jdk_67_method_2_code 2 none [] ({ frames := 2, cells := 1, slots := cap, locals := 25 } : Room) #[(.ref a), (.int (Int32.ofNat cap))] h [a] (fun v vm' h' => v = none ∧ Keep h h' [a] ∧ ∃ b kb, SBd Z h' a b kb cap [] ∧ h.size ≤ b ∧ Mine Z EL1 n0 vm' h' b) := by
  refine Con.of pn15 O (el hw) ?_
  intro pg_ e s m below meth cd_ T W hs_ hSf
  rw [ef_sbinitI]
  have Sa := hSf a (by simp)
  refine s_aload_n (pc' := 1) W d_jdk_67_method_2_0 rfl rfl rfl ?_
  refine s_iload_n (pc' := 2) W d_jdk_67_method_2_1 rfl rfl ?_
  refine s_init (pc' := 5) W rfl (w68 hw) (w69 hw) (w72 hw) (w73 hw) (by decide) pd9 [(.int (Int32.ofNat cap))] rfl (c_asbinit l hw W.old CS0 hcap E M0 Ma Fc Fv Fn) (allS ⟨Ma, Sa⟩ all0) rfl d_jdk_67_method_2_2 0 (le rfl) (bl rfl) (bl rfl) (by (try dsimp only) <;> omega) (by (try dsimp only) <;> omega) rfl ?_
  rintro _ T vm h W C1 ⟨rfl, K1, b, kb, Sb, fs_b, Mb⟩
  refine s_ret W rfl d_jdk_67_method_2_5 (by (try dsimp only) <;> omega) (by (try dsimp only) <;> omega) ?_
  intro vm' C'
  exact ⟨rfl, K1, b, kb, Sb, fs_b, Mb.mv C'⟩
set_option maxRecDepth 65536 in
set_option maxHeartbeats 40000000 in
theorem ef_ensureN (m : MethodId) (x0 : Addr) (x1 : Int32) : entryFrame m #[(.ref x0), (.int x1)] 3 = mkF m 0 #[.val (.ref x0), .val (.int x1), .unset] [] := by first | (simp [entryFrame, mkF, argsToLocals, Value.category]; done) | rfl
set_option maxRecDepth 65536 in
set_option maxHeartbeats 40000000 in
theorem c_ensureN (l : Launch) {Z : State} {a0 : Array Value} (hw : Hw Z a0) {n0 : Nat} {h : Heap} (O : Old Z n0 h) {a b : Nat} {kb : ClassId} {cap : Nat} {cs : List Int32} (F : SBd Z h a b kb cap cs) {mm : Nat} (hm : mm ≤ cap) :
    Con l Z EL1 n0 (⟨"java/lang/AbstractStringBuilder", "ensureCapacityInternal", "(I)V"⟩ : MethodName) jdk_68_method_9_code 3 none [] ({ frames := 0, cells := 0, slots := 0, locals := 0 } : Room) #[(.ref a), (.int (Int32.ofNat mm))] h [] (fun v vm' h' => v = none ∧ h = h') := by
  refine Con.of pn16 O (el hw) ?_
  intro pg_ e s m below meth cd_ T W hs_ hSf
  rw [ef_ensureN]
  obtain ⟨f1, f2, f3, f4, ⟨r, hr, A⟩, f6⟩ := F
  refine s_aload_n (pc' := 1) W d_jdk_68_method_9_0 rfl rfl rfl ?_
  refine s_getf (pc' := 4) W (w76 hw) Via.refl f4 d_jdk_68_method_9_1 rfl ?_
  intro T W
  refine s_alen (pc' := 5) W A d_jdk_68_method_9_4 rfl ?_
  refine s_aload_n (pc' := 6) W d_jdk_68_method_9_5 rfl rfl rfl ?_
  refine s_getf (pc' := 9) W (w78 hw) Via.refl f2 d_jdk_68_method_9_6 rfl ?_
  intro T W
  refine s_ishr (pc' := 10) W d_jdk_68_method_9_9 rfl ?_
  refine s_istore_n (pc' := 11) W #[rv a, iv (Int32.ofNat mm), iv ((Int32.ofNat cap) >>> ((0 : Int32) &&& 31))] d_jdk_68_method_9_10 rfl rfl ?_
  refine s_iload_n (pc' := 12) W d_jdk_68_method_9_11 rfl rfl ?_
  refine s_iload_n (pc' := 13) W d_jdk_68_method_9_12 rfl rfl ?_
  refine s_isub (pc' := 14) W d_jdk_68_method_9_13 rfl ?_
  refine s_ifle (pc' := 17) (pcT := 38) W d_jdk_68_method_9_14 (by decide) rfl rfl (fun _ => ?_) (fun hq => absurd hq (sub_le0 hm f6.2.1))
  refine s_ret W rfl d_jdk_68_method_9_38 (bl rfl) (bl rfl) ?_
  intro vm' C'
  exact ⟨rfl, rfl⟩
set_option maxRecDepth 65536 in
set_option maxHeartbeats 40000000 in
theorem ef_asblatin1 (m : MethodId) (x0 : Addr) : entryFrame m #[(.ref x0)] 1 = mkF m 0 #[.val (.ref x0)] [] := by first | (simp [entryFrame, mkF, argsToLocals, Value.category]; done) | rfl
set_option maxRecDepth 65536 in
set_option maxHeartbeats 40000000 in
theorem c_asblatin1 (l : Launch) {Z : State} {a0 : Array Value} (hw : Hw Z a0) {n0 : Nat} {h : Heap} (O : Old Z n0 h) (CS0 : CS Z) {a b : Nat} {kb : ClassId} {cap : Nat} {cs : List Int32} (F : SBd Z h a b kb cap cs) :
    Con l Z EL1 n0 (⟨"java/lang/AbstractStringBuilder", "isLatin1", "()Z"⟩ : MethodName) jdk_68_method_68_code 1 (some .boolean) [] ({ frames := 0, cells := 0, slots := 0, locals := 0 } : Room) #[(.ref a)] h [] (fun v vm' h' => v = some (.int 1) ∧ h = h') := by
  refine Con.of pn17 O (el hw) ?_
  intro pg_ e s m below meth cd_ T W hs_ hSf
  rw [ef_asblatin1]
  obtain ⟨vc, Sc, hvc⟩ := CS0
  refine s_gets (pc' := 3) W (w75 hw) Via.refl Sc d_jdk_68_method_68_0 rfl ?_
  intro T W
  refine s_ifeq (pc' := 6) (pcT := 17) W d_jdk_68_method_68_3 (by decide) rfl rfl (fun hq => absurd hq hvc) (fun _ => ?_)
  refine s_aload_n (pc' := 7) W d_jdk_68_method_68_6 rfl rfl rfl ?_
  refine s_getf (pc' := 10) W (w78 hw) Via.refl F.2.1 d_jdk_68_method_68_7 rfl ?_
  intro T W
  refine s_ifne (pc' := 13) (pcT := 17) W d_jdk_68_method_68_10 (by decide) rfl rfl (fun hq => absurd (by decide) hq) (fun _ => ?_)
  refine s_iconst (pc' := 14) W (1 : Int32) d_jdk_68_method_68_13 rfl rfl ?_
  refine s_goto (pc' := 18) W d_jdk_68_method_68_14 (by decide) rfl ?_
  refine s_nreturn W (t := .boolean) rfl (by simp) d_jdk_68_method_68_18 (bl rfl) (bl rfl) ?_
  intro vm' C'
  exact ⟨rfl, rfl⟩
set_option maxRecDepth 65536 in
set_option maxHeartbeats 40000000 in
theorem ef_canencC (m : MethodId) (x0 : Int32) : entryFrame m #[(.int x0)] 1 = mkF m 0 #[.val (.int x0)] [] := by first | (simp [entryFrame, mkF, argsToLocals, Value.category]; done) | rfl
set_option maxRecDepth 65536 in
set_option maxHeartbeats 40000000 in
theorem c_canencC (l : Launch) {Z : State} {a0 : Array Value} (hw : Hw Z a0) {n0 : Nat} {h : Heap} (O : Old Z n0 h) {x : Int32} (hL : L1 x) :
    Con l Z EL1 n0 (⟨"java/lang/StringLatin1", "canEncode", "(C)Z"⟩ : MethodName) jdk_43_method_3_code 1 (some .boolean) [] ({ frames := 0, cells := 0, slots := 0, locals := 0 } : Room) #[(.int x)] h [] (fun v vm' h' => v = some (.int 1) ∧ h = h') := by
  refine Con.of pn18 O (el hw) ?_
  intro pg_ e s m below meth cd_ T W hs_ hSf
  rw [ef_canencC]
  refine s_iload_n (pc' := 1) W d_jdk_43_method_3_0 rfl rfl ?_
  refine s_sipush (pc' := 4) W (255 : Int32) d_jdk_43_method_3_1 rfl rfl ?_
  refine s_icmpgt (pc' := 7) (pcT := 11) W d_jdk_43_method_3_4 (by decide) rfl rfl (fun hq => absurd hq hL.2) (fun _ => ?_)
  refine s_iconst (pc' := 8) W (1 : Int32) d_jdk_43_method_3_7 rfl rfl ?_
  refine s_goto (pc' := 12) W d_jdk_43_method_3_8 (by decide) rfl ?_
  refine s_nreturn W (t := .boolean) rfl (by simp) d_jdk_43_method_3_12 (bl rfl) (bl rfl) ?_
  intro vm' C'
  exact ⟨rfl, rfl⟩
set_option maxRecDepth 65536 in
set_option maxHeartbeats 40000000 in
theorem ef_asbappendC (m : MethodId) (x0 : Addr) (x1 : Int32) : entryFrame m #[(.ref x0), (.int x1)] 2 = mkF m 0 #[.val (.ref x0), .val (.int x1)] [] := by first | (simp [entryFrame, mkF, argsToLocals, Value.category]; done) | rfl
set_option maxRecDepth 65536 in
set_option maxHeartbeats 40000000 in
theorem c_asbappendC (l : Launch) {Z : State} {a0 : Array Value} (hw : Hw Z a0) {n0 : Nat} {h : Heap} (O : Old Z n0 h) (CS0 : CS Z) {a b : Nat} {kb : ClassId} {cap : Nat} {cs : List Int32} (F : SBd Z h a b kb cap cs) {x : Int32} (hL : L1 x) (hm : cs.length + 1 ≤ cap) (nab : a ≠ b) (M0 : n0 ≤ a) (M1 : n0 ≤ b) :
    Con l Z EL1 n0 (⟨"java/lang/AbstractStringBuilder", "append", "(C)Ljava/lang/AbstractStringBuilder;"⟩ : MethodName) jdk_68_method_31_code 2 (some (.object "java/lang/AbstractStringBuilder")) [] ({ frames := 1, cells := 0, slots := 0, locals := 14 } : Room) #[(.ref a), (.int x)] h [a, b] (fun v vm' h' => v = some (.ref a) ∧ Keep h h' [a, b] ∧ SBd Z h' a b kb cap (cs ++ [x])) := by
  refine Con.of pn19 O (el hw) ?_
  intro pg_ e s m below meth cd_ T W hs_ hSf
  rw [ef_asbappendC]
  have M : Mine Z EL1 n0 s.vm h a := ⟨M0, F.lt, hSf a (by simp)⟩
  have MB : Mine Z EL1 n0 s.vm h b := ⟨M1, F.ltb, hSf b (by simp)⟩
  have Kt := Keep.refl h [a, b]
  have lbF := nlt F.ltb
  have laF := nlt F.lt
  refine s_aload_n (pc' := 1) W d_jdk_68_method_31_0 rfl rfl rfl ?_
  refine s_aload_n (pc' := 2) W d_jdk_68_method_31_1 rfl rfl rfl ?_
  refine s_getf (pc' := 5) W (w112 hw) Via.refl F.2.2.1 d_jdk_68_method_31_2 rfl ?_
  intro T W
  refine s_iconst (pc' := 6) W (1 : Int32) d_jdk_68_method_31_5 rfl rfl ?_
  refine s_iadd (pc' := 7) W d_jdk_68_method_31_6 rfl ?_
  rw [show Int32.ofNat cs.length + (1 : Int32) = Int32.ofNat (cs.length + 1) from n_add _ 1]
  refine s_virt (pc' := 10) W (C0 := "java/lang/StringBuilder") (w138 hw) (decl_of (w139 hw) (w142 hw)) (w141 hw) (w139 hw) (w72 hw) (w142 hw) (notFace_of_selects (args := a0) (w141 hw)) (by decide) pd9 [(.int (Int32.ofNat (cs.length + 1)))] rfl F.1 (c_ensureN l hw W.old F hm) all0 rfl d_jdk_68_method_31_7 0 (le rfl) (bl rfl) (bl rfl) (bl rfl) (bl rfl) rfl ?_
  rintro _ T vm _ W C1 ⟨rfl, rfl⟩
  replace M := M.mv C1
  replace MB := MB.mv C1
  refine s_aload_n (pc' := 11) W d_jdk_68_method_31_10 rfl rfl rfl ?_
  refine s_virt (pc' := 14) W (C0 := "java/lang/StringBuilder") (w143 hw) (w144 hw) (w146 hw) (w145 hw) (w72 hw) (w147 hw) (notFace_of_selects (args := a0) (w146 hw)) (by decide) pd7 [] rfl F.1 (c_asblatin1 l hw W.old CS0 F) all0 rfl d_jdk_68_method_31_11 0 (le rfl) (bl rfl) (bl rfl) (bl rfl) (bl rfl) rfl ?_
  rintro _ T vm _ W C2 ⟨rfl, rfl⟩
  replace M := M.mv C2
  replace MB := MB.mv C2
  refine s_ifeq (pc' := 17) (pcT := 45) W d_jdk_68_method_31_14 (by decide) rfl rfl (fun hq => absurd hq (by decide)) (fun _ => ?_)
  refine s_iload_n (pc' := 18) W d_jdk_68_method_31_17 rfl rfl ?_
  refine s_static (pc' := 21) W (w148 hw) (w149 hw) (w92 hw) (w150 hw) (by decide) pd10 [(.int x)] rfl (c_canencC l hw W.old hL) all0 rfl d_jdk_68_method_31_18 0 (le rfl) (bl rfl) (bl rfl) (bl rfl) (bl rfl) rfl ?_
  rintro _ T vm _ W C3 ⟨rfl, rfl⟩
  replace M := M.mv C3
  replace MB := MB.mv C3
  refine s_ifeq (pc' := 24) (pcT := 45) W d_jdk_68_method_31_21 (by decide) rfl rfl (fun hq => absurd hq (by decide)) (fun _ => ?_)
  refine s_aload_n (pc' := 25) W d_jdk_68_method_31_24 rfl rfl rfl ?_
  refine s_getf (pc' := 28) W (w76 hw) Via.refl F.2.2.2.1 d_jdk_68_method_31_25 rfl ?_
  intro T W
  obtain ⟨f1, f2, f3, f4, ⟨r, hr, A⟩, f6⟩ := F
  have hcap := f6.2.1
  have XB := f6.2.2
  refine s_aload_n (pc' := 29) W d_jdk_68_method_31_28 rfl rfl rfl ?_
  refine s_dup (pc' := 30) W d_jdk_68_method_31_29 rfl rfl ?_
  refine s_getf (pc' := 33) W (w112 hw) Via.refl f3 d_jdk_68_method_31_30 rfl ?_
  intro T W
  refine s_dup_x1 (pc' := 34) W d_jdk_68_method_31_33 rfl rfl rfl ?_
  refine s_iconst (pc' := 35) W (1 : Int32) d_jdk_68_method_31_34 rfl rfl ?_
  refine s_iadd (pc' := 36) W d_jdk_68_method_31_35 rfl ?_
  rw [show Int32.ofNat cs.length + (1 : Int32) = Int32.ofNat (cs.length + 1) from n_add _ 1]
  refine s_putf (pc' := 39) W (w112 hw) Via.refl f3 f1 M (Or.inl (w113 hw)) (w49 hw) (ty := .int) (by decide) rfl rfl d_jdk_68_method_31_36 rfl ?_
  intro T h W K4 C4 Wr4 Fn4
  replace f2 := f2.other Wr4 (Or.inr (slot_ne (Or.inl (w79 hw)) (Or.inl (w113 hw)) (by decide) (by decide : parseFieldDescriptor "B" = some .byte) (by decide : parseFieldDescriptor "I" = some .int)))
  replace f4 := f4.other Wr4 (Or.inr (slot_ne (Or.inl (w77 hw)) (Or.inl (w113 hw)) (by decide) (by decide : parseFieldDescriptor "[B" = some (.array .byte)) (by decide : parseFieldDescriptor "I" = some .int)))
  replace Kt := Kt.trans K4 (allS (P := fun x => _ ∨ _) (Or.inl (by simp)) all0)
  replace M := M.mv C4
  replace MB := MB.mv C4
  replace XB := XB.keep K4
  replace f1 := f1.keep K4
  replace A := A.keep K4 (ninS (Ne.symm nab) nin0)
  have f3 := Fn4
  clear Fn4
  refine s_iload_n (pc' := 40) W d_jdk_68_method_31_39 rfl rfl ?_
  refine s_i2b (pc' := 41) W d_jdk_68_method_31_40 rfl ?_
  refine s_bastore (pc' := 42) W cs.length A MB (n_clamp (by omega)) (n_nn (by omega)) (n_lt (by omega) (by omega)) (by simp; omega) d_jdk_68_method_31_41 rfl ?_
  intro T h W K5 C5 Vn5
  replace Kt := Kt.trans K5 (allS (P := fun x => _ ∨ _) (Or.inl (by simp)) all0)
  replace M := M.mv C5
  replace MB := MB.mv C5
  replace XB := XB.keep K5
  replace f1 := f1.keep K5
  replace f2 := f2.keep K5 (ninS nab nin0)
  replace f4 := f4.keep K5 (ninS nab nin0)
  replace f3 := f3.keep K5 (ninS nab nin0)
  have A := Vn5
  clear Vn5
  rw [bb, sset (by omega)] at A
  refine s_goto (pc' := 75) W d_jdk_68_method_31_42 (by decide) rfl ?_
  refine s_aload_n (pc' := 76) W d_jdk_68_method_31_75 rfl rfl rfl ?_
  refine s_areturn W rfl rfl rfl d_jdk_68_method_31_76 (bl rfl) (bl rfl) ?_
  intro vm' C'
  exact ⟨rfl, Kt, f1, f2, by simpa using f3, f4, ⟨_, by simp; omega, A⟩, fun c hc => (List.mem_append.mp hc).elim (f6.1 c) (fun q => by cases List.mem_singleton.mp q; exact hL), f6.2.1, XB⟩
set_option maxRecDepth 65536 in
set_option maxHeartbeats 40000000 in
theorem ef_sbappendC (m : MethodId) (x0 : Addr) (x1 : Int32) : entryFrame m #[(.ref x0), (.int x1)] 2 = mkF m 0 #[.val (.ref x0), .val (.int x1)] [] := by first | (simp [entryFrame, mkF, argsToLocals, Value.category]; done) | rfl
set_option maxRecDepth 65536 in
set_option maxHeartbeats 40000000 in
theorem c_sbappendC (l : Launch) {Z : State} {a0 : Array Value} (hw : Hw Z a0) {n0 : Nat} {h : Heap} (O : Old Z n0 h) (CS0 : CS Z) {a b : Nat} {kb : ClassId} {cap : Nat} {cs : List Int32} (F : SBd Z h a b kb cap cs) {x : Int32} (hL : L1 x) (hm : cs.length + 1 ≤ cap) (nab : a ≠ b) (M0 : n0 ≤ a) (M1 : n0 ≤ b) :
    Con l Z EL1 n0 (⟨"java/lang/StringBuilder", "append", "(C)Ljava/lang/StringBuilder;"⟩ : MethodName) jdk_67_method_14_code 2 (some (.object "java/lang/StringBuilder")) [] ({ frames := 2, cells := 0, slots := 0, locals := 27 } : Room) #[(.ref a), (.int x)] h [a, b] (fun v vm' h' => v = some (.ref a) ∧ Keep h h' [a, b] ∧ SBd Z h' a b kb cap (cs ++ [x])) := by
  refine Con.of pn20 O (el hw) ?_
  intro pg_ e s m below meth cd_ T W hs_ hSf
  rw [ef_sbappendC]
  have S1 := hSf a (by simp)
  have S2 := hSf b (by simp)
  refine s_aload_n (pc' := 1) W d_jdk_67_method_14_0 rfl rfl rfl ?_
  refine s_iload_n (pc' := 2) W d_jdk_67_method_14_1 rfl rfl ?_
  refine s_super (pc' := 5) W (K := "java/lang/AbstractStringBuilder") (w134 hw) (same_of (y := (⟨"java/lang/AbstractStringBuilder", "append", "(C)Ljava/lang/AbstractStringBuilder;"⟩ : MethodName)) (by decide) (w135 hw) (nf_of (y := (⟨"java/lang/AbstractStringBuilder", "append", "(C)Ljava/lang/AbstractStringBuilder;"⟩ : MethodName)) (y' := (⟨"java/lang/AbstractStringBuilder", "ensureCapacityInternal", "(I)V"⟩ : MethodName)) rfl (w141 hw))) (w135 hw) (w109 hw) (w72 hw) (w137 hw) (by decide) pd11 [(.int x)] rfl (Ins.of_exa F.1 (w71 hw)) (c_asbappendC l hw W.old CS0 F hL hm nab M0 M1) (allS ⟨F.lt, S1⟩ (allS ⟨F.ltb, S2⟩ all0)) rfl d_jdk_67_method_14_2 0 (le rfl) (bl rfl) (bl rfl) (bl rfl) (bl rfl) rfl ?_
  rintro _ T vm h W C1 ⟨rfl, K1, H⟩
  refine s_pop (pc' := 6) W d_jdk_67_method_14_5 rfl rfl ?_
  refine s_aload_n (pc' := 7) W d_jdk_67_method_14_6 rfl rfl rfl ?_
  refine s_areturn W rfl rfl rfl d_jdk_67_method_14_7 (bl rfl) (bl rfl) ?_
  intro vm' C'
  exact ⟨rfl, K1, H⟩
set_option maxRecDepth 65536 in
set_option maxHeartbeats 40000000 in
theorem ef_asbgetvalue (m : MethodId) (x0 : Addr) : entryFrame m #[(.ref x0)] 1 = mkF m 0 #[.val (.ref x0)] [] := by first | (simp [entryFrame, mkF, argsToLocals, Value.category]; done) | rfl
set_option maxRecDepth 65536 in
set_option maxHeartbeats 40000000 in
theorem c_asbgetvalue (l : Launch) {Z : State} {a0 : Array Value} (hw : Hw Z a0) {n0 : Nat} {h : Heap} (O : Old Z n0 h) {a b : Nat} {kb : ClassId} {cap : Nat} {cs : List Int32} (F : SBd Z h a b kb cap cs) :
    Con l Z EL1 n0 (⟨"java/lang/AbstractStringBuilder", "getValue", "()[B"⟩ : MethodName) jdk_68_method_64_code 1 (some (.array .byte)) [] ({ frames := 0, cells := 0, slots := 0, locals := 0 } : Room) #[(.ref a)] h [] (fun v vm' h' => v = some (.ref b) ∧ h = h') := by
  refine Con.of pn21 O (el hw) ?_
  intro pg_ e s m below meth cd_ T W hs_ hSf
  rw [ef_asbgetvalue]
  refine s_aload_n (pc' := 1) W d_jdk_68_method_64_0 rfl rfl rfl ?_
  refine s_getf (pc' := 4) W (w76 hw) Via.refl F.2.2.2.1 d_jdk_68_method_64_1 rfl ?_
  intro T W
  refine s_areturn W rfl rfl rfl d_jdk_68_method_64_4 (bl rfl) (bl rfl) ?_
  intro vm' C'
  exact ⟨rfl, rfl⟩
set_option maxRecDepth 65536 in
set_option maxHeartbeats 40000000 in
theorem ef_asblength (m : MethodId) (x0 : Addr) : entryFrame m #[(.ref x0)] 1 = mkF m 0 #[.val (.ref x0)] [] := by first | (simp [entryFrame, mkF, argsToLocals, Value.category]; done) | rfl
set_option maxRecDepth 65536 in
set_option maxHeartbeats 40000000 in
theorem c_asblength (l : Launch) {Z : State} {a0 : Array Value} (hw : Hw Z a0) {n0 : Nat} {h : Heap} (O : Old Z n0 h) {a b : Nat} {kb : ClassId} {cap : Nat} {cs : List Int32} (F : SBd Z h a b kb cap cs) :
    Con l Z EL1 n0 (⟨"java/lang/AbstractStringBuilder", "length", "()I"⟩ : MethodName) jdk_68_method_6_code 1 (some .int) [] ({ frames := 0, cells := 0, slots := 0, locals := 0 } : Room) #[(.ref a)] h [] (fun v vm' h' => v = some (.int (Int32.ofNat cs.length)) ∧ h = h') := by
  refine Con.of pn22 O (el hw) ?_
  intro pg_ e s m below meth cd_ T W hs_ hSf
  rw [ef_asblength]
  refine s_aload_n (pc' := 1) W d_jdk_68_method_6_0 rfl rfl rfl ?_
  refine s_getf (pc' := 4) W (w112 hw) Via.refl F.2.2.1 d_jdk_68_method_6_1 rfl ?_
  intro T W
  refine s_ireturn W rfl d_jdk_68_method_6_4 (bl rfl) (bl rfl) ?_
  intro vm' C'
  exact ⟨rfl, rfl⟩
set_option maxRecDepth 65536 in
set_option maxHeartbeats 40000000 in
theorem ef_sblength (m : MethodId) (x0 : Addr) : entryFrame m #[(.ref x0)] 1 = mkF m 0 #[.val (.ref x0)] [] := by first | (simp [entryFrame, mkF, argsToLocals, Value.category]; done) | rfl
set_option maxRecDepth 65536 in
set_option maxHeartbeats 40000000 in
theorem c_sblength (l : Launch) {Z : State} {a0 : Array Value} (hw : Hw Z a0) {n0 : Nat} {h : Heap} (O : Old Z n0 h) {a b : Nat} {kb : ClassId} {cap : Nat} {cs : List Int32} (F : SBd Z h a b kb cap cs) :
    Con l Z EL1 n0 (⟨"java/lang/StringBuilder", "length", "()I"⟩ : MethodName) jdk_67_method_93_code 1 (some .int) [] ({ frames := 1, cells := 0, slots := 0, locals := 12 } : Room) #[(.ref a)] h [] (fun v vm' h' => v = some (.int (Int32.ofNat cs.length)) ∧ h = h') := by
  refine Con.of pn23 O (el hw) ?_
  intro pg_ e s m below meth cd_ T W hs_ hSf
  rw [ef_sblength]
  refine s_aload_n (pc' := 1) W d_jdk_67_method_93_0 rfl rfl rfl ?_
  refine s_super (pc' := 4) W (K := "java/lang/AbstractStringBuilder") (w107 hw) (same_of (y := (⟨"java/lang/AbstractStringBuilder", "length", "()I"⟩ : MethodName)) (by decide) (w108 hw) (nf_of (y := (⟨"java/lang/AbstractStringBuilder", "length", "()I"⟩ : MethodName)) (y' := (⟨"java/lang/AbstractStringBuilder", "ensureCapacityInternal", "(I)V"⟩ : MethodName)) rfl (w141 hw))) (w108 hw) (w109 hw) (w72 hw) (w111 hw) (by decide) pd12 [] rfl (Ins.of_exa F.1 (w71 hw)) (c_asblength l hw W.old F) all0 rfl d_jdk_67_method_93_1 0 (le rfl) (bl rfl) (bl rfl) (bl rfl) (bl rfl) rfl ?_
  rintro _ T vm _ W C1 ⟨rfl, rfl⟩
  refine s_ireturn W rfl d_jdk_67_method_93_4 (bl rfl) (bl rfl) ?_
  intro vm' C'
  exact ⟨rfl, rfl⟩
set_option maxRecDepth 65536 in
set_option maxHeartbeats 40000000 in
theorem ef_nappend (m : MethodId) (x0 : Addr) (x1 : Int32) : entryFrame m #[(.ref x0), (.int x1)] 2 = mkF m 0 #[.val (.ref x0), .val (.int x1)] [] := by first | (simp [entryFrame, mkF, argsToLocals, Value.category]; done) | rfl
set_option maxRecDepth 65536 in
set_option maxHeartbeats 40000000 in
theorem c_nappend (l : Launch) {Z : State} {a0 : Array Value} (hw : Hw Z a0) {n0 : Nat} {h : Heap} (O : Old Z n0 h) (CS0 : CS Z) {a b : Nat} {kb : ClassId} {cap : Nat} {cs : List Int32} (F : SBd Z h a b kb cap cs) {x : Int32} (hL : L1 x) (hm : cs.length < 50 → cs.length + 1 ≤ cap) (nab : a ≠ b) (M0 : n0 ≤ a) (M1 : n0 ≤ b) :
    Con l Z EL1 n0 (⟨"com/example/udfyld/udfyld/Normaliser", "append", "(Ljava/lang/StringBuilder;C)Z"⟩ : MethodName) prog_12_method_5_code 2 (some .boolean) [] ({ frames := 3, cells := 0, slots := 0, locals := 40 } : Room) #[(.ref a), (.int x)] h [a, b] (fun v vm' h' => ∃ r : Int32, v = some (.int r) ∧ Keep h h' [a, b] ∧ ((cs.length < 50 ∧ r = 1 ∧ SBd Z h' a b kb cap (cs ++ [x])) ∨ (¬ cs.length < 50 ∧ r = 0 ∧ SBd Z h' a b kb cap cs))) := by
  refine Con.of pn24 O (el hw) ?_
  intro pg_ e s m below meth cd_ T W hs_ hSf
  rw [ef_nappend]
  have S1 := hSf a (by simp)
  have S2 := hSf b (by simp)
  have hcle := F.le
  have hc4 : cap ≤ 4096 := F.2.2.2.2.2.2.1
  refine s_aload_n (pc' := 1) W d_prog_12_method_5_0 rfl rfl rfl ?_
  refine s_virt (pc' := 4) W (C0 := "java/lang/StringBuilder") (w102 hw) (w103 hw) (w105 hw) (w104 hw) (w50 hw) (w106 hw) (notFace_of_selects (args := a0) (w105 hw)) (by decide) pd12 [] rfl F.1 (c_sblength l hw W.old F) all0 rfl d_prog_12_method_5_1 0 (le rfl) (bl rfl) (bl rfl) (bl rfl) (bl rfl) rfl ?_
  rintro _ T vm _ W C1 ⟨rfl, rfl⟩
  refine s_bipush (pc' := 6) W (50 : Int32) d_prog_12_method_5_4 rfl rfl ?_
  refine s_icmplt (pc' := 9) (pcT := 11) W d_prog_12_method_5_6 (by decide) rfl rfl (fun hq => ?_) (fun hq => ?_)
  · have h50 : cs.length < 50 := by rcases Nat.lt_or_ge cs.length 50 with q | q; exact q; exact absurd hq (n_ge (n := 50) q (by omega))
    refine s_aload_n (pc' := 12) W d_prog_12_method_5_11 rfl rfl rfl ?_
    refine s_iload_n (pc' := 13) W d_prog_12_method_5_12 rfl rfl ?_
    refine s_virt (pc' := 16) W (C0 := "java/lang/StringBuilder") (w129 hw) (w130 hw) (w132 hw) (w131 hw) (w50 hw) (w133 hw) (notFace_of_selects (args := a0) (w132 hw)) (by decide) pd13 [(.int x)] rfl F.1 (c_sbappendC l hw W.old CS0 F hL (hm h50) nab M0 M1) (allS ⟨F.lt, C1.safe F.lt S1⟩ (allS ⟨F.ltb, C1.safe F.ltb S2⟩ all0)) rfl d_prog_12_method_5_13 0 (le rfl) (bl rfl) (bl rfl) (bl rfl) (bl rfl) rfl ?_
    rintro _ T vm h W C2 ⟨rfl, K2, H⟩
    refine s_pop (pc' := 17) W d_prog_12_method_5_16 rfl rfl ?_
    refine s_iconst (pc' := 18) W (1 : Int32) d_prog_12_method_5_17 rfl rfl ?_
    refine s_nreturn W (t := .boolean) rfl (by simp) d_prog_12_method_5_18 (bl rfl) (bl rfl) ?_
    intro vm' C'
    exact ⟨1, rfl, K2, Or.inl ⟨h50, rfl, H⟩⟩
  · refine s_iconst (pc' := 10) W (0 : Int32) d_prog_12_method_5_9 rfl rfl ?_
    refine s_nreturn W (t := .boolean) rfl (by simp) d_prog_12_method_5_10 (bl rfl) (bl rfl) ?_
    intro vm' C'
    exact ⟨0, rfl, Keep.refl _ _, Or.inr ⟨fun q => hq (n_lt (n := 50) q (by decide)), rfl, F⟩⟩
set_option maxRecDepth 65536 in
set_option maxHeartbeats 40000000 in
theorem ef_checklength (m : MethodId) (x0 : Int32) (x1 : Int32) : entryFrame m #[(.int x0), (.int x1)] 2 = mkF m 0 #[.val (.int x0), .val (.int x1)] [] := by first | (simp [entryFrame, mkF, argsToLocals, Value.category]; done) | rfl
set_option maxRecDepth 65536 in
set_option maxHeartbeats 40000000 in
theorem c_checklength (l : Launch) {Z : State} {a0 : Array Value} (hw : Hw Z a0) {n0 : Nat} {h : Heap} (O : Old Z n0 h) {x y : Int32} (hq0 : ¬ y < x) :
    Con l Z EL1 n0 (⟨"java/util/Arrays", "checkLength", "(II)V"⟩ : MethodName) jdk_65_method_131_code 2 none [] ({ frames := 0, cells := 0, slots := 0, locals := 0 } : Room) #[(.int x), (.int y)] h [] (fun v vm' h' => v = none ∧ h = h') := by
  refine Con.of pn25 O (el hw) ?_
  intro pg_ e s m below meth cd_ T W hs_ hSf
  rw [ef_checklength]
  refine s_iload_n (pc' := 1) W d_jdk_65_method_131_0 rfl rfl ?_
  refine s_iload_n (pc' := 2) W d_jdk_65_method_131_1 rfl rfl ?_
  refine s_icmpge (pc' := 5) (pcT := 37) W d_jdk_65_method_131_2 (by decide) rfl rfl (fun _ => ?_) (fun hq => absurd hq hq0)
  refine s_ret W rfl d_jdk_65_method_131_37 (bl rfl) (bl rfl) ?_
  intro vm' C'
  exact ⟨rfl, rfl⟩
set_option maxRecDepth 65536 in
set_option maxHeartbeats 40000000 in
theorem ef_copyrangebyte (m : MethodId) (x0 : Addr) (x1 : Int32) (x2 : Int32) : entryFrame m #[(.ref x0), (.int x1), (.int x2)] 5 = mkF m 0 #[.val (.ref x0), .val (.int x1), .val (.int x2), .unset, .unset] [] := by first | (simp [entryFrame, mkF, argsToLocals, Value.category]; done) | rfl
set_option maxRecDepth 65536 in
set_option maxHeartbeats 40000000 in
theorem c_copyrangebyte (l : Launch) {Z : State} {a0 : Array Value} (hw : Hw Z a0) {n0 : Nat} {h : Heap} (O : Old Z n0 h) {b : Nat} {kb : ClassId} {cap n : Nat} {cs : List Int32} {rest : List Value} (hn : cs.length = n) (hr : n + rest.length = cap) (hcap : cap ≤ 4096) (A : Arv Z h b kb .byte (Int32.ofNat cap) (cs.map bv ++ rest) (.int 0)) :
    Con l Z EL1 n0 (⟨"java/util/Arrays", "copyOfRangeByte", "([BII)[B"⟩ : MethodName) jdk_65_method_133_code 5 (some (.array .byte)) [] ({ frames := 1, cells := 1, slots := n, locals := 18 } : Room) #[(.ref b), (.int (0 : Int32)), (.int (Int32.ofNat n))] h [] (fun v vm' h' => ∃ c kc, v = some (.ref c) ∧ Keep h h' [] ∧ Arv Z h' c kc .byte (Int32.ofNat n) (cs.map bv) (.int 0) ∧ h.size ≤ c) := by
  refine Con.of pn26 O (el hw) ?_
  intro pg_ e s m below meth cd_ T W hs_ hSf
  rw [ef_copyrangebyte]
  have Kt := Keep.refl h []
  refine s_iload_n (pc' := 1) W d_jdk_65_method_133_0 rfl rfl ?_
  refine s_iload_n (pc' := 2) W d_jdk_65_method_133_1 rfl rfl ?_
  refine s_static (pc' := 5) W (w178 hw) (w179 hw) (w173 hw) (w180 hw) (by decide) pd6 [(.int (0 : Int32)), (.int (Int32.ofNat n))] rfl (c_checklength l hw W.old (n_nn (by omega))) all0 rfl d_jdk_65_method_133_2 0 (le rfl) (bl rfl) (bl rfl) (by (try dsimp only) <;> omega) (by (try dsimp only) <;> omega) rfl ?_
  rintro _ T vm _ W C1 ⟨rfl, rfl⟩
  refine s_iload_n (pc' := 6) W d_jdk_65_method_133_5 rfl rfl ?_
  refine s_iload_n (pc' := 7) W d_jdk_65_method_133_6 rfl rfl ?_
  refine s_isub (pc' := 8) W d_jdk_65_method_133_7 rfl ?_
  rw [sub0]
  refine s_istore_n (pc' := 9) W #[rv b, iv (0 : Int32), iv (Int32.ofNat n), iv (Int32.ofNat n), .unset] d_jdk_65_method_133_8 rfl rfl ?_
  refine s_iload_n (pc' := 10) W d_jdk_65_method_133_9 rfl rfl ?_
  refine s_newarr (pc' := 12) W (aty := .byte) n "[B" (by decide) (w23 hw) d_jdk_65_method_133_10 (n_nn (by omega)) (by rw [n_clamp (by omega)]; exact Nat.le_refl _) (by omega) (by (try dsimp only) <;> omega) (by (try dsimp only) <;> omega) rfl ?_
  intro c T h k_c g_c
  have fs_c := Nat.le_trans Kt.1 (Nat.le_of_eq g_c.symm)
  have ne_b_c : @Ne Nat b c := by have := nlt A.lt; omega
  intro W K2 C2 M_c V_c X_c
  replace Kt := Kt.trans K2 all0
  replace A := A.keep K2 nin0
  have V_c : Arv Z h c k_c .byte (Int32.ofNat n) (List.replicate n (.int 0)) (.int 0) := by have q := V_c; rw [n_clamp (by omega)] at q; exact q
  refine s_astore (pc' := 14) W #[rv b, iv (0 : Int32), iv (Int32.ofNat n), iv (Int32.ofNat n), rv c] d_jdk_65_method_133_12 rfl rfl rfl ?_
  refine s_aload_n (pc' := 15) W d_jdk_65_method_133_14 rfl rfl rfl ?_
  refine s_iload_n (pc' := 16) W d_jdk_65_method_133_15 rfl rfl ?_
  refine s_aload (pc' := 18) W d_jdk_65_method_133_16 rfl rfl rfl ?_
  refine s_iconst (pc' := 19) W (0 : Int32) d_jdk_65_method_133_18 rfl rfl ?_
  refine s_aload_n (pc' := 20) W d_jdk_65_method_133_19 rfl rfl rfl ?_
  refine s_alen (pc' := 21) W A d_jdk_65_method_133_20 rfl ?_
  refine s_iload_n (pc' := 22) W d_jdk_65_method_133_21 rfl rfl ?_
  refine s_isub (pc' := 23) W d_jdk_65_method_133_22 rfl ?_
  rw [sub0]
  refine s_iload_n (pc' := 24) W d_jdk_65_method_133_23 rfl rfl ?_
  refine s_static (pc' := 27) W (w181 hw) (w62 hw) (w63 hw) (w64 hw) (by decide) pd14 [(.int (Int32.ofNat cap)), (.int (Int32.ofNat n))] rfl (c_mathmin l hw W.old) all0 rfl d_jdk_65_method_133_24 4 (le rfl) (bl rfl) (bl rfl) (by (try dsimp only) <;> omega) (by (try dsimp only) <;> omega) rfl ?_
  rintro _ T vm _ W C3 ⟨rfl, rfl⟩
  replace M_c := M_c.mv C3
  have hmin : (if (Int32.ofNat n) < (Int32.ofNat cap) then (Int32.ofNat n) else (Int32.ofNat cap)) = Int32.ofNat n := by rcases Nat.lt_or_ge n cap with q | q; exact if_pos (n_lt q (by omega)); rw [show cap = n by omega, if_neg (n_ge (Nat.le_refl _) (by omega))]
  rw [hmin]
  have hc0 : (0 : Int32).toNatClampNeg = 0 := rfl
  refine s_copy (pc' := 30) W (w182 hw) (w185 hw) (w183 hw) (w184 hw) A V_c rfl (by decide) (by decide) (n_nn (by omega)) (by rw [hc0, n_clamp (by omega), n_clamp (by omega)]; omega) (by rw [hc0, n_clamp (by omega)]; omega) (by rw [hc0, n_clamp (by omega), List.length_replicate]; omega) M_c rfl d_jdk_65_method_133_27 0 (le rfl) (bl rfl) (by rw [nfw]; exact bl rfl) rfl ?_
  intro T h W K4 C4 Vn4
  replace Kt := Kt.trans K4 (allS (P := fun x => _ ∨ _) (Or.inr fs_c) all0)
  replace A := A.keep K4 (ninS ne_b_c nin0)
  replace M_c := M_c.mv C4
  replace X_c := X_c.keep K4
  have V_c := Vn4
  clear Vn4
  rw [hc0, n_clamp (by omega), range_getD' cs rest n hn] at V_c
  refine s_aload (pc' := 32) W d_jdk_65_method_133_30 rfl rfl rfl ?_
  refine s_areturn W rfl rfl rfl d_jdk_65_method_133_32 (by (try dsimp only) <;> omega) (by (try dsimp only) <;> omega) ?_
  intro vm' C'
  exact ⟨c, k_c, rfl, Kt, by simpa using V_c, fs_c⟩
set_option maxRecDepth 65536 in
set_option maxHeartbeats 40000000 in
theorem ef_copyrange (m : MethodId) (x0 : Addr) (x1 : Int32) (x2 : Int32) : entryFrame m #[(.ref x0), (.int x1), (.int x2)] 3 = mkF m 0 #[.val (.ref x0), .val (.int x1), .val (.int x2)] [] := by first | (simp [entryFrame, mkF, argsToLocals, Value.category]; done) | rfl
set_option maxRecDepth 65536 in
set_option maxHeartbeats 40000000 in
theorem c_copyrange (l : Launch) {Z : State} {a0 : Array Value} (hw : Hw Z a0) {n0 : Nat} {h : Heap} (O : Old Z n0 h) {b : Nat} {kb : ClassId} {cap n : Nat} {cs : List Int32} {rest : List Value} (hn : cs.length = n) (hr : n + rest.length = cap) (hcap : cap ≤ 4096) (A : Arv Z h b kb .byte (Int32.ofNat cap) (cs.map bv ++ rest) (.int 0)) (EB : Exa Z h b "[B") :
    Con l Z EL1 n0 (⟨"java/util/Arrays", "copyOfRange", "([BII)[B"⟩ : MethodName) jdk_65_method_132_code 3 (some (.array .byte)) [] ({ frames := 2, cells := 1, slots := n, locals := 34 } : Room) #[(.ref b), (.int (0 : Int32)), (.int (Int32.ofNat n))] h [] (fun v vm' h' => ∃ c kc, v = some (.ref c) ∧ Keep h h' [] ∧ Arv Z h' c kc .byte (Int32.ofNat n) (cs.map bv) (.int 0) ∧ h.size ≤ c) := by
  refine Con.of pn27 O (el hw) ?_
  intro pg_ e s m below meth cd_ T W hs_ hSf
  rw [ef_copyrange]
  refine s_iload_n (pc' := 1) W d_jdk_65_method_132_0 rfl rfl ?_
  refine s_ifne (pc' := 4) (pcT := 10) W d_jdk_65_method_132_1 (by decide) rfl rfl (fun hq => absurd (by decide) hq) (fun _ => ?_)
  refine s_iload_n (pc' := 5) W d_jdk_65_method_132_4 rfl rfl ?_
  refine s_aload_n (pc' := 6) W d_jdk_65_method_132_5 rfl rfl rfl ?_
  refine s_alen (pc' := 7) W A d_jdk_65_method_132_6 rfl ?_
  refine s_icmpeq (pc' := 10) (pcT := 17) W d_jdk_65_method_132_7 (by decide) rfl rfl (fun hq => ?_) (fun hq => ?_)
  · obtain rfl : n = cap := n_inj (by omega) (by omega) hq
    obtain rfl : rest = [] := List.eq_nil_of_length_eq_zero (by omega)
    rw [List.append_nil] at A
    have Kt := Keep.refl h []
    refine s_aload_n (pc' := 18) W d_jdk_65_method_132_17 rfl rfl rfl ?_
    refine s_clone (pc' := 21) W (w215 hw) (w216 hw) (w220 hw) (w218 hw) (w219 hw) (w221 hw) A EB n (by rw [n_clamp (by omega)]; exact Nat.le_refl _) rfl d_jdk_65_method_132_18 0 (le rfl) (bl rfl) (bl rfl) (by (try dsimp only) <;> omega) (by (try dsimp only) <;> omega) rfl ?_
    intro c T h g_c
    have fs_c := Nat.le_trans Kt.1 (Nat.le_of_eq g_c.symm)
    intro W K2 C2 M_c V_c X_c
    replace Kt := Kt.trans K2 all0
    refine s_cast (pc' := 24) W (w222 hw) (Ins.of_exa X_c (w223 hw)) d_jdk_65_method_132_21 rfl ?_
    intro T W
    refine s_areturn W rfl rfl rfl d_jdk_65_method_132_24 (by (try dsimp only) <;> omega) (by (try dsimp only) <;> omega) ?_
    intro vm' C'
    exact ⟨c, kb, rfl, Kt, V_c, fs_c⟩
  · refine s_aload_n (pc' := 11) W d_jdk_65_method_132_10 rfl rfl rfl ?_
    refine s_iload_n (pc' := 12) W d_jdk_65_method_132_11 rfl rfl ?_
    refine s_iload_n (pc' := 13) W d_jdk_65_method_132_12 rfl rfl ?_
    refine s_static (pc' := 16) W (w175 hw) (w176 hw) (w173 hw) (w177 hw) (by decide) pd15 [(.ref b), (.int (0 : Int32)), (.int (Int32.ofNat n))] rfl (c_copyrangebyte l hw W.old hn hr hcap A) all0 rfl d_jdk_65_method_132_13 0 (le rfl) (bl rfl) (bl rfl) (by (try dsimp only) <;> omega) (by (try dsimp only) <;> omega) rfl ?_
    rintro _ T vm h W C1 ⟨c, kc, rfl, K1, V, hc⟩
    refine s_areturn W rfl rfl rfl d_jdk_65_method_132_16 (by (try dsimp only) <;> omega) (by (try dsimp only) <;> omega) ?_
    intro vm' C'
    exact ⟨c, kc, rfl, K1, V, hc⟩
set_option maxRecDepth 65536 in
set_option maxHeartbeats 40000000 in
theorem ef_strinitASB (m : MethodId) (x0 : Addr) (x1 : Addr) : entryFrame m #[(.ref x0), (.ref x1), .null] 5 = mkF m 0 #[.val (.ref x0), .val (.ref x1), .val .null, .unset, .unset] [] := by first | (simp [entryFrame, mkF, argsToLocals, Value.category]; done) | rfl
set_option maxRecDepth 65536 in
set_option maxHeartbeats 40000000 in
theorem c_strinitASB (l : Launch) {Z : State} {a0 : Array Value} (hw : Hw Z a0) {n0 : Nat} {h : Heap} (O : Old Z n0 h) (CS0 : CS Z) {t : Nat} (E : Exa Z h t "java/lang/String") (M0 : n0 ≤ t) (Mt : t < h.size) (Fc : Fld Z h t "java/lang/String" "coder" "B" (.int 0)) (Fv : Fld Z h t "java/lang/String" "value" "[B" .null) {a b : Nat} {kb : ClassId} {cap : Nat} {cs : List Int32} (F : SBd Z h a b kb cap cs) :
    Con l Z EL1 n0 (⟨"java/lang/String", "<init>", "(Ljava/lang/AbstractStringBuilder;Ljava/lang/Void;)V"⟩ : MethodName) jdk_42_method_150_code 5 none [] ({ frames := 3, cells := 1, slots := cap, locals := 49 } : Room) #[(.ref t), (.ref a), .null] h [t] (fun v vm' h' => v = none ∧ Keep h h' [t] ∧ ∃ c kc, LatB Z h' t c kc cs ∧ h.size ≤ c) := by
  refine Con.of pn28 O (el hw) ?_
  intro pg_ e s m below meth cd_ T W hs_ hSf
  rw [ef_strinitASB]
  have M : Mine Z EL1 n0 s.vm h t := ⟨M0, Mt, hSf t (by simp)⟩
  have Kt := Keep.refl h [t]
  have hle_ := F.le
  have lb := nlt F.ltb
  have ntb : @Ne Nat t b := by obtain ⟨-, -, -, -, ⟨r, hr, A⟩, -⟩ := F; exact E.neArv A (w6 hw)
  refine s_aload_n (pc' := 1) W d_jdk_42_method_150_0 rfl rfl rfl ?_
  refine s_objinit (pc' := 4) W (w15 hw) (w16 hw) (w17 hw) rfl d_jdk_42_method_150_1 0 (le rfl) (bl rfl) (bl rfl) rfl ?_
  intro T W
  refine s_aload_n (pc' := 5) W d_jdk_42_method_150_4 rfl rfl rfl ?_
  refine s_virt (pc' := 8) W (C0 := "java/lang/StringBuilder") (w163 hw) (w164 hw) (w166 hw) (w165 hw) (w72 hw) (w167 hw) (notFace_of_selects (args := a0) (w166 hw)) (by decide) pd16 [] rfl F.1 (c_asbgetvalue l hw W.old F) all0 rfl d_jdk_42_method_150_5 0 (le rfl) (bl rfl) (bl rfl) (by (try dsimp only) <;> omega) (by (try dsimp only) <;> omega) rfl ?_
  rintro _ T vm _ W C1 ⟨rfl, rfl⟩
  replace M := M.mv C1
  refine s_astore_n (pc' := 9) W #[rv t, rv a, .val .null, rv b, .unset] d_jdk_42_method_150_8 rfl rfl rfl ?_
  refine s_aload_n (pc' := 10) W d_jdk_42_method_150_9 rfl rfl rfl ?_
  refine s_virt (pc' := 13) W (C0 := "java/lang/StringBuilder") (w168 hw) (w110 hw) (w169 hw) (w104 hw) (w50 hw) (w106 hw) (nf_of (y := (⟨"java/lang/AbstractStringBuilder", "length", "()I"⟩ : MethodName)) (y' := (⟨"java/lang/AbstractStringBuilder", "ensureCapacityInternal", "(I)V"⟩ : MethodName)) rfl (w141 hw)) (by decide) pd12 [] rfl F.1 (c_sblength l hw W.old F) all0 rfl d_jdk_42_method_150_10 0 (le rfl) (bl rfl) (bl rfl) (by (try dsimp only) <;> omega) (by (try dsimp only) <;> omega) rfl ?_
  rintro _ T vm _ W C2 ⟨rfl, rfl⟩
  replace M := M.mv C2
  refine s_istore (pc' := 15) W #[rv t, rv a, .val .null, rv b, iv (Int32.ofNat cs.length)] d_jdk_42_method_150_13 rfl rfl ?_
  refine s_aload_n (pc' := 16) W d_jdk_42_method_150_15 rfl rfl rfl ?_
  refine s_virt (pc' := 19) W (C0 := "java/lang/StringBuilder") (w170 hw) (w144 hw) (w146 hw) (w145 hw) (w72 hw) (w147 hw) (notFace_of_selects (args := a0) (w146 hw)) (by decide) pd7 [] rfl F.1 (c_asblatin1 l hw W.old CS0 F) all0 rfl d_jdk_42_method_150_16 0 (le rfl) (bl rfl) (bl rfl) (by (try dsimp only) <;> omega) (by (try dsimp only) <;> omega) rfl ?_
  rintro _ T vm _ W C3 ⟨rfl, rfl⟩
  replace M := M.mv C3
  refine s_ifeq (pc' := 22) (pcT := 41) W d_jdk_42_method_150_19 (by decide) rfl rfl (fun hq => absurd hq (by decide)) (fun _ => ?_)
  obtain ⟨f1, f2, f3, f4, ⟨r, hr, A⟩, f6⟩ := F
  have XB := f6.2.2
  refine s_aload_n (pc' := 23) W d_jdk_42_method_150_22 rfl rfl rfl ?_
  refine s_iconst (pc' := 24) W (0 : Int32) d_jdk_42_method_150_23 rfl rfl ?_
  refine s_putfn (pc' := 27) W (w30 hw) Via.refl Fc E M (Or.inr ⟨(w31 hw), rfl, rfl⟩) (w6 hw) (ty := .byte) (v' := .int 0) (by decide) rfl rfl d_jdk_42_method_150_24 rfl ?_
  intro T h W K4 C4 Wr4 Fn4
  replace Fv := Fv.other Wr4 (Or.inr (slot_ne (Or.inr (w33 hw)) (Or.inr (w31 hw)) (by decide) (by decide : parseFieldDescriptor "[B" = some (.array .byte)) (by decide : parseFieldDescriptor "B" = some .byte)))
  replace Kt := Kt.trans K4 (allS (P := fun x => _ ∨ _) (Or.inl (by simp)) all0)
  replace E := E.keep K4
  replace M := M.mv C4
  replace A := A.keep K4 (ninS (Ne.symm ntb) nin0)
  replace XB := XB.keep K4
  have Fc := Fn4
  clear Fn4
  have lt0 := nlt M.2.1
  have Kt0 := Kt.1
  refine s_aload_n (pc' := 28) W d_jdk_42_method_150_27 rfl rfl rfl ?_
  refine s_aload_n (pc' := 29) W d_jdk_42_method_150_28 rfl rfl rfl ?_
  refine s_iconst (pc' := 30) W (0 : Int32) d_jdk_42_method_150_29 rfl rfl ?_
  refine s_iload (pc' := 32) W d_jdk_42_method_150_30 rfl rfl ?_
  refine s_static (pc' := 35) W (w171 hw) (w172 hw) (w173 hw) (w174 hw) (by decide) pd15 [(.ref b), (.int (0 : Int32)), (.int (Int32.ofNat cs.length))] rfl (c_copyrange l hw W.old rfl hr f6.2.1 A XB) all0 rfl d_jdk_42_method_150_32 1 (le rfl) (bl rfl) (bl rfl) (by (try dsimp only) <;> omega) (by (try dsimp only) <;> omega) rfl ?_
  rintro _ T vm h W C5 ⟨c, kc, rfl, K5, V_c, hc⟩
  replace Kt := Kt.trans K5 all0
  replace E := E.keep K5
  replace M := M.mv C5
  replace A := A.keep K5 nin0
  replace XB := XB.keep K5
  replace Fv := Fv.keep K5 nin0
  replace Fc := Fc.keep K5 nin0
  have ntc : @Ne Nat t c := by omega
  refine s_putf (pc' := 38) W (w32 hw) Via.refl Fv E M (Or.inr ⟨(w33 hw), rfl, rfl⟩) (w6 hw) (ty := (.array .byte)) (by decide) rfl rfl d_jdk_42_method_150_35 rfl ?_
  intro T h W K6 C6 Wr6 Fn6
  replace Fc := Fc.other Wr6 (Or.inr (slot_ne (Or.inr (w31 hw)) (Or.inr (w33 hw)) (by decide) (by decide : parseFieldDescriptor "B" = some .byte) (by decide : parseFieldDescriptor "[B" = some (.array .byte))))
  replace Kt := Kt.trans K6 (allS (P := fun x => _ ∨ _) (Or.inl (by simp)) all0)
  replace E := E.keep K6
  replace M := M.mv C6
  replace A := A.keep K6 (ninS (Ne.symm ntb) nin0)
  replace XB := XB.keep K6
  replace V_c := V_c.keep K6 (ninS (Ne.symm ntc) nin0)
  have Fv := Fn6
  clear Fn6
  refine s_goto (pc' := 97) W d_jdk_42_method_150_38 (by decide) rfl ?_
  refine s_ret W rfl d_jdk_42_method_150_97 (by (try dsimp only) <;> omega) (by (try dsimp only) <;> omega) ?_
  intro vm' C'
  exact ⟨rfl, Kt, c, kc, ⟨E, Fc, Fv, V_c, f6.1, by omega⟩, Nat.le_trans Kt0 hc⟩
set_option maxRecDepth 65536 in
set_option maxHeartbeats 40000000 in
theorem ef_strinitSB (m : MethodId) (x0 : Addr) (x1 : Addr) : entryFrame m #[(.ref x0), (.ref x1)] 2 = mkF m 0 #[.val (.ref x0), .val (.ref x1)] [] := by first | (simp [entryFrame, mkF, argsToLocals, Value.category]; done) | rfl
set_option maxRecDepth 65536 in
set_option maxHeartbeats 40000000 in
theorem c_strinitSB (l : Launch) {Z : State} {a0 : Array Value} (hw : Hw Z a0) {n0 : Nat} {h : Heap} (O : Old Z n0 h) (CS0 : CS Z) {t : Nat} (E : Exa Z h t "java/lang/String") (M0 : n0 ≤ t) (Mt : t < h.size) (Fc : Fld Z h t "java/lang/String" "coder" "B" (.int 0)) (Fv : Fld Z h t "java/lang/String" "value" "[B" .null) {a b : Nat} {kb : ClassId} {cap : Nat} {cs : List Int32} (F : SBd Z h a b kb cap cs) :
    Con l Z EL1 n0 (⟨"java/lang/String", "<init>", "(Ljava/lang/StringBuilder;)V"⟩ : MethodName) jdk_42_method_53_code 2 none [] ({ frames := 4, cells := 1, slots := cap, locals := 65 } : Room) #[(.ref t), (.ref a)] h [t] (fun v vm' h' => v = none ∧ Keep h h' [t] ∧ ∃ c kc, LatB Z h' t c kc cs ∧ h.size ≤ c) := by
  refine Con.of pn29 O (el hw) ?_
  intro pg_ e s m below meth cd_ T W hs_ hSf
  rw [ef_strinitSB]
  have St := hSf t (by simp)
  refine s_aload_n (pc' := 1) W d_jdk_42_method_53_0 rfl rfl rfl ?_
  refine s_aload_n (pc' := 2) W d_jdk_42_method_53_1 rfl rfl rfl ?_
  refine s_aconst_null (pc' := 3) W d_jdk_42_method_53_2 rfl ?_
  refine s_init (pc' := 6) W rfl (w160 hw) (w161 hw) (w7 hw) (w162 hw) (by decide) pd17 [(.ref a), .null] rfl (c_strinitASB l hw W.old CS0 E M0 Mt Fc Fv F) (allS ⟨Mt, St⟩ all0) rfl d_jdk_42_method_53_3 0 (le rfl) (bl rfl) (bl rfl) (by (try dsimp only) <;> omega) (by (try dsimp only) <;> omega) rfl ?_
  rintro _ T vm h W C1 ⟨rfl, K1, L⟩
  refine s_ret W rfl d_jdk_42_method_53_6 (by (try dsimp only) <;> omega) (by (try dsimp only) <;> omega) ?_
  intro vm' C'
  exact ⟨rfl, K1, L⟩
set_option maxRecDepth 65536 in
set_option maxHeartbeats 40000000 in
theorem ef_sbtostring (m : MethodId) (x0 : Addr) : entryFrame m #[(.ref x0)] 1 = mkF m 0 #[.val (.ref x0)] [] := by first | (simp [entryFrame, mkF, argsToLocals, Value.category]; done) | rfl
set_option maxRecDepth 65536 in
set_option maxHeartbeats 40000000 in
theorem c_sbtostring (l : Launch) {Z : State} {a0 : Array Value} (hw : Hw Z a0) {n0 : Nat} {h : Heap} (O : Old Z n0 h) (CS0 : CS Z) {a b : Nat} {kb : ClassId} {cap : Nat} {cs : List Int32} (F : SBd Z h a b kb cap cs) :
    Con l Z EL1 n0 (⟨"java/lang/StringBuilder", "toString", "()Ljava/lang/String;"⟩ : MethodName) jdk_67_method_42_code 1 (some (.object "java/lang/String")) [] ({ frames := 5, cells := 2, slots := cap + 4, locals := 79 } : Room) #[(.ref a)] h [] (fun v vm' h' => ∃ t c kc, v = some (.ref t) ∧ Keep h h' [] ∧ LatB Z h' t c kc cs ∧ h.size ≤ t ∧ h.size ≤ c) := by
  refine Con.of pn30 O (el hw) ?_
  intro pg_ e s m below meth cd_ T W hs_ hSf
  rw [ef_sbtostring]
  have Kt := Keep.refl h []
  have lb := nlt F.ltb
  have la := nlt F.lt
  refine s_new (pc' := 3) W (w156 hw) (w6 hw) (w7 hw) d_jdk_67_method_42_0 (by (try dsimp only) <;> omega) (by (try dsimp only) <;> omega) rfl ?_
  intro t T h g_t
  have fs_t := Nat.le_trans Kt.1 (Nat.le_of_eq g_t.symm)
  intro W K1 C1 M_t E_t D_t U_t
  replace Kt := Kt.trans K1 all0
  have F_coder_t : Fld Z _ t "java/lang/String" "coder" "B" (.int 0) := D_t (Or.inr (w31 hw)) (ty := .byte) (by decide)
  have F_value_t : Fld Z _ t "java/lang/String" "value" "[B" .null := D_t (Or.inr (w33 hw)) (ty := (.array .byte)) (by decide)
  replace F := F.keep K1 nin0 nin0
  have Kt0 := Kt.1
  refine s_dup (pc' := 4) W d_jdk_67_method_42_3 rfl rfl ?_
  refine s_aload_n (pc' := 5) W d_jdk_67_method_42_4 rfl rfl rfl ?_
  refine s_init (pc' := 8) W rfl (w157 hw) (w158 hw) (w7 hw) (w159 hw) (by decide) pd18 [(.ref a)] rfl (c_strinitSB l hw W.old CS0 E_t M_t.1 M_t.2.1 F_coder_t F_value_t F) (allS ⟨M_t.2.1, M_t.2.2⟩ all0) rfl d_jdk_67_method_42_5 1 (le rfl) (bl rfl) (bl rfl) (by (try dsimp only) <;> omega) (by (try dsimp only) <;> omega) rfl ?_
  rintro _ T vm h W C2 ⟨rfl, K2, c, kc, L, hcc⟩
  replace Kt := Kt.trans K2 (allS (P := fun x => _ ∨ _) (Or.inr fs_t) all0)
  replace E_t := E_t.keep K2
  replace M_t := M_t.mv C2
  refine s_areturn W rfl rfl rfl d_jdk_67_method_42_8 (by (try dsimp only) <;> omega) (by (try dsimp only) <;> omega) ?_
  intro vm' C'
  exact ⟨t, c, kc, rfl, Kt, L, fs_t, Nat.le_trans Kt0 hcc⟩
set_option maxRecDepth 65536 in
set_option maxHeartbeats 40000000 in
theorem lp_norm {p : Program} {l : Launch} {e : Env} {R : Room} {s : State} {m : MethodId} {args : Array Value} {below : List Frame} {meth : Method} {c : Code} {Z : State} {a0 : Array Value} (hw : Hw Z a0) {n0 : Nat} {cells slots cap : Nat} (hc : cells + 2 ≤ R.cells) (hl : slots + (cap + 4) ≤ R.slots) (hfr : 6 ≤ R.frames) (hlo : 91 ≤ R.locals) (CS0 : CS Z) (FM : Fmt Z) {ra rb a b : Addr} {kr kb : ClassId} {cs : List Int32} (hcap : cap ≤ 51) (hlen : cs.length ≤ cap) (n1 : ra ≠ a) (n2 : rb ≠ a) (n3 : ra ≠ b) (n4 : rb ≠ b) (nab : a ≠ b) {hh : Heap} : ∀ (r i : Nat), i + r = cs.length → ∀ (T : State) (vm : Vm) (h : Heap) (o5 o6 : Slot) (out : List Int32) (pd : Bool) (pv : Int32), pv = (if pd = true then 1 else 0) → One o5 → One o6 → Wk p l e R s m args below meth c Z a0 EL1 n0 "com/example/udfyld/udfyld/Normaliser" "normalise" prog_12_method_4_code 7 (some (.object "java/lang/String")) T vm h cells slots → LatB Z h ra rb kr cs → SBd Z h a b kb cap out → Mine Z EL1 n0 vm h a → Mine Z EL1 n0 vm h b → out.length + (if pd = true then 1 else 0) ≤ i → Keep hh h [a, b] → Go p e below s R Z EL1 n0 (fun v vm' h' => (nrm (cs.drop i) out pd = none ∧ v = some .null ∧ Keep hh h' [a, b]) ∨ (∃ o t c kc, nrm (cs.drop i) out pd = some o ∧ v = some (.ref t) ∧ Keep hh h' [a, b] ∧ LatB Z h' t c kc o ∧ Exa Z h' t "java/lang/String")) (T.setTop (mkF m 22 #[rv ra, iv (0 : Int32), rv a, iv pv, iv (Int32.ofNat i), o5, o6] [])) := by
  intro r
  induction r with
  | zero =>
    intro i hi T vm h o5 o6 out pd pv hpv ho5 ho6 W G S M MB hpd K
    have hil : i = cs.length := by omega
    have hdr : cs.drop i = [] := List.drop_eq_nil_of_le (by omega)
    rw [hdr]
    refine s_iload (pc' := 24) W d_prog_12_method_4_22 rfl rfl ?_
    refine s_aload_n (pc' := 25) W d_prog_12_method_4_24 rfl rfl rfl ?_
    refine s_virt (pc' := 28) W (C0 := "java/lang/String") (w51 hw) (w52 hw) (w54 hw) (w53 hw) (w7 hw) (w55 hw) (notFace_of_selects (args := a0) (w54 hw)) (by decide) pd12 [] rfl G.1 (c_strlength _ hw W.old CS0 G) all0 rfl d_prog_12_method_4_25 1 (le rfl) (Nat.le_trans (bl rfl) hfr) (Nat.le_trans (bl rfl) hlo) (by (try dsimp only) <;> omega) (by (try dsimp only) <;> omega) rfl ?_
    rintro _ T vm _ W C1 ⟨rfl, rfl⟩
    replace M := M.mv C1
    replace MB := MB.mv C1
    refine s_icmpge (pc' := 31) (pcT := 143) W d_prog_12_method_4_28 (by decide) rfl rfl (fun _ => ?_) (fun hq => absurd hq (n_ge (by omega) (by omega)))
    refine s_iload_n (pc' := 144) W d_prog_12_method_4_143 rfl rfl ?_
    refine s_ifeq (pc' := 147) (pcT := 162) W d_prog_12_method_4_144 (by decide) rfl rfl (fun _ => ?_) (fun hq => absurd (by decide) hq)
    refine s_aload_n (pc' := 163) W d_prog_12_method_4_162 rfl rfl rfl ?_
    refine s_virt (pc' := 166) W (C0 := "java/lang/StringBuilder") (w151 hw) (w152 hw) (w154 hw) (w153 hw) (w50 hw) (w155 hw) (notFace_of_selects (args := a0) (w154 hw)) (by decide) pd19 [] rfl S.1 (c_sbtostring _ hw W.old CS0 S) all0 rfl d_prog_12_method_4_163 0 (le rfl) (Nat.le_trans (bl rfl) hfr) (Nat.le_trans (bl rfl) hlo) (by (try dsimp only) <;> omega) (by (try dsimp only) <;> omega) rfl ?_
    rintro _ T vm h W C2 ⟨t, tc, kc, rfl, K2, Lt, ht⟩
    replace G := G.keep K2 nin0 nin0
    replace S := S.keep K2 nin0 nin0
    replace M := M.mv C2
    replace MB := MB.mv C2
    refine s_areturn W rfl rfl rfl d_prog_12_method_4_166 (by (try dsimp only) <;> omega) (by (try dsimp only) <;> omega) ?_
    intro vm' C'
    exact Or.inr ⟨out, t, tc, kc, rfl, rfl, K.trans K2 all0, Lt, Lt.1⟩
  | succ r ih =>
    intro i hi T vm h o5 o6 out pd pv hpv ho5 ho6 W G S M MB hpd K
    have hole := S.le
    have hin : i < cs.length := by omega
    have hdr := drop_cons hin
    have hcL := G.2.2.2.2.1 _ (mem_getD hin)
    have hsp := let_spec hcL
    refine s_iload (pc' := 24) W d_prog_12_method_4_22 rfl rfl ?_
    refine s_aload_n (pc' := 25) W d_prog_12_method_4_24 rfl rfl rfl ?_
    refine s_virt (pc' := 28) W (C0 := "java/lang/String") (w51 hw) (w52 hw) (w54 hw) (w53 hw) (w7 hw) (w55 hw) (notFace_of_selects (args := a0) (w54 hw)) (by decide) pd12 [] rfl G.1 (c_strlength _ hw W.old CS0 G) all0 rfl d_prog_12_method_4_25 1 (le rfl) (Nat.le_trans (bl rfl) hfr) (Nat.le_trans (bl rfl) hlo) (by (try dsimp only) <;> omega) (by (try dsimp only) <;> omega) rfl ?_
    rintro _ T vm _ W C1 ⟨rfl, rfl⟩
    replace M := M.mv C1
    replace MB := MB.mv C1
    refine s_icmpge (pc' := 31) (pcT := 143) W d_prog_12_method_4_28 (by decide) rfl rfl (fun hq => absurd (n_lt hin (by omega)) hq) (fun _ => ?_)
    refine s_aload_n (pc' := 32) W d_prog_12_method_4_31 rfl rfl rfl ?_
    refine s_iload (pc' := 34) W d_prog_12_method_4_32 rfl rfl ?_
    refine s_virt (pc' := 37) W (C0 := "java/lang/String") (w80 hw) (w81 hw) (w83 hw) (w82 hw) (w7 hw) (w84 hw) (notFace_of_selects (args := a0) (w83 hw)) (by decide) pd20 [(.int (Int32.ofNat i))] rfl G.1 (c_charatL _ hw W.old CS0 FM G hin) all0 rfl d_prog_12_method_4_34 0 (le rfl) (Nat.le_trans (bl rfl) hfr) (Nat.le_trans (bl rfl) hlo) (by (try dsimp only) <;> omega) (by (try dsimp only) <;> omega) rfl ?_
    rintro _ T vm _ W C2 ⟨rfl, rfl⟩
    replace M := M.mv C2
    replace MB := MB.mv C2
    rw [hdr]
    generalize cs.getD i 0 = c at hcL hsp ⊢
    refine s_istore (pc' := 39) W #[rv ra, iv (0 : Int32), rv a, iv pv, iv (Int32.ofNat i), iv c, o6] d_prog_12_method_4_37 (Jvm.Free.XS.store1 (i := 5) rfl ho5 rfl) rfl ?_
    refine s_iload (pc' := 41) W d_prog_12_method_4_39 rfl rfl ?_
    refine s_bipush (pc' := 43) W (32 : Int32) d_prog_12_method_4_41 rfl rfl ?_
    refine s_icmpne (pc' := 46) (pcT := 62) W d_prog_12_method_4_43 (by decide) rfl rfl (fun h32 => ?_) (fun h32 => ?_)
    · refine s_iload (pc' := 64) W d_prog_12_method_4_62 rfl rfl ?_
      refine s_bipush (pc' := 66) W (97 : Int32) d_prog_12_method_4_64 rfl rfl ?_
      refine s_icmplt (pc' := 69) (pcT := 83) W d_prog_12_method_4_66 (by decide) rfl rfl (fun h97 => ?_) (fun h97 => ?_)
      · refine s_iload (pc' := 85) W d_prog_12_method_4_83 rfl rfl ?_
        refine s_bipush (pc' := 87) W (65 : Int32) d_prog_12_method_4_85 rfl rfl ?_
        refine s_icmplt (pc' := 90) (pcT := 111) W d_prog_12_method_4_87 (by decide) rfl rfl (fun h65 => ?_) (fun h65 => ?_)
        · have hnl : ¬ letter c = true := fun q => (hsp.1.mp q).elim (fun z => by first | exact z.1 (by assumption) | exact z.2 (by assumption)) (fun z => by first | exact z.1 (by assumption) | exact z.2 (by assumption))
          refine s_aconst_null (pc' := 112) W d_prog_12_method_4_111 rfl ?_
          refine s_areturn W rfl rfl rfl d_prog_12_method_4_112 (by (try dsimp only) <;> omega) (by (try dsimp only) <;> omega) ?_
          intro vm' C'
          exact Or.inl ⟨by rw [nrm, if_neg h32, if_neg hnl], rfl, K⟩
        · refine s_iload (pc' := 92) W d_prog_12_method_4_90 rfl rfl ?_
          refine s_bipush (pc' := 94) W (90 : Int32) d_prog_12_method_4_92 rfl rfl ?_
          refine s_icmpgt (pc' := 97) (pcT := 111) W d_prog_12_method_4_94 (by decide) rfl rfl (fun h90 => ?_) (fun h90 => ?_)
          · have hnl : ¬ letter c = true := fun q => (hsp.1.mp q).elim (fun z => by first | exact z.1 (by assumption) | exact z.2 (by assumption)) (fun z => by first | exact z.1 (by assumption) | exact z.2 (by assumption))
            refine s_aconst_null (pc' := 112) W d_prog_12_method_4_111 rfl ?_
            refine s_areturn W rfl rfl rfl d_prog_12_method_4_112 (by (try dsimp only) <;> omega) (by (try dsimp only) <;> omega) ?_
            intro vm' C'
            exact Or.inl ⟨by rw [nrm, if_neg h32, if_neg hnl], rfl, K⟩
          · refine s_iload (pc' := 99) W d_prog_12_method_4_97 rfl rfl ?_
            refine s_bipush (pc' := 101) W (65 : Int32) d_prog_12_method_4_99 rfl rfl ?_
            refine s_isub (pc' := 102) W d_prog_12_method_4_101 rfl ?_
            refine s_bipush (pc' := 104) W (97 : Int32) d_prog_12_method_4_102 rfl rfl ?_
            refine s_iadd (pc' := 105) W d_prog_12_method_4_104 rfl ?_
            refine s_i2c (pc' := 106) W d_prog_12_method_4_105 rfl ?_
            rw [← hsp.2.2.1 ⟨h65, h90⟩]
            refine s_istore (pc' := 108) W #[rv ra, iv (0 : Int32), rv a, iv pv, iv (Int32.ofNat i), iv c, iv (low c)] d_prog_12_method_4_106 (Jvm.Free.XS.store1 (i := 6) rfl ho6 rfl) rfl ?_
            refine s_goto (pc' := 113) W d_prog_12_method_4_108 (by decide) rfl ?_
            have hlet : letter c = true := hsp.1.mpr (Or.inr ⟨h65, h90⟩)
            have hlw := hsp.2.2.2
            refine s_iload_n (pc' := 114) W d_prog_12_method_4_113 rfl rfl ?_
            cases pd
            · obtain rfl : pv = 0 := hpv
              refine s_ifeq (pc' := 117) (pcT := 126) W d_prog_12_method_4_114 (by decide) rfl rfl (fun _ => ?_) (fun hq => absurd (by decide) hq)
              have hm : out.length ≤ i := hpd
              refine s_aload_n (pc' := 127) W d_prog_12_method_4_126 rfl rfl rfl ?_
              refine s_iload (pc' := 129) W d_prog_12_method_4_127 rfl rfl ?_
              refine s_static (pc' := 132) W (w126 hw) (w127 hw) (w43 hw) (w128 hw) (by decide) pd21 [(.ref a), (.int (low c))] rfl (c_nappend _ hw W.old CS0 S hlw (fun _ => by omega) nab M.1 MB.1) (allS ⟨M.2.1, M.2.2⟩ (allS ⟨MB.2.1, MB.2.2⟩ all0)) rfl d_prog_12_method_4_129 0 (le rfl) (Nat.le_trans (bl rfl) hfr) (Nat.le_trans (bl rfl) hlo) (by (try dsimp only) <;> omega) (by (try dsimp only) <;> omega) rfl ?_
              rintro _ T vm h W C4 ⟨rr, rfl, K4, hrr⟩
              replace G := G.keep K4 (ninS n1 (ninS n3 nin0)) (ninS n2 (ninS n4 nin0))
              replace M := M.mv C4
              replace MB := MB.mv C4
              replace K := K.trans K4 (fun x hx => Or.inl hx)
              rcases hrr with ⟨h50, rfl, Sn⟩ | ⟨h50, rfl, Sn⟩
              · refine s_ifne (pc' := 135) (pcT := 137) W d_prog_12_method_4_132 (by decide) rfl rfl (fun _ => ?_) (fun hq => absurd hq (by decide))
                refine s_iinc (pc' := 140) W (1 : Int32) #[rv ra, iv (0 : Int32), rv a, iv (0 : Int32), iv ((Int32.ofNat i) + (1 : Int32)), iv c, iv (low c)] d_prog_12_method_4_137 rfl rfl rfl rfl ?_
                refine s_goto (pc' := 22) W d_prog_12_method_4_140 (by decide) rfl ?_
                have he : nrm (c :: cs.drop (i + 1)) out false = nrm (cs.drop (i + 1)) (out ++ [low c]) false := by rw [nrm, if_neg h32, if_pos hlet, if_neg (by decide : ¬ false = true), if_pos h50]
                rw [he]
                simp only [n_succ]
                exact ih (i + 1) (by omega) T _ h _ _ (out ++ [low c]) false 0 rfl (One.val rfl) (One.val rfl) (W.more (cells' := cells) (slots' := slots) (by (try dsimp only) <;> omega) (by (try dsimp only) <;> omega)) G Sn M MB (by simp only [List.length_append, List.length_cons, List.length_nil, Bool.false_eq_true, if_false]; omega) K
              · refine s_ifne (pc' := 135) (pcT := 137) W d_prog_12_method_4_132 (by decide) rfl rfl (fun hq => absurd (by decide) hq) (fun _ => ?_)
                refine s_aconst_null (pc' := 136) W d_prog_12_method_4_135 rfl ?_
                refine s_areturn W rfl rfl rfl d_prog_12_method_4_136 (by (try dsimp only) <;> omega) (by (try dsimp only) <;> omega) ?_
                intro vm' C'
                exact Or.inl ⟨by rw [nrm, if_neg h32, if_pos hlet, if_neg (by decide : ¬ false = true), if_neg h50], rfl, K⟩
            · obtain rfl : pv = 1 := hpv
              refine s_ifeq (pc' := 117) (pcT := 126) W d_prog_12_method_4_114 (by decide) rfl rfl (fun hq => absurd hq (by decide)) (fun _ => ?_)
              have hm : out.length + 1 ≤ i := hpd
              refine s_aload_n (pc' := 118) W d_prog_12_method_4_117 rfl rfl rfl ?_
              refine s_bipush (pc' := 120) W (32 : Int32) d_prog_12_method_4_118 rfl rfl ?_
              refine s_virt (pc' := 123) W (C0 := "java/lang/StringBuilder") (w129 hw) (w130 hw) (w132 hw) (w131 hw) (w50 hw) (w133 hw) (notFace_of_selects (args := a0) (w132 hw)) (by decide) pd13 [(.int (32 : Int32))] rfl S.1 (c_sbappendC _ hw W.old CS0 S (x := 32) ⟨by decide, by decide⟩ (by omega) nab M.1 MB.1) (allS ⟨M.2.1, M.2.2⟩ (allS ⟨MB.2.1, MB.2.2⟩ all0)) rfl d_prog_12_method_4_120 0 (le rfl) (Nat.le_trans (bl rfl) hfr) (Nat.le_trans (bl rfl) hlo) (by (try dsimp only) <;> omega) (by (try dsimp only) <;> omega) rfl ?_
              rintro _ T vm h W C5 ⟨rfl, K5, Sn⟩
              replace G := G.keep K5 (ninS n1 (ninS n3 nin0)) (ninS n2 (ninS n4 nin0))
              replace M := M.mv C5
              replace MB := MB.mv C5
              replace K := K.trans K5 (fun x hx => Or.inl hx)
              have S := Sn
              clear Sn
              refine s_pop (pc' := 124) W d_prog_12_method_4_123 rfl rfl ?_
              refine s_iconst (pc' := 125) W (0 : Int32) d_prog_12_method_4_124 rfl rfl ?_
              refine s_istore_n (pc' := 126) W #[rv ra, iv (0 : Int32), rv a, iv (0 : Int32), iv (Int32.ofNat i), iv c, iv (low c)] d_prog_12_method_4_125 rfl rfl ?_
              refine s_aload_n (pc' := 127) W d_prog_12_method_4_126 rfl rfl rfl ?_
              refine s_iload (pc' := 129) W d_prog_12_method_4_127 rfl rfl ?_
              refine s_static (pc' := 132) W (w126 hw) (w127 hw) (w43 hw) (w128 hw) (by decide) pd21 [(.ref a), (.int (low c))] rfl (c_nappend _ hw W.old CS0 S hlw (fun _ => by simp only [List.length_append, List.length_cons, List.length_nil]; omega) nab M.1 MB.1) (allS ⟨M.2.1, M.2.2⟩ (allS ⟨MB.2.1, MB.2.2⟩ all0)) rfl d_prog_12_method_4_129 0 (le rfl) (Nat.le_trans (bl rfl) hfr) (Nat.le_trans (bl rfl) hlo) (by (try dsimp only) <;> omega) (by (try dsimp only) <;> omega) rfl ?_
              rintro _ T vm h W C6 ⟨rr, rfl, K6, hrr⟩
              replace G := G.keep K6 (ninS n1 (ninS n3 nin0)) (ninS n2 (ninS n4 nin0))
              replace M := M.mv C6
              replace MB := MB.mv C6
              replace K := K.trans K6 (fun x hx => Or.inl hx)
              rcases hrr with ⟨h50, rfl, Sn⟩ | ⟨h50, rfl, Sn⟩
              · refine s_ifne (pc' := 135) (pcT := 137) W d_prog_12_method_4_132 (by decide) rfl rfl (fun _ => ?_) (fun hq => absurd hq (by decide))
                refine s_iinc (pc' := 140) W (1 : Int32) #[rv ra, iv (0 : Int32), rv a, iv (0 : Int32), iv ((Int32.ofNat i) + (1 : Int32)), iv c, iv (low c)] d_prog_12_method_4_137 rfl rfl rfl rfl ?_
                refine s_goto (pc' := 22) W d_prog_12_method_4_140 (by decide) rfl ?_
                have he : nrm (c :: cs.drop (i + 1)) out true = nrm (cs.drop (i + 1)) ((out ++ [32]) ++ [low c]) false := by rw [nrm, if_neg h32, if_pos hlet, if_pos rfl, if_pos h50]
                rw [he]
                simp only [n_succ]
                exact ih (i + 1) (by omega) T _ h _ _ ((out ++ [32]) ++ [low c]) false 0 rfl (One.val rfl) (One.val rfl) (W.more (cells' := cells) (slots' := slots) (by (try dsimp only) <;> omega) (by (try dsimp only) <;> omega)) G Sn M MB (by simp only [List.length_append, List.length_cons, List.length_nil, Bool.false_eq_true, if_false]; omega) K
              · refine s_ifne (pc' := 135) (pcT := 137) W d_prog_12_method_4_132 (by decide) rfl rfl (fun hq => absurd (by decide) hq) (fun _ => ?_)
                refine s_aconst_null (pc' := 136) W d_prog_12_method_4_135 rfl ?_
                refine s_areturn W rfl rfl rfl d_prog_12_method_4_136 (by (try dsimp only) <;> omega) (by (try dsimp only) <;> omega) ?_
                intro vm' C'
                exact Or.inl ⟨by rw [nrm, if_neg h32, if_pos hlet, if_pos rfl, if_neg h50], rfl, K⟩
      · refine s_iload (pc' := 71) W d_prog_12_method_4_69 rfl rfl ?_
        refine s_bipush (pc' := 73) W (122 : Int32) d_prog_12_method_4_71 rfl rfl ?_
        refine s_icmpgt (pc' := 76) (pcT := 83) W d_prog_12_method_4_73 (by decide) rfl rfl (fun h122 => ?_) (fun h122 => ?_)
        · refine s_iload (pc' := 85) W d_prog_12_method_4_83 rfl rfl ?_
          refine s_bipush (pc' := 87) W (65 : Int32) d_prog_12_method_4_85 rfl rfl ?_
          refine s_icmplt (pc' := 90) (pcT := 111) W d_prog_12_method_4_87 (by decide) rfl rfl (fun h65 => ?_) (fun h65 => ?_)
          · have hnl : ¬ letter c = true := fun q => (hsp.1.mp q).elim (fun z => by first | exact z.1 (by assumption) | exact z.2 (by assumption)) (fun z => by first | exact z.1 (by assumption) | exact z.2 (by assumption))
            refine s_aconst_null (pc' := 112) W d_prog_12_method_4_111 rfl ?_
            refine s_areturn W rfl rfl rfl d_prog_12_method_4_112 (by (try dsimp only) <;> omega) (by (try dsimp only) <;> omega) ?_
            intro vm' C'
            exact Or.inl ⟨by rw [nrm, if_neg h32, if_neg hnl], rfl, K⟩
          · refine s_iload (pc' := 92) W d_prog_12_method_4_90 rfl rfl ?_
            refine s_bipush (pc' := 94) W (90 : Int32) d_prog_12_method_4_92 rfl rfl ?_
            refine s_icmpgt (pc' := 97) (pcT := 111) W d_prog_12_method_4_94 (by decide) rfl rfl (fun h90 => ?_) (fun h90 => ?_)
            · have hnl : ¬ letter c = true := fun q => (hsp.1.mp q).elim (fun z => by first | exact z.1 (by assumption) | exact z.2 (by assumption)) (fun z => by first | exact z.1 (by assumption) | exact z.2 (by assumption))
              refine s_aconst_null (pc' := 112) W d_prog_12_method_4_111 rfl ?_
              refine s_areturn W rfl rfl rfl d_prog_12_method_4_112 (by (try dsimp only) <;> omega) (by (try dsimp only) <;> omega) ?_
              intro vm' C'
              exact Or.inl ⟨by rw [nrm, if_neg h32, if_neg hnl], rfl, K⟩
            · exact absurd ((lt_iff _ _).mpr (by have := (lt_iff _ _).mp h122; have e1 : (122 : Int32).toInt = 122 := rfl; have e2 : (90 : Int32).toInt = 90 := rfl; omega)) h90
        · refine s_iload (pc' := 78) W d_prog_12_method_4_76 rfl rfl ?_
          refine s_istore (pc' := 80) W #[rv ra, iv (0 : Int32), rv a, iv pv, iv (Int32.ofNat i), iv c, iv c] d_prog_12_method_4_78 (Jvm.Free.XS.store1 (i := 6) rfl ho6 rfl) rfl ?_
          refine s_goto (pc' := 113) W d_prog_12_method_4_80 (by decide) rfl ?_
          have hlet : letter c = true := hsp.1.mpr (Or.inl ⟨h97, h122⟩)
          have hlc := hsp.2.1 ⟨h97, h122⟩
          have hl6 : (#[rv ra, iv 0, rv a, iv pv, iv (Int32.ofNat i), iv c, iv c] : Array Slot) = #[rv ra, iv 0, rv a, iv pv, iv (Int32.ofNat i), iv c, iv (low c)] := by rw [hlc]
          rw [hl6]
          have hlw := hsp.2.2.2
          refine s_iload_n (pc' := 114) W d_prog_12_method_4_113 rfl rfl ?_
          cases pd
          · obtain rfl : pv = 0 := hpv
            refine s_ifeq (pc' := 117) (pcT := 126) W d_prog_12_method_4_114 (by decide) rfl rfl (fun _ => ?_) (fun hq => absurd (by decide) hq)
            have hm : out.length ≤ i := hpd
            refine s_aload_n (pc' := 127) W d_prog_12_method_4_126 rfl rfl rfl ?_
            refine s_iload (pc' := 129) W d_prog_12_method_4_127 rfl rfl ?_
            refine s_static (pc' := 132) W (w126 hw) (w127 hw) (w43 hw) (w128 hw) (by decide) pd21 [(.ref a), (.int (low c))] rfl (c_nappend _ hw W.old CS0 S hlw (fun _ => by omega) nab M.1 MB.1) (allS ⟨M.2.1, M.2.2⟩ (allS ⟨MB.2.1, MB.2.2⟩ all0)) rfl d_prog_12_method_4_129 0 (le rfl) (Nat.le_trans (bl rfl) hfr) (Nat.le_trans (bl rfl) hlo) (by (try dsimp only) <;> omega) (by (try dsimp only) <;> omega) rfl ?_
            rintro _ T vm h W C7 ⟨rr, rfl, K7, hrr⟩
            replace G := G.keep K7 (ninS n1 (ninS n3 nin0)) (ninS n2 (ninS n4 nin0))
            replace M := M.mv C7
            replace MB := MB.mv C7
            replace K := K.trans K7 (fun x hx => Or.inl hx)
            rcases hrr with ⟨h50, rfl, Sn⟩ | ⟨h50, rfl, Sn⟩
            · refine s_ifne (pc' := 135) (pcT := 137) W d_prog_12_method_4_132 (by decide) rfl rfl (fun _ => ?_) (fun hq => absurd hq (by decide))
              refine s_iinc (pc' := 140) W (1 : Int32) #[rv ra, iv (0 : Int32), rv a, iv (0 : Int32), iv ((Int32.ofNat i) + (1 : Int32)), iv c, iv (low c)] d_prog_12_method_4_137 rfl rfl rfl rfl ?_
              refine s_goto (pc' := 22) W d_prog_12_method_4_140 (by decide) rfl ?_
              have he : nrm (c :: cs.drop (i + 1)) out false = nrm (cs.drop (i + 1)) (out ++ [low c]) false := by rw [nrm, if_neg h32, if_pos hlet, if_neg (by decide : ¬ false = true), if_pos h50]
              rw [he]
              simp only [n_succ]
              exact ih (i + 1) (by omega) T _ h _ _ (out ++ [low c]) false 0 rfl (One.val rfl) (One.val rfl) (W.more (cells' := cells) (slots' := slots) (by (try dsimp only) <;> omega) (by (try dsimp only) <;> omega)) G Sn M MB (by simp only [List.length_append, List.length_cons, List.length_nil, Bool.false_eq_true, if_false]; omega) K
            · refine s_ifne (pc' := 135) (pcT := 137) W d_prog_12_method_4_132 (by decide) rfl rfl (fun hq => absurd (by decide) hq) (fun _ => ?_)
              refine s_aconst_null (pc' := 136) W d_prog_12_method_4_135 rfl ?_
              refine s_areturn W rfl rfl rfl d_prog_12_method_4_136 (by (try dsimp only) <;> omega) (by (try dsimp only) <;> omega) ?_
              intro vm' C'
              exact Or.inl ⟨by rw [nrm, if_neg h32, if_pos hlet, if_neg (by decide : ¬ false = true), if_neg h50], rfl, K⟩
          · obtain rfl : pv = 1 := hpv
            refine s_ifeq (pc' := 117) (pcT := 126) W d_prog_12_method_4_114 (by decide) rfl rfl (fun hq => absurd hq (by decide)) (fun _ => ?_)
            have hm : out.length + 1 ≤ i := hpd
            refine s_aload_n (pc' := 118) W d_prog_12_method_4_117 rfl rfl rfl ?_
            refine s_bipush (pc' := 120) W (32 : Int32) d_prog_12_method_4_118 rfl rfl ?_
            refine s_virt (pc' := 123) W (C0 := "java/lang/StringBuilder") (w129 hw) (w130 hw) (w132 hw) (w131 hw) (w50 hw) (w133 hw) (notFace_of_selects (args := a0) (w132 hw)) (by decide) pd13 [(.int (32 : Int32))] rfl S.1 (c_sbappendC _ hw W.old CS0 S (x := 32) ⟨by decide, by decide⟩ (by omega) nab M.1 MB.1) (allS ⟨M.2.1, M.2.2⟩ (allS ⟨MB.2.1, MB.2.2⟩ all0)) rfl d_prog_12_method_4_120 0 (le rfl) (Nat.le_trans (bl rfl) hfr) (Nat.le_trans (bl rfl) hlo) (by (try dsimp only) <;> omega) (by (try dsimp only) <;> omega) rfl ?_
            rintro _ T vm h W C8 ⟨rfl, K8, Sn⟩
            replace G := G.keep K8 (ninS n1 (ninS n3 nin0)) (ninS n2 (ninS n4 nin0))
            replace M := M.mv C8
            replace MB := MB.mv C8
            replace K := K.trans K8 (fun x hx => Or.inl hx)
            have S := Sn
            clear Sn
            refine s_pop (pc' := 124) W d_prog_12_method_4_123 rfl rfl ?_
            refine s_iconst (pc' := 125) W (0 : Int32) d_prog_12_method_4_124 rfl rfl ?_
            refine s_istore_n (pc' := 126) W #[rv ra, iv (0 : Int32), rv a, iv (0 : Int32), iv (Int32.ofNat i), iv c, iv (low c)] d_prog_12_method_4_125 rfl rfl ?_
            refine s_aload_n (pc' := 127) W d_prog_12_method_4_126 rfl rfl rfl ?_
            refine s_iload (pc' := 129) W d_prog_12_method_4_127 rfl rfl ?_
            refine s_static (pc' := 132) W (w126 hw) (w127 hw) (w43 hw) (w128 hw) (by decide) pd21 [(.ref a), (.int (low c))] rfl (c_nappend _ hw W.old CS0 S hlw (fun _ => by simp only [List.length_append, List.length_cons, List.length_nil]; omega) nab M.1 MB.1) (allS ⟨M.2.1, M.2.2⟩ (allS ⟨MB.2.1, MB.2.2⟩ all0)) rfl d_prog_12_method_4_129 0 (le rfl) (Nat.le_trans (bl rfl) hfr) (Nat.le_trans (bl rfl) hlo) (by (try dsimp only) <;> omega) (by (try dsimp only) <;> omega) rfl ?_
            rintro _ T vm h W C9 ⟨rr, rfl, K9, hrr⟩
            replace G := G.keep K9 (ninS n1 (ninS n3 nin0)) (ninS n2 (ninS n4 nin0))
            replace M := M.mv C9
            replace MB := MB.mv C9
            replace K := K.trans K9 (fun x hx => Or.inl hx)
            rcases hrr with ⟨h50, rfl, Sn⟩ | ⟨h50, rfl, Sn⟩
            · refine s_ifne (pc' := 135) (pcT := 137) W d_prog_12_method_4_132 (by decide) rfl rfl (fun _ => ?_) (fun hq => absurd hq (by decide))
              refine s_iinc (pc' := 140) W (1 : Int32) #[rv ra, iv (0 : Int32), rv a, iv (0 : Int32), iv ((Int32.ofNat i) + (1 : Int32)), iv c, iv (low c)] d_prog_12_method_4_137 rfl rfl rfl rfl ?_
              refine s_goto (pc' := 22) W d_prog_12_method_4_140 (by decide) rfl ?_
              have he : nrm (c :: cs.drop (i + 1)) out true = nrm (cs.drop (i + 1)) ((out ++ [32]) ++ [low c]) false := by rw [nrm, if_neg h32, if_pos hlet, if_pos rfl, if_pos h50]
              rw [he]
              simp only [n_succ]
              exact ih (i + 1) (by omega) T _ h _ _ ((out ++ [32]) ++ [low c]) false 0 rfl (One.val rfl) (One.val rfl) (W.more (cells' := cells) (slots' := slots) (by (try dsimp only) <;> omega) (by (try dsimp only) <;> omega)) G Sn M MB (by simp only [List.length_append, List.length_cons, List.length_nil, Bool.false_eq_true, if_false]; omega) K
            · refine s_ifne (pc' := 135) (pcT := 137) W d_prog_12_method_4_132 (by decide) rfl rfl (fun hq => absurd (by decide) hq) (fun _ => ?_)
              refine s_aconst_null (pc' := 136) W d_prog_12_method_4_135 rfl ?_
              refine s_areturn W rfl rfl rfl d_prog_12_method_4_136 (by (try dsimp only) <;> omega) (by (try dsimp only) <;> omega) ?_
              intro vm' C'
              exact Or.inl ⟨by rw [nrm, if_neg h32, if_pos hlet, if_pos rfl, if_neg h50], rfl, K⟩
    · refine s_aload_n (pc' := 47) W d_prog_12_method_4_46 rfl rfl rfl ?_
      refine s_virt (pc' := 50) W (C0 := "java/lang/StringBuilder") (w102 hw) (w103 hw) (w105 hw) (w104 hw) (w50 hw) (w106 hw) (notFace_of_selects (args := a0) (w105 hw)) (by decide) pd12 [] rfl S.1 (c_sblength _ hw W.old S) all0 rfl d_prog_12_method_4_47 0 (le rfl) (Nat.le_trans (bl rfl) hfr) (Nat.le_trans (bl rfl) hlo) (by (try dsimp only) <;> omega) (by (try dsimp only) <;> omega) rfl ?_
      rintro _ T vm _ W C3 ⟨rfl, rfl⟩
      replace M := M.mv C3
      replace MB := MB.mv C3
      refine s_ifle (pc' := 53) (pcT := 57) W d_prog_12_method_4_50 (by decide) rfl rfl (fun hz => ?_) (fun hz => ?_)
      · refine s_iconst (pc' := 58) W (0 : Int32) d_prog_12_method_4_57 rfl rfl ?_
        refine s_istore_n (pc' := 59) W #[rv ra, iv (0 : Int32), rv a, iv (0 : Int32), iv (Int32.ofNat i), iv c, o6] d_prog_12_method_4_58 rfl rfl ?_
        refine s_goto (pc' := 137) W d_prog_12_method_4_59 (by decide) rfl ?_
        refine s_iinc (pc' := 140) W (1 : Int32) #[rv ra, iv (0 : Int32), rv a, iv (0 : Int32), iv ((Int32.ofNat i) + (1 : Int32)), iv c, o6] d_prog_12_method_4_137 rfl rfl rfl rfl ?_
        refine s_goto (pc' := 22) W d_prog_12_method_4_140 (by decide) rfl ?_
        have he : nrm (c :: cs.drop (i + 1)) out pd = nrm (cs.drop (i + 1)) out false := by rw [nrm, if_pos h32, decide_eq_false (fun z => hz (n_lt (i := 0) z (by omega)))]
        rw [he]
        simp only [n_succ]
        exact ih (i + 1) (by omega) T _ h _ _ out false 0 rfl (One.val rfl) ho6 (W.more (cells' := cells) (slots' := slots) (by (try dsimp only) <;> omega) (by (try dsimp only) <;> omega)) G S M MB (by simp only [Bool.false_eq_true, if_false]; split at hpd <;> omega) K
      · refine s_iconst (pc' := 54) W (1 : Int32) d_prog_12_method_4_53 rfl rfl ?_
        refine s_goto (pc' := 58) W d_prog_12_method_4_54 (by decide) rfl ?_
        refine s_istore_n (pc' := 59) W #[rv ra, iv (0 : Int32), rv a, iv (1 : Int32), iv (Int32.ofNat i), iv c, o6] d_prog_12_method_4_58 rfl rfl ?_
        refine s_goto (pc' := 137) W d_prog_12_method_4_59 (by decide) rfl ?_
        refine s_iinc (pc' := 140) W (1 : Int32) #[rv ra, iv (0 : Int32), rv a, iv (1 : Int32), iv ((Int32.ofNat i) + (1 : Int32)), iv c, o6] d_prog_12_method_4_137 rfl rfl rfl rfl ?_
        refine s_goto (pc' := 22) W d_prog_12_method_4_140 (by decide) rfl ?_
        have he : nrm (c :: cs.drop (i + 1)) out pd = nrm (cs.drop (i + 1)) out true := by rw [nrm, if_pos h32, decide_eq_true (by rcases Nat.eq_zero_or_pos out.length with z | z; rw [z] at hz; exact absurd hz (by decide); exact z)]
        rw [he]
        simp only [n_succ]
        exact ih (i + 1) (by omega) T _ h _ _ out true 1 rfl (One.val rfl) ho6 (W.more (cells' := cells) (slots' := slots) (by (try dsimp only) <;> omega) (by (try dsimp only) <;> omega)) G S M MB (by simp only [if_true]; split at hpd <;> omega) K
set_option maxRecDepth 65536 in
set_option maxHeartbeats 40000000 in
theorem ef_normalise (m : MethodId) (x0 : Addr) (x1 : Int32) : entryFrame m #[(.ref x0), (.int x1)] 7 = mkF m 0 #[.val (.ref x0), .val (.int x1), .unset, .unset, .unset, .unset, .unset] [] := by first | (simp [entryFrame, mkF, argsToLocals, Value.category]; done) | rfl
set_option maxRecDepth 65536 in
set_option maxHeartbeats 40000000 in
theorem c_normalise (l : Launch) {Z : State} {a0 : Array Value} (hw : Hw Z a0) {n0 : Nat} {h : Heap} (O : Old Z n0 h) (CS0 : CS Z) (FM : Fmt Z) {ra rb : Nat} {kr : ClassId} {cs : List Int32} (hlen : cs.length ≤ 51) (G : LatB Z h ra rb kr cs) :
    Con l Z EL1 n0 (⟨"com/example/udfyld/udfyld/Normaliser", "normalise", "(Ljava/lang/String;Z)Ljava/lang/String;"⟩ : MethodName) prog_12_method_4_code 7 (some (.object "java/lang/String")) [] ({ frames := 6, cells := 4, slots := 120, locals := 91 } : Room) #[(.ref ra), (.int (0 : Int32))] h [] (fun v vm' h' => (nrm cs [] false = none ∧ v = some .null ∧ Keep h h' []) ∨ (∃ o t c kc, nrm cs [] false = some o ∧ v = some (.ref t) ∧ Keep h h' [] ∧ LatB Z h' t c kc o)) := by
  refine Con.of pn31 O (el hw) ?_
  intro pg_ e s m below meth cd_ T W hs_ hSf
  rw [ef_normalise]
  have Kt := Keep.refl h []
  have lra := nlt G.lt
  have lrb := nlt G.ltb
  refine s_new (pc' := 3) W (w48 hw) (w49 hw) (w50 hw) d_prog_12_method_4_0 (by (try dsimp only) <;> omega) (by (try dsimp only) <;> omega) rfl ?_
  intro a T h g_a
  have fs_a := Nat.le_trans Kt.1 (Nat.le_of_eq g_a.symm)
  have ne_ra_a : @Ne Nat ra a := by have := nlt G.lt; omega
  have ne_rb_a : @Ne Nat rb a := by have := nlt G.ltb; omega
  intro W K1 C1 M_a E_a D_a U_a
  replace Kt := Kt.trans K1 all0
  replace G := G.keep K1 nin0 nin0
  have F_coder_a : Fld Z _ a "java/lang/AbstractStringBuilder" "coder" "B" (.int 0) := D_a (Or.inl (w79 hw)) (ty := .byte) (by decide)
  have F_value_a : Fld Z _ a "java/lang/AbstractStringBuilder" "value" "[B" .null := D_a (Or.inl (w77 hw)) (ty := (.array .byte)) (by decide)
  have F_count_a : Fld Z _ a "java/lang/AbstractStringBuilder" "count" "I" (.int 0) := D_a (Or.inl (w113 hw)) (ty := .int) (by decide)
  have la := nlt M_a.2.1
  have Kt0 := Kt.1
  refine s_dup (pc' := 4) W d_prog_12_method_4_3 rfl rfl ?_
  refine s_aload_n (pc' := 5) W d_prog_12_method_4_4 rfl rfl rfl ?_
  refine s_virt (pc' := 8) W (C0 := "java/lang/String") (w51 hw) (w52 hw) (w54 hw) (w53 hw) (w7 hw) (w55 hw) (notFace_of_selects (args := a0) (w54 hw)) (by decide) pd12 [] rfl G.1 (c_strlength l hw W.old CS0 G) all0 rfl d_prog_12_method_4_5 2 (le rfl) (bl rfl) (bl rfl) (by (try dsimp only) <;> omega) (by (try dsimp only) <;> omega) rfl ?_
  rintro _ T vm _ W C2 ⟨rfl, rfl⟩
  replace M_a := M_a.mv C2
  refine s_bipush (pc' := 10) W (51 : Int32) d_prog_12_method_4_8 rfl rfl ?_
  refine s_static (pc' := 13) W (w61 hw) (w62 hw) (w63 hw) (w64 hw) (by decide) pd14 [(.int (Int32.ofNat cs.length)), (.int (51 : Int32))] rfl (c_mathmin l hw W.old) all0 rfl d_prog_12_method_4_10 2 (le rfl) (bl rfl) (bl rfl) (by (try dsimp only) <;> omega) (by (try dsimp only) <;> omega) rfl ?_
  rintro _ T vm _ W C3 ⟨rfl, rfl⟩
  replace M_a := M_a.mv C3
  rw [if_neg (show ¬ (51 : Int32) < Int32.ofNat cs.length from n_ge (i := 51) hlen (by decide))]
  refine s_init (pc' := 16) W rfl (w65 hw) (w66 hw) (w50 hw) (w67 hw) (by decide) pd9 [(.int (Int32.ofNat cs.length))] rfl (c_sbinitI l hw W.old CS0 (by omega) E_a M_a.1 M_a.2.1 F_coder_a F_value_a F_count_a) (allS ⟨M_a.2.1, M_a.2.2⟩ all0) rfl d_prog_12_method_4_13 1 (le rfl) (bl rfl) (bl rfl) (by (try dsimp only) <;> omega) (by (try dsimp only) <;> omega) rfl ?_
  rintro _ T vm h W C4 ⟨rfl, K4, b, kb, Sb, hb_, M_b⟩
  replace Kt := Kt.trans K4 (allS (P := fun x => _ ∨ _) (Or.inr fs_a) all0)
  replace G := G.keep K4 (ninS ne_ra_a nin0) (ninS ne_rb_a nin0)
  replace E_a := E_a.keep K4
  replace M_a := M_a.mv C4
  have nab : @Ne Nat a b := by omega
  have fs_b := Nat.le_trans Kt0 hb_
  have n3 : @Ne Nat ra b := by omega
  have n4 : @Ne Nat rb b := by omega
  refine s_astore_n (pc' := 17) W #[rv ra, iv (0 : Int32), rv a, .unset, .unset, .unset, .unset] d_prog_12_method_4_16 rfl rfl rfl ?_
  refine s_iconst (pc' := 18) W (0 : Int32) d_prog_12_method_4_17 rfl rfl ?_
  refine s_istore_n (pc' := 19) W #[rv ra, iv (0 : Int32), rv a, iv (0 : Int32), .unset, .unset, .unset] d_prog_12_method_4_18 rfl rfl ?_
  refine s_iconst (pc' := 20) W (0 : Int32) d_prog_12_method_4_19 rfl rfl ?_
  refine s_istore (pc' := 22) W #[rv ra, iv (0 : Int32), rv a, iv (0 : Int32), iv (0 : Int32), .unset, .unset] d_prog_12_method_4_20 rfl rfl ?_
  refine Go.imp (fun v vm' h' q => ?_) (lp_norm hw (by (try dsimp only) <;> omega) (by (try dsimp only) <;> omega) (bl rfl) (bl rfl) CS0 FM hlen (Nat.le_refl _) ne_ra_a ne_rb_a n3 n4 nab cs.length 0 (Nat.zero_add _) T _ _ .unset .unset [] false 0 rfl One.u One.u W G Sb M_a M_b (by simp) (Keep.refl _ _))
  rcases q with ⟨q1, q2, q3⟩ | ⟨o, t, c, kc, q1, q2, q3, q4, q5⟩
  · exact Or.inl ⟨q1, q2, Kt.trans q3 (allS (P := fun x => _ ∨ _) (Or.inr fs_a) (allS (P := fun x => _ ∨ _) (Or.inr fs_b) all0))⟩
  · exact Or.inr ⟨o, t, c, kc, q1, q2, Kt.trans q3 (allS (P := fun x => _ ∨ _) (Or.inr fs_a) (allS (P := fun x => _ ∨ _) (Or.inr fs_b) all0)), q4⟩
set_option maxRecDepth 65536 in
set_option maxHeartbeats 40000000 in
theorem ef_oempty (m : MethodId)  : entryFrame m #[] 1 = mkF m 0 #[.unset] [] := by first | (simp [entryFrame, mkF, argsToLocals, Value.category]; done) | rfl
set_option maxRecDepth 65536 in
set_option maxHeartbeats 40000000 in
theorem c_oempty (l : Launch) {Z : State} {a0 : Array Value} (hw : Hw Z a0) {n0 : Nat} {h : Heap} (O : Old Z n0 h) {em : Nat} (hem : Sta Z Z.heap "java/util/Optional" "EMPTY" "Ljava/util/Optional;" (.ref em)) :
    Con l Z EL1 n0 (⟨"java/util/Optional", "empty", "()Ljava/util/Optional;"⟩ : MethodName) jdk_32_method_1_code 1 (some (.object "java/util/Optional")) [] ({ frames := 0, cells := 0, slots := 0, locals := 0 } : Room) #[] h [] (fun v vm' h' => v = some (.ref em) ∧ h = h') := by
  refine Con.of pn32 O (el hw) ?_
  intro pg_ e s m below meth cd_ T W hs_ hSf
  rw [ef_oempty]
  refine s_gets (pc' := 3) W (w118 hw) Via.refl hem d_jdk_32_method_1_0 rfl ?_
  intro T W
  refine s_astore_n (pc' := 4) W #[rv em] d_jdk_32_method_1_3 rfl rfl rfl ?_
  refine s_aload_n (pc' := 5) W d_jdk_32_method_1_4 rfl rfl rfl ?_
  refine s_areturn W rfl rfl rfl d_jdk_32_method_1_5 (bl rfl) (bl rfl) ?_
  intro vm' C'
  exact ⟨rfl, rfl⟩
set_option maxRecDepth 65536 in
set_option maxHeartbeats 40000000 in
theorem ef_opresN (m : MethodId) (x0 : Addr) : entryFrame m #[(.ref x0)] 1 = mkF m 0 #[.val (.ref x0)] [] := by first | (simp [entryFrame, mkF, argsToLocals, Value.category]; done) | rfl
set_option maxRecDepth 65536 in
set_option maxHeartbeats 40000000 in
theorem c_opresN (l : Launch) {Z : State} {a0 : Array Value} (hw : Hw Z a0) {n0 : Nat} {h : Heap} (O : Old Z n0 h) {a : Nat} (F : Fld Z h a "java/util/Optional" "value" "Ljava/lang/Object;" .null) :
    Con l Z EL1 n0 (⟨"java/util/Optional", "isPresent", "()Z"⟩ : MethodName) jdk_32_method_6_code 1 (some .boolean) [] ({ frames := 0, cells := 0, slots := 0, locals := 0 } : Room) #[(.ref a)] h [] (fun v vm' h' => v = some (.int 0) ∧ h = h') := by
  refine Con.of pn33 O (el hw) ?_
  intro pg_ e s m below meth cd_ T W hs_ hSf
  rw [ef_opresN]
  refine s_aload_n (pc' := 1) W d_jdk_32_method_6_0 rfl rfl rfl ?_
  refine s_getf (pc' := 4) W (w124 hw) Via.refl F d_jdk_32_method_6_1 rfl ?_
  intro T W
  refine s_ifnullY (pcT := 11) W d_jdk_32_method_6_4 (by decide) rfl ?_
  refine s_iconst (pc' := 12) W (0 : Int32) d_jdk_32_method_6_11 rfl rfl ?_
  refine s_nreturn W (t := .boolean) rfl (by simp) d_jdk_32_method_6_12 (bl rfl) (bl rfl) ?_
  intro vm' C'
  exact ⟨rfl, rfl⟩
set_option maxRecDepth 65536 in
set_option maxHeartbeats 40000000 in
theorem ef_opresP (m : MethodId) (x0 : Addr) : entryFrame m #[(.ref x0)] 1 = mkF m 0 #[.val (.ref x0)] [] := by first | (simp [entryFrame, mkF, argsToLocals, Value.category]; done) | rfl
set_option maxRecDepth 65536 in
set_option maxHeartbeats 40000000 in
theorem c_opresP (l : Launch) {Z : State} {a0 : Array Value} (hw : Hw Z a0) {n0 : Nat} {h : Heap} (O : Old Z n0 h) {a t : Nat} (F : Fld Z h a "java/util/Optional" "value" "Ljava/lang/Object;" (.ref t)) :
    Con l Z EL1 n0 (⟨"java/util/Optional", "isPresent", "()Z"⟩ : MethodName) jdk_32_method_6_code 1 (some .boolean) [] ({ frames := 0, cells := 0, slots := 0, locals := 0 } : Room) #[(.ref a)] h [] (fun v vm' h' => v = some (.int 1) ∧ h = h') := by
  refine Con.of pn33 O (el hw) ?_
  intro pg_ e s m below meth cd_ T W hs_ hSf
  rw [ef_opresP]
  refine s_aload_n (pc' := 1) W d_jdk_32_method_6_0 rfl rfl rfl ?_
  refine s_getf (pc' := 4) W (w124 hw) Via.refl F d_jdk_32_method_6_1 rfl ?_
  intro T W
  refine s_ifnullN (pc' := 7) W d_jdk_32_method_6_4 rfl ?_
  refine s_iconst (pc' := 8) W (1 : Int32) d_jdk_32_method_6_7 rfl rfl ?_
  refine s_goto (pc' := 12) W d_jdk_32_method_6_8 (by decide) rfl ?_
  refine s_nreturn W (t := .boolean) rfl (by simp) d_jdk_32_method_6_12 (bl rfl) (bl rfl) ?_
  intro vm' C'
  exact ⟨rfl, rfl⟩
set_option maxRecDepth 65536 in
set_option maxHeartbeats 40000000 in
theorem ef_oget (m : MethodId) (x0 : Addr) : entryFrame m #[(.ref x0)] 1 = mkF m 0 #[.val (.ref x0)] [] := by first | (simp [entryFrame, mkF, argsToLocals, Value.category]; done) | rfl
set_option maxRecDepth 65536 in
set_option maxHeartbeats 40000000 in
theorem c_oget (l : Launch) {Z : State} {a0 : Array Value} (hw : Hw Z a0) {n0 : Nat} {h : Heap} (O : Old Z n0 h) {a t : Nat} (F : Fld Z h a "java/util/Optional" "value" "Ljava/lang/Object;" (.ref t)) :
    Con l Z EL1 n0 (⟨"java/util/Optional", "get", "()Ljava/lang/Object;"⟩ : MethodName) jdk_32_method_5_code 1 (some (.object "java/lang/Object")) [] ({ frames := 0, cells := 0, slots := 0, locals := 0 } : Room) #[(.ref a)] h [] (fun v vm' h' => v = some (.ref t) ∧ h = h') := by
  refine Con.of pn34 O (el hw) ?_
  intro pg_ e s m below meth cd_ T W hs_ hSf
  rw [ef_oget]
  refine s_aload_n (pc' := 1) W d_jdk_32_method_5_0 rfl rfl rfl ?_
  refine s_getf (pc' := 4) W (w124 hw) Via.refl F d_jdk_32_method_5_1 rfl ?_
  intro T W
  refine s_ifnonnullY (pcT := 17) W d_jdk_32_method_5_4 (by decide) rfl ?_
  refine s_aload_n (pc' := 18) W d_jdk_32_method_5_17 rfl rfl rfl ?_
  refine s_getf (pc' := 21) W (w124 hw) Via.refl F d_jdk_32_method_5_18 rfl ?_
  intro T W
  refine s_areturn W rfl rfl rfl d_jdk_32_method_5_21 (bl rfl) (bl rfl) ?_
  intro vm' C'
  exact ⟨rfl, rfl⟩
set_option maxRecDepth 65536 in
set_option maxHeartbeats 40000000 in
theorem ef_reqnn1 (m : MethodId) (x0 : Addr) : entryFrame m #[(.ref x0)] 1 = mkF m 0 #[.val (.ref x0)] [] := by first | (simp [entryFrame, mkF, argsToLocals, Value.category]; done) | rfl
set_option maxRecDepth 65536 in
set_option maxHeartbeats 40000000 in
theorem c_reqnn1 (l : Launch) {Z : State} {a0 : Array Value} (hw : Hw Z a0) {n0 : Nat} {h : Heap} (O : Old Z n0 h) {a : Nat} :
    Con l Z EL1 n0 (⟨"java/util/Objects", "requireNonNull", "(Ljava/lang/Object;)Ljava/lang/Object;"⟩ : MethodName) jdk_31_method_10_code 1 (some (.object "java/lang/Object")) [] ({ frames := 0, cells := 0, slots := 0, locals := 0 } : Room) #[(.ref a)] h [] (fun v vm' h' => v = some (.ref a) ∧ h = h') := by
  refine Con.of pn35 O (el hw) ?_
  intro pg_ e s m below meth cd_ T W hs_ hSf
  rw [ef_reqnn1]
  refine s_aload_n (pc' := 1) W d_jdk_31_method_10_0 rfl rfl rfl ?_
  refine s_ifnonnullY (pcT := 12) W d_jdk_31_method_10_1 (by decide) rfl ?_
  refine s_aload_n (pc' := 13) W d_jdk_31_method_10_12 rfl rfl rfl ?_
  refine s_areturn W rfl rfl rfl d_jdk_31_method_10_13 (bl rfl) (bl rfl) ?_
  intro vm' C'
  exact ⟨rfl, rfl⟩
set_option maxRecDepth 65536 in
set_option maxHeartbeats 40000000 in
theorem ef_oinit (m : MethodId) (x0 : Addr) (x1 : Addr) : entryFrame m #[(.ref x0), (.ref x1)] 2 = mkF m 0 #[.val (.ref x0), .val (.ref x1)] [] := by first | (simp [entryFrame, mkF, argsToLocals, Value.category]; done) | rfl
set_option maxRecDepth 65536 in
set_option maxHeartbeats 40000000 in
theorem c_oinit (l : Launch) {Z : State} {a0 : Array Value} (hw : Hw Z a0) {n0 : Nat} {h : Heap} (O : Old Z n0 h) {a t : Nat} (E : Exa Z h a "java/util/Optional") (M0 : n0 ≤ a) (Ma : a < h.size) (F : Fld Z h a "java/util/Optional" "value" "Ljava/lang/Object;" .null) :
    Con l Z EL1 n0 (⟨"java/util/Optional", "<init>", "(Ljava/lang/Object;)V"⟩ : MethodName) jdk_32_method_2_code 2 none [] ({ frames := 1, cells := 0, slots := 0, locals := 12 } : Room) #[(.ref a), (.ref t)] h [a] (fun v vm' h' => v = none ∧ Keep h h' [a] ∧ Exa Z h' a "java/util/Optional" ∧ Fld Z h' a "java/util/Optional" "value" "Ljava/lang/Object;" (.ref t)) := by
  refine Con.of pn36 O (el hw) ?_
  intro pg_ e s m below meth cd_ T W hs_ hSf
  rw [ef_oinit]
  have M : Mine Z EL1 n0 s.vm h a := ⟨M0, Ma, hSf a (by simp)⟩
  have Kt := Keep.refl h [a]
  refine s_aload_n (pc' := 1) W d_jdk_32_method_2_0 rfl rfl rfl ?_
  refine s_objinit (pc' := 4) W (w204 hw) (w16 hw) (w17 hw) rfl d_jdk_32_method_2_1 0 (le rfl) (bl rfl) (bl rfl) rfl ?_
  intro T W
  refine s_aload_n (pc' := 5) W d_jdk_32_method_2_4 rfl rfl rfl ?_
  refine s_aload_n (pc' := 6) W d_jdk_32_method_2_5 rfl rfl rfl ?_
  refine s_putf (pc' := 9) W (w124 hw) Via.refl F E M (Or.inr ⟨(w125 hw), rfl, rfl⟩) (w195 hw) (ty := (.object "java/lang/Object")) (by decide) rfl rfl d_jdk_32_method_2_6 rfl ?_
  intro T h W K1 C1 Wr1 Fn1
  replace Kt := Kt.trans K1 (allS (P := fun x => _ ∨ _) (Or.inl (by simp)) all0)
  replace E := E.keep K1
  replace M := M.mv C1
  have F := Fn1
  clear Fn1
  refine s_ret W rfl d_jdk_32_method_2_9 (bl rfl) (bl rfl) ?_
  intro vm' C'
  exact ⟨rfl, Kt, E, F⟩
set_option maxRecDepth 65536 in
set_option maxHeartbeats 40000000 in
theorem ef_oof (m : MethodId) (x0 : Addr) : entryFrame m #[(.ref x0)] 1 = mkF m 0 #[.val (.ref x0)] [] := by first | (simp [entryFrame, mkF, argsToLocals, Value.category]; done) | rfl
set_option maxRecDepth 65536 in
set_option maxHeartbeats 40000000 in
theorem c_oof (l : Launch) {Z : State} {a0 : Array Value} (hw : Hw Z a0) {n0 : Nat} {h : Heap} (O : Old Z n0 h) {t : Nat} :
    Con l Z EL1 n0 (⟨"java/util/Optional", "of", "(Ljava/lang/Object;)Ljava/util/Optional;"⟩ : MethodName) jdk_32_method_3_code 1 (some (.object "java/util/Optional")) [] ({ frames := 2, cells := 1, slots := 1, locals := 26 } : Room) #[(.ref t)] h [] (fun v vm' h' => ∃ a, v = some (.ref a) ∧ Keep h h' [] ∧ Exa Z h' a "java/util/Optional" ∧ Fld Z h' a "java/util/Optional" "value" "Ljava/lang/Object;" (.ref t)) := by
  refine Con.of pn37 O (el hw) ?_
  intro pg_ e s m below meth cd_ T W hs_ hSf
  rw [ef_oof]
  have Kt := Keep.refl h []
  refine s_new (pc' := 3) W (w194 hw) (w195 hw) (w116 hw) d_jdk_32_method_3_0 (bl rfl) (bl rfl) rfl ?_
  intro a T h g_a
  have fs_a := Nat.le_trans Kt.1 (Nat.le_of_eq g_a.symm)
  intro W K1 C1 M_a E_a D_a U_a
  replace Kt := Kt.trans K1 all0
  have F_value_a : Fld Z _ a "java/util/Optional" "value" "Ljava/lang/Object;" .null := D_a (Or.inr (w125 hw)) (ty := (.object "java/lang/Object")) (by decide)
  refine s_dup (pc' := 4) W d_jdk_32_method_3_3 rfl rfl ?_
  refine s_aload_n (pc' := 5) W d_jdk_32_method_3_4 rfl rfl rfl ?_
  refine s_static (pc' := 8) W (w196 hw) (w197 hw) (w198 hw) (w199 hw) (by decide) pd22 [(.ref t)] rfl (c_reqnn1 l hw W.old) all0 rfl d_jdk_32_method_3_5 2 (le rfl) (bl rfl) (bl rfl) (bl rfl) (bl rfl) rfl ?_
  rintro _ T vm _ W C2 ⟨rfl, rfl⟩
  replace M_a := M_a.mv C2
  refine s_init (pc' := 11) W rfl (w200 hw) (w201 hw) (w116 hw) (w203 hw) (by decide) pd23 [(.ref t)] rfl (c_oinit l hw W.old E_a M_a.1 M_a.2.1 F_value_a) (allS ⟨M_a.2.1, M_a.2.2⟩ all0) rfl d_jdk_32_method_3_8 1 (le rfl) (bl rfl) (bl rfl) (bl rfl) (bl rfl) rfl ?_
  rintro _ T vm h W C3 ⟨rfl, K3, E, F⟩
  replace Kt := Kt.trans K3 (allS (P := fun x => _ ∨ _) (Or.inr fs_a) all0)
  replace E_a := E_a.keep K3
  replace M_a := M_a.mv C3
  refine s_areturn W rfl rfl rfl d_jdk_32_method_3_11 (bl rfl) (bl rfl) ?_
  intro vm' C'
  exact ⟨a, rfl, Kt, E, F⟩
set_option maxRecDepth 65536 in
set_option maxHeartbeats 40000000 in
theorem ef_query (m : MethodId) (x0 : Addr) : entryFrame m #[(.ref x0)] 2 = mkF m 0 #[.val (.ref x0), .unset] [] := by first | (simp [entryFrame, mkF, argsToLocals, Value.category]; done) | rfl
set_option maxRecDepth 65536 in
set_option maxHeartbeats 40000000 in
theorem c_query (l : Launch) {Z : State} {a0 : Array Value} (hw : Hw Z a0) {n0 : Nat} {h : Heap} (O : Old Z n0 h) (CS0 : CS Z) (FM : Fmt Z) (OE0 : OE Z) {ra rb : Nat} {kr : ClassId} {cs : List Int32} (hlen : cs.length ≤ 51) (G : LatB Z h ra rb kr cs) :
    Con l Z EL1 n0 (⟨"com/example/udfyld/udfyld/Normaliser", "query", "(Ljava/lang/String;)Ljava/util/Optional;"⟩ : MethodName) prog_12_method_2_code 2 (some (.object "java/util/Optional")) [] ({ frames := 7, cells := 5, slots := 121, locals := 109 } : Room) #[(.ref ra)] h [] (fun v vm' h' => ∃ r, v = some (.ref r) ∧ Keep h h' [] ∧ Exa Z h' r "java/util/Optional" ∧ (((nrm cs [] false = none ∨ nrm cs [] false = some []) ∧ Fld Z h' r "java/util/Optional" "value" "Ljava/lang/Object;" .null) ∨ ∃ o t c kc, nrm cs [] false = some o ∧ o ≠ [] ∧ Fld Z h' r "java/util/Optional" "value" "Ljava/lang/Object;" (.ref t) ∧ LatB Z h' t c kc o)) := by
  refine Con.of pn38 O (el hw) ?_
  intro pg_ e s m below meth cd_ T W hs_ hSf
  rw [ef_query]
  have Kt := Keep.refl h []
  refine s_aload_n (pc' := 1) W d_prog_12_method_2_0 rfl rfl rfl ?_
  refine s_iconst (pc' := 2) W (0 : Int32) d_prog_12_method_2_1 rfl rfl ?_
  refine s_static (pc' := 5) W (w45 hw) (w46 hw) (w43 hw) (w47 hw) (by decide) pd24 [(.ref ra), (.int (0 : Int32))] rfl (c_normalise l hw W.old CS0 FM hlen G) all0 rfl d_prog_12_method_2_2 0 (le rfl) (bl rfl) (bl rfl) (bl rfl) (bl rfl) rfl ?_
  rintro vo T vm h W C1 (⟨hN, rfl, K1⟩ | ⟨o, t, tc, kt, hN, rfl, K1, Lt⟩)
  · replace Kt := Kt.trans K1 all0
    refine s_astore_n (pc' := 6) W #[rv ra, .val .null] d_prog_12_method_2_5 rfl rfl rfl ?_
    refine s_aload_n (pc' := 7) W d_prog_12_method_2_6 rfl rfl rfl ?_
    refine s_ifnullY (pcT := 17) W d_prog_12_method_2_7 (by decide) rfl ?_
    obtain ⟨em, hem, Eem, Fem⟩ := OE0
    refine s_static (pc' := 20) W (w114 hw) (w115 hw) (w116 hw) (w117 hw) (by decide) pd25 [] rfl (c_oempty l hw W.old hem) all0 rfl d_prog_12_method_2_17 0 (le rfl) (bl rfl) (bl rfl) (bl rfl) (bl rfl) rfl ?_
    rintro _ T vm _ W C2 ⟨rfl, rfl⟩
    have Od := W.old
    refine s_areturn W rfl rfl rfl d_prog_12_method_2_20 (bl rfl) (bl rfl) ?_
    intro vm' C'
    exact ⟨em, rfl, Kt, Eem.ext Od.2, Or.inl ⟨Or.inl hN, Fem.ext Od.2⟩⟩
  · replace Kt := Kt.trans K1 all0
    refine s_astore_n (pc' := 6) W #[rv ra, rv t] d_prog_12_method_2_5 rfl rfl rfl ?_
    refine s_aload_n (pc' := 7) W d_prog_12_method_2_6 rfl rfl rfl ?_
    refine s_ifnullN (pc' := 10) W d_prog_12_method_2_7 rfl ?_
    refine s_aload_n (pc' := 11) W d_prog_12_method_2_10 rfl rfl rfl ?_
    refine s_virt (pc' := 14) W (C0 := "java/lang/String") (w186 hw) (w187 hw) (w189 hw) (w188 hw) (w7 hw) (w190 hw) (notFace_of_selects (args := a0) (w189 hw)) (by decide) pd7 [] rfl Lt.1 (c_isempty l hw W.old Lt) all0 rfl d_prog_12_method_2_11 0 (le rfl) (bl rfl) (bl rfl) (bl rfl) (bl rfl) rfl ?_
    rintro _ T vm _ W C3 ⟨rfl, rfl⟩
    refine s_ifeq (pc' := 17) (pcT := 21) W d_prog_12_method_2_14 (by decide) rfl rfl (fun hz => ?_) (fun hz => ?_)
    · have hno : o ≠ [] := fun q => by rw [q] at hz; exact absurd hz (by decide)
      refine s_aload_n (pc' := 22) W d_prog_12_method_2_21 rfl rfl rfl ?_
      refine s_static (pc' := 25) W (w191 hw) (w192 hw) (w116 hw) (w193 hw) (by decide) pd26 [(.ref t)] rfl (c_oof l hw W.old) all0 rfl d_prog_12_method_2_22 0 (le rfl) (bl rfl) (bl rfl) (bl rfl) (bl rfl) rfl ?_
      rintro _ T vm h W C5 ⟨r, rfl, K5, Er, Fr_⟩
      replace Kt := Kt.trans K5 all0
      replace Lt := Lt.keep K5 nin0 nin0
      refine s_areturn W rfl rfl rfl d_prog_12_method_2_25 (bl rfl) (bl rfl) ?_
      intro vm' C'
      exact ⟨r, rfl, Kt, Er, Or.inr ⟨o, t, tc, kt, hN, hno, Fr_, Lt⟩⟩
    · obtain rfl : o = [] := List.eq_nil_of_length_eq_zero (Decidable.byContradiction fun q => hz (if_neg q))
      obtain ⟨em, hem, Eem, Fem⟩ := OE0
      refine s_static (pc' := 20) W (w114 hw) (w115 hw) (w116 hw) (w117 hw) (by decide) pd25 [] rfl (c_oempty l hw W.old hem) all0 rfl d_prog_12_method_2_17 0 (le rfl) (bl rfl) (bl rfl) (bl rfl) (bl rfl) rfl ?_
      rintro _ T vm _ W C4 ⟨rfl, rfl⟩
      have Od := W.old
      refine s_areturn W rfl rfl rfl d_prog_12_method_2_20 (bl rfl) (bl rfl) ?_
      intro vm' C'
      exact ⟨em, rfl, Kt, Eem.ext Od.2, Or.inl ⟨Or.inr hN, Fem.ext Od.2⟩⟩
theorem dr26 (x b : Int32) (hb : b = 97 ∨ b = 65) : L1 ((b + (x &&& 255) % 26).toUInt32.toUInt16.toUInt32.toInt32) := by
  have q := c_and x 255 (by decide)
  have r := (c_iremV (x &&& 255) 26).1 q.1 (by decide)
  have e26 : (26 : Int32).toInt = 26 := rfl
  have a := c_iadd b ((x &&& 255) % 26)
  have ra := rng32 (b + (x &&& 255) % 26)
  have hbi : b.toInt = 97 ∨ b.toInt = 65 := by rcases hb with rfl | rfl; exact Or.inl rfl; exact Or.inr rfl
  have hL : L1 (b + (x &&& 255) % 26) := L1.of (by omega) (by omega)
  rw [hL.i2c]; exact hL
set_option maxRecDepth 65536 in
set_option maxHeartbeats 40000000 in
theorem ef_draw (m : MethodId) (x0 : Int32) : entryFrame m #[(.int x0)] 3 = mkF m 0 #[.val (.int x0), .unset, .unset] [] := by first | (simp [entryFrame, mkF, argsToLocals, Value.category]; done) | rfl
set_option maxRecDepth 65536 in
set_option maxHeartbeats 40000000 in
theorem c_draw (l : Launch) {Z : State} {a0 : Array Value} (hw : Hw Z a0) {n0 : Nat} {h : Heap} (O : Old Z n0 h) {x : Int32} :
    Con l Z EL1 n0 (⟨"com/example/udfyld/udfyld/NormaliserQueryPinLaw", "draw", "(I)C"⟩ : MethodName) method_2_code 3 (some .char) [] ({ frames := 0, cells := 0, slots := 0, locals := 0 } : Room) #[(.int x)] h [] (fun v vm' h' => ∃ r : Int32, v = some (.int r) ∧ h = h' ∧ L1 r) := by
  refine Con.of pn39 O (el hw) ?_
  intro pg_ e s m below meth cd_ T W hs_ hSf
  rw [ef_draw]
  refine s_iload_n (pc' := 1) W d_method_2_0 rfl rfl ?_
  refine s_iconst (pc' := 2) W (3 : Int32) d_method_2_1 rfl rfl ?_
  refine s_iand (pc' := 3) W d_method_2_2 rfl ?_
  refine s_istore_n (pc' := 4) W #[iv x, iv (x &&& (3 : Int32)), .unset] d_method_2_3 rfl rfl ?_
  refine s_iload_n (pc' := 5) W d_method_2_4 rfl rfl ?_
  refine s_iconst (pc' := 6) W (2 : Int32) d_method_2_5 rfl rfl ?_
  refine s_iushr (pc' := 7) W d_method_2_6 rfl ?_
  refine s_sipush (pc' := 10) W (255 : Int32) d_method_2_7 rfl rfl ?_
  refine s_iand (pc' := 11) W d_method_2_10 rfl ?_
  refine s_istore_n (pc' := 12) W #[iv x, iv (x &&& (3 : Int32)), iv ((Jvm.Free.XT.ushr x (2 : Int32)) &&& (255 : Int32))] d_method_2_11 rfl rfl ?_
  refine s_iload_n (pc' := 13) W d_method_2_12 rfl rfl ?_
  refine s_ifne (pc' := 16) (pcT := 19) W d_method_2_13 (by decide) rfl rfl (fun h0 => ?_) (fun h0 => ?_)
  · refine s_iload_n (pc' := 20) W d_method_2_19 rfl rfl ?_
    refine s_iconst (pc' := 21) W (1 : Int32) d_method_2_20 rfl rfl ?_
    refine s_icmpne (pc' := 24) (pcT := 33) W d_method_2_21 (by decide) rfl rfl (fun h1 => ?_) (fun h1 => ?_)
    · refine s_iload_n (pc' := 34) W d_method_2_33 rfl rfl ?_
      refine s_iconst (pc' := 35) W (2 : Int32) d_method_2_34 rfl rfl ?_
      refine s_icmpne (pc' := 38) (pcT := 47) W d_method_2_35 (by decide) rfl rfl (fun h2 => ?_) (fun h2 => ?_)
      · refine s_iload_n (pc' := 48) W d_method_2_47 rfl rfl ?_
        refine s_i2c (pc' := 49) W d_method_2_48 rfl ?_
        refine s_nreturn W (t := .char) rfl (by simp) d_method_2_49 (bl rfl) (bl rfl) ?_
        intro vm' C'
        exact ⟨_, by rw [(L1.char _).nar], rfl, L1.char _⟩
      · refine s_bipush (pc' := 40) W (65 : Int32) d_method_2_38 rfl rfl ?_
        refine s_iload_n (pc' := 41) W d_method_2_40 rfl rfl ?_
        refine s_bipush (pc' := 43) W (26 : Int32) d_method_2_41 rfl rfl ?_
        refine s_irem (pc' := 44) W d_method_2_43 (by decide) rfl ?_
        refine s_iadd (pc' := 45) W d_method_2_44 rfl ?_
        refine s_i2c (pc' := 46) W d_method_2_45 rfl ?_
        refine s_nreturn W (t := .char) rfl (by simp) d_method_2_46 (bl rfl) (bl rfl) ?_
        intro vm' C'
        exact ⟨_, by rw [(dr26 _ 65 (Or.inr rfl)).nar], rfl, dr26 _ 65 (Or.inr rfl)⟩
    · refine s_bipush (pc' := 26) W (97 : Int32) d_method_2_24 rfl rfl ?_
      refine s_iload_n (pc' := 27) W d_method_2_26 rfl rfl ?_
      refine s_bipush (pc' := 29) W (26 : Int32) d_method_2_27 rfl rfl ?_
      refine s_irem (pc' := 30) W d_method_2_29 (by decide) rfl ?_
      refine s_iadd (pc' := 31) W d_method_2_30 rfl ?_
      refine s_i2c (pc' := 32) W d_method_2_31 rfl ?_
      refine s_nreturn W (t := .char) rfl (by simp) d_method_2_32 (bl rfl) (bl rfl) ?_
      intro vm' C'
      exact ⟨_, by rw [(dr26 _ 97 (Or.inl rfl)).nar], rfl, dr26 _ 97 (Or.inl rfl)⟩
  · refine s_bipush (pc' := 18) W (32 : Int32) d_method_2_16 rfl rfl ?_
    refine s_nreturn W (t := .char) rfl (by simp) d_method_2_18 (bl rfl) (bl rfl) ?_
    intro vm' C'
    exact ⟨32, rfl, rfl, ⟨by decide, by decide⟩⟩
set_option maxRecDepth 65536 in
set_option maxHeartbeats 40000000 in
theorem ef_isletter (m : MethodId) (x0 : Int32) : entryFrame m #[(.int x0)] 2 = mkF m 0 #[.val (.int x0), .unset] [] := by first | (simp [entryFrame, mkF, argsToLocals, Value.category]; done) | rfl
set_option maxRecDepth 65536 in
set_option maxHeartbeats 40000000 in
theorem c_isletter (l : Launch) {Z : State} {a0 : Array Value} (hw : Hw Z a0) {n0 : Nat} {h : Heap} (O : Old Z n0 h) {c : Int32} :
    Con l Z EL1 n0 (⟨"com/example/udfyld/udfyld/NormaliserQueryPinLaw", "isLetter", "(C)Z"⟩ : MethodName) method_3_code 2 (some .boolean) [] ({ frames := 0, cells := 0, slots := 0, locals := 0 } : Room) #[(.int c)] h [] (fun v vm' h' => v = some (.int (if letter c = true then 1 else 0)) ∧ h = h') := by
  refine Con.of pn40 O (el hw) ?_
  intro pg_ e s m below meth cd_ T W hs_ hSf
  rw [ef_isletter]
  refine s_iload_n (pc' := 1) W d_method_3_0 rfl rfl ?_
  refine s_bipush (pc' := 3) W (32 : Int32) d_method_3_1 rfl rfl ?_
  refine s_ior (pc' := 4) W d_method_3_3 rfl ?_
  refine s_istore_n (pc' := 5) W #[iv c, iv (c ||| (32 : Int32))] d_method_3_4 rfl rfl ?_
  refine s_iload_n (pc' := 6) W d_method_3_5 rfl rfl ?_
  refine s_bipush (pc' := 8) W (97 : Int32) d_method_3_6 rfl rfl ?_
  refine s_icmplt (pc' := 11) (pcT := 21) W d_method_3_8 (by decide) rfl rfl (fun h1 => ?_) (fun h1 => ?_)
  · refine s_iconst (pc' := 22) W (0 : Int32) d_method_3_21 rfl rfl ?_
    refine s_nreturn W (t := .boolean) rfl (by simp) d_method_3_22 (bl rfl) (bl rfl) ?_
    intro vm' C'
    exact ⟨by rw [if_neg (show ¬ letter c = true from fun q => (of_decide_eq_true q).1 h1)]; rfl, rfl⟩
  · refine s_iload_n (pc' := 12) W d_method_3_11 rfl rfl ?_
    refine s_bipush (pc' := 14) W (122 : Int32) d_method_3_12 rfl rfl ?_
    refine s_icmpgt (pc' := 17) (pcT := 21) W d_method_3_14 (by decide) rfl rfl (fun h2 => ?_) (fun h2 => ?_)
    · refine s_iconst (pc' := 22) W (0 : Int32) d_method_3_21 rfl rfl ?_
      refine s_nreturn W (t := .boolean) rfl (by simp) d_method_3_22 (bl rfl) (bl rfl) ?_
      intro vm' C'
      exact ⟨by rw [if_neg (show ¬ letter c = true from fun q => (of_decide_eq_true q).2 h2)]; rfl, rfl⟩
    · refine s_iconst (pc' := 18) W (1 : Int32) d_method_3_17 rfl rfl ?_
      refine s_goto (pc' := 22) W d_method_3_18 (by decide) rfl ?_
      refine s_nreturn W (t := .boolean) rfl (by simp) d_method_3_22 (bl rfl) (bl rfl) ?_
      intro vm' C'
      exact ⟨by rw [if_pos (show letter c = true from decide_eq_true ⟨h1, h2⟩)]; rfl, rfl⟩
set_option maxRecDepth 65536 in
set_option maxHeartbeats 40000000 in
theorem ef_step (m : MethodId) (x0 : Addr) (x1 : Addr) (x2 : Int32) (x3 : Int32) : entryFrame m #[(.ref x0), (.ref x1), (.int x2), (.int x3)] 4 = mkF m 0 #[.val (.ref x0), .val (.ref x1), .val (.int x2), .val (.int x3)] [] := by first | (simp [entryFrame, mkF, argsToLocals, Value.category]; done) | rfl
set_option maxRecDepth 65536 in
set_option maxHeartbeats 40000000 in
theorem c_step (l : Launch) {Z : State} {a0 : Array Value} (hw : Hw Z a0) {n0 : Nat} {h : Heap} (O : Old Z n0 h) {tl st : Nat} {kt ks : ClassId} {pos : Nat} {t : List Int32} {g : Option Nat} {bad : Bool} {c : Int32} (hcL : L1 c) (hpos : pos ≤ 5) (HT : TA Z h tl st kt ks pos t g bad) (nts : tl ≠ st) (M0 : n0 ≤ tl) (M1 : n0 ≤ st) :
    Con l Z EL1 n0 (⟨"com/example/udfyld/udfyld/NormaliserQueryPinLaw", "step", "([C[ICI)V"⟩ : MethodName) method_4_code 4 none [] ({ frames := 1, cells := 0, slots := 0, locals := 13 } : Room) #[(.ref tl), (.ref st), (.int c), (.int (Int32.ofNat pos))] h [tl, st] (fun v vm' h' => v = none ∧ Keep h h' [tl, st] ∧ TA Z h' tl st kt ks (pos + 1) (stp c (t, g, bad)).1 (stp c (t, g, bad)).2.1 (stp c (t, g, bad)).2.2) := by
  refine Con.of pn41 O (el hw) ?_
  intro pg_ e s m below meth cd_ T W hs_ hSf
  rw [ef_step]
  obtain ⟨A, B, hlen, hL⟩ := HT
  have MT : Mine Z EL1 n0 s.vm h tl := ⟨M0, A.lt, hSf tl (by simp)⟩
  have MS : Mine Z EL1 n0 s.vm h st := ⟨M1, B.lt, hSf st (by simp)⟩
  have Kt := Keep.refl h [tl, st]
  refine s_iload_n (pc' := 1) W d_method_4_0 rfl rfl ?_
  refine s_bipush (pc' := 3) W (32 : Int32) d_method_4_1 rfl rfl ?_
  refine s_icmpne (pc' := 6) (pcT := 7) W d_method_4_3 (by decide) rfl rfl (fun h32 => ?_) (fun h32 => ?_)
  · refine s_iload_n (pc' := 8) W d_method_4_7 rfl rfl ?_
    refine s_static (pc' := 11) W (w38 hw) (w39 hw) (w3 hw) (w40 hw) (by decide) pd10 [(.int c)] rfl (c_isletter l hw W.old) all0 rfl d_method_4_8 0 (le rfl) (bl rfl) (bl rfl) (bl rfl) (bl rfl) rfl ?_
    rintro _ T vm _ W C1 ⟨rfl, rfl⟩
    replace MT := MT.mv C1
    replace MS := MS.mv C1
    refine s_ifne (pc' := 14) (pcT := 19) W d_method_4_11 (by decide) rfl rfl (fun hl => ?_) (fun hl => ?_)
    · have hlt : letter c = true := Decidable.byContradiction fun q => hl (if_neg q)
      rcases g with _ | g
      · have hlw : L1 (low c) := (let_spec hcL).2.2.2
        have hlen2 : t.length ≤ pos := by simpa using hlen
        refine s_aload_n (pc' := 20) W d_method_4_19 rfl rfl rfl ?_
        refine s_iconst (pc' := 21) W (1 : Int32) d_method_4_20 rfl rfl ?_
        refine s_iaload (pc' := 22) W (.int (-100 : Int32)) B (by decide) (by decide) rfl d_method_4_21 rfl ?_
        refine s_bipush (pc' := 24) W (-100 : Int32) d_method_4_22 rfl rfl ?_
        refine s_icmpeq (pc' := 27) (pcT := 51) W d_method_4_24 (by decide) rfl rfl (fun _ => ?_) (fun hq => absurd (by decide) hq)
        refine s_aload_n (pc' := 52) W d_method_4_51 rfl rfl rfl ?_
        refine s_aload_n (pc' := 53) W d_method_4_52 rfl rfl rfl ?_
        refine s_iconst (pc' := 54) W (0 : Int32) d_method_4_53 rfl rfl ?_
        refine s_iaload (pc' := 55) W (.int (Int32.ofNat (t).length)) B (by decide) (by decide) rfl d_method_4_54 rfl ?_
        refine s_iload_n (pc' := 56) W d_method_4_55 rfl rfl ?_
        refine s_bipush (pc' := 58) W (32 : Int32) d_method_4_56 rfl rfl ?_
        refine s_ior (pc' := 59) W d_method_4_58 rfl ?_
        refine s_i2c (pc' := 60) W d_method_4_59 rfl ?_
        refine s_castore (pc' := 61) W (t).length A MT (n_clamp (by omega)) (n_nn (by omega)) (n_lt (n := 6) (by omega) (by decide)) (by simp only [List.length_append, List.length_map, List.length_replicate, List.length_cons, List.length_nil]; omega) d_method_4_60 rfl ?_
        intro T h W K3 C3 Vn3
        replace Kt := Kt.trans K3 (allS (P := fun x => _ ∨ _) (Or.inl (by simp)) all0)
        replace B := B.keep K3 (ninS (Ne.symm nts) nin0)
        replace MT := MT.mv C3
        replace MS := MS.mv C3
        have A := Vn3
        clear Vn3
        have A : Arv Z h tl kt .char 6 ((t ++ [low c]).map cv ++ List.replicate (6 - (t ++ [low c]).length) (.int 0)) (.int 0) := by have q := A; rw [show nar .char (c ||| 32).toUInt32.toUInt16.toUInt32.toInt32 = low c from hlw.nar, tset (by omega)] at q; exact q
        refine s_aload_n (pc' := 62) W d_method_4_61 rfl rfl rfl ?_
        refine s_iconst (pc' := 63) W (0 : Int32) d_method_4_62 rfl rfl ?_
        refine s_aload_n (pc' := 64) W d_method_4_63 rfl rfl rfl ?_
        refine s_iconst (pc' := 65) W (0 : Int32) d_method_4_64 rfl rfl ?_
        refine s_iaload (pc' := 66) W (.int (Int32.ofNat (t).length)) B (by decide) (by decide) rfl d_method_4_65 rfl ?_
        refine s_iconst (pc' := 67) W (1 : Int32) d_method_4_66 rfl rfl ?_
        refine s_iadd (pc' := 68) W d_method_4_67 rfl ?_
        rw [show Int32.ofNat (t : List Int32).length + (1 : Int32) = Int32.ofNat ((t : List Int32).length + 1) from n_add (t : List Int32).length 1]
        refine s_iastore (pc' := 69) W 0 B MS rfl (by decide) (by decide) (bt rfl) d_method_4_68 rfl ?_
        intro T h W K4 C4 Vn4
        replace Kt := Kt.trans K4 (allS (P := fun x => _ ∨ _) (Or.inl (by simp)) all0)
        replace MT := MT.mv C4
        replace MS := MS.mv C4
        replace A := A.keep K4 (ninS nts nin0)
        have B := Vn4
        clear Vn4
        refine s_aload_n (pc' := 70) W d_method_4_69 rfl rfl rfl ?_
        refine s_iconst (pc' := 71) W (1 : Int32) d_method_4_70 rfl rfl ?_
        refine s_iload_n (pc' := 72) W d_method_4_71 rfl rfl ?_
        refine s_iastore (pc' := 73) W 1 B MS rfl (by decide) (by decide) (bt rfl) d_method_4_72 rfl ?_
        intro T h W K5 C5 Vn5
        replace Kt := Kt.trans K5 (allS (P := fun x => _ ∨ _) (Or.inl (by simp)) all0)
        replace MT := MT.mv C5
        replace MS := MS.mv C5
        replace A := A.keep K5 (ninS nts nin0)
        have B := Vn5
        clear Vn5
        refine s_ret W rfl d_method_4_73 (bl rfl) (bl rfl) ?_
        intro vm' C'
        exact ⟨rfl, Kt, by rw [stp, if_neg h32, if_pos hlt]; rw [if_neg (show ¬ gp (none : Option Nat) = true by decide)]; exact ⟨A, by rw [last_0, List.length_append]; exact B, by simp at hlen ⊢ <;> omega, fun c hc => (List.mem_append.mp hc).elim (hL c) (fun q => by cases List.mem_singleton.mp q; exact hlw)⟩⟩
      · have hlw : L1 (low c) := (let_spec hcL).2.2.2
        have hlen2 : t.length + g ≤ pos := by simpa using hlen
        refine s_aload_n (pc' := 20) W d_method_4_19 rfl rfl rfl ?_
        refine s_iconst (pc' := 21) W (1 : Int32) d_method_4_20 rfl rfl ?_
        refine s_iaload (pc' := 22) W (.int (lastOf pos (some g))) B (by decide) (by decide) rfl d_method_4_21 rfl ?_
        refine s_bipush (pc' := 24) W (-100 : Int32) d_method_4_22 rfl rfl ?_
        refine s_icmpeq (pc' := 27) (pcT := 51) W d_method_4_24 (by decide) rfl rfl (fun hq => absurd hq (last_ne hpos (by omega))) (fun _ => ?_)
        refine s_iload_n (pc' := 28) W d_method_4_27 rfl rfl ?_
        refine s_aload_n (pc' := 29) W d_method_4_28 rfl rfl rfl ?_
        refine s_iconst (pc' := 30) W (1 : Int32) d_method_4_29 rfl rfl ?_
        refine s_iaload (pc' := 31) W (.int (lastOf pos (some g))) B (by decide) (by decide) rfl d_method_4_30 rfl ?_
        refine s_isub (pc' := 32) W d_method_4_31 rfl ?_
        refine s_iconst (pc' := 33) W (1 : Int32) d_method_4_32 rfl rfl ?_
        have hsub := last_sub hpos (show g ≤ pos by omega)
        refine s_icmple (pc' := 36) (pcT := 51) W d_method_4_33 (by decide) rfl rfl (fun hg => ?_) (fun hg => ?_)
        · obtain rfl : g = 0 := by have : ¬ (1 : Int32).toInt < (Int32.ofNat pos - lastOf pos (some g)).toInt := fun q => hg ((lt_iff _ _).mpr q); rw [hsub] at this; have e1 : (1 : Int32).toInt = 1 := rfl; omega
          refine s_aload_n (pc' := 52) W d_method_4_51 rfl rfl rfl ?_
          refine s_aload_n (pc' := 53) W d_method_4_52 rfl rfl rfl ?_
          refine s_iconst (pc' := 54) W (0 : Int32) d_method_4_53 rfl rfl ?_
          refine s_iaload (pc' := 55) W (.int (Int32.ofNat (t).length)) B (by decide) (by decide) rfl d_method_4_54 rfl ?_
          refine s_iload_n (pc' := 56) W d_method_4_55 rfl rfl ?_
          refine s_bipush (pc' := 58) W (32 : Int32) d_method_4_56 rfl rfl ?_
          refine s_ior (pc' := 59) W d_method_4_58 rfl ?_
          refine s_i2c (pc' := 60) W d_method_4_59 rfl ?_
          refine s_castore (pc' := 61) W (t).length A MT (n_clamp (by omega)) (n_nn (by omega)) (n_lt (n := 6) (by omega) (by decide)) (by simp only [List.length_append, List.length_map, List.length_replicate, List.length_cons, List.length_nil]; omega) d_method_4_60 rfl ?_
          intro T h W K6 C6 Vn6
          replace Kt := Kt.trans K6 (allS (P := fun x => _ ∨ _) (Or.inl (by simp)) all0)
          replace B := B.keep K6 (ninS (Ne.symm nts) nin0)
          replace MT := MT.mv C6
          replace MS := MS.mv C6
          have A := Vn6
          clear Vn6
          have A : Arv Z h tl kt .char 6 ((t ++ [low c]).map cv ++ List.replicate (6 - (t ++ [low c]).length) (.int 0)) (.int 0) := by have q := A; rw [show nar .char (c ||| 32).toUInt32.toUInt16.toUInt32.toInt32 = low c from hlw.nar, tset (by omega)] at q; exact q
          refine s_aload_n (pc' := 62) W d_method_4_61 rfl rfl rfl ?_
          refine s_iconst (pc' := 63) W (0 : Int32) d_method_4_62 rfl rfl ?_
          refine s_aload_n (pc' := 64) W d_method_4_63 rfl rfl rfl ?_
          refine s_iconst (pc' := 65) W (0 : Int32) d_method_4_64 rfl rfl ?_
          refine s_iaload (pc' := 66) W (.int (Int32.ofNat (t).length)) B (by decide) (by decide) rfl d_method_4_65 rfl ?_
          refine s_iconst (pc' := 67) W (1 : Int32) d_method_4_66 rfl rfl ?_
          refine s_iadd (pc' := 68) W d_method_4_67 rfl ?_
          rw [show Int32.ofNat (t : List Int32).length + (1 : Int32) = Int32.ofNat ((t : List Int32).length + 1) from n_add (t : List Int32).length 1]
          refine s_iastore (pc' := 69) W 0 B MS rfl (by decide) (by decide) (bt rfl) d_method_4_68 rfl ?_
          intro T h W K7 C7 Vn7
          replace Kt := Kt.trans K7 (allS (P := fun x => _ ∨ _) (Or.inl (by simp)) all0)
          replace MT := MT.mv C7
          replace MS := MS.mv C7
          replace A := A.keep K7 (ninS nts nin0)
          have B := Vn7
          clear Vn7
          refine s_aload_n (pc' := 70) W d_method_4_69 rfl rfl rfl ?_
          refine s_iconst (pc' := 71) W (1 : Int32) d_method_4_70 rfl rfl ?_
          refine s_iload_n (pc' := 72) W d_method_4_71 rfl rfl ?_
          refine s_iastore (pc' := 73) W 1 B MS rfl (by decide) (by decide) (bt rfl) d_method_4_72 rfl ?_
          intro T h W K8 C8 Vn8
          replace Kt := Kt.trans K8 (allS (P := fun x => _ ∨ _) (Or.inl (by simp)) all0)
          replace MT := MT.mv C8
          replace MS := MS.mv C8
          replace A := A.keep K8 (ninS nts nin0)
          have B := Vn8
          clear Vn8
          refine s_ret W rfl d_method_4_73 (bl rfl) (bl rfl) ?_
          intro vm' C'
          exact ⟨rfl, Kt, by rw [stp, if_neg h32, if_pos hlt]; rw [if_neg (show ¬ gp (some 0) = true by decide)]; exact ⟨A, by rw [last_0, List.length_append]; exact B, by simp at hlen ⊢ <;> omega, fun c hc => (List.mem_append.mp hc).elim (hL c) (fun q => by cases List.mem_singleton.mp q; exact hlw)⟩⟩
        · obtain ⟨g, rfl⟩ : ∃ k, g = k + 1 := ⟨g - 1, by have := (lt_iff _ _).mp hg; rw [hsub] at this; have e1 : (1 : Int32).toInt = 1 := rfl; omega⟩
          refine s_aload_n (pc' := 37) W d_method_4_36 rfl rfl rfl ?_
          refine s_aload_n (pc' := 38) W d_method_4_37 rfl rfl rfl ?_
          refine s_iconst (pc' := 39) W (0 : Int32) d_method_4_38 rfl rfl ?_
          refine s_iaload (pc' := 40) W (.int (Int32.ofNat t.length)) B (by decide) (by decide) rfl d_method_4_39 rfl ?_
          refine s_bipush (pc' := 42) W (32 : Int32) d_method_4_40 rfl rfl ?_
          refine s_castore (pc' := 43) W t.length A MT (n_clamp (by omega)) (n_nn (by omega)) (n_lt (n := 6) (by omega) (by decide)) (by simp only [List.length_append, List.length_map, List.length_replicate, List.length_cons, List.length_nil]; omega) d_method_4_42 rfl ?_
          intro T h W K9 C9 Vn9
          replace Kt := Kt.trans K9 (allS (P := fun x => _ ∨ _) (Or.inl (by simp)) all0)
          replace B := B.keep K9 (ninS (Ne.symm nts) nin0)
          replace MT := MT.mv C9
          replace MS := MS.mv C9
          have A := Vn9
          clear Vn9
          have A : Arv Z h tl kt .char 6 ((t ++ [32]).map cv ++ List.replicate (6 - (t ++ [32]).length) (.int 0)) (.int 0) := by have q := A; rw [show nar .char (32 : Int32) = 32 from by decide, tset (by omega)] at q; exact q
          refine s_aload_n (pc' := 44) W d_method_4_43 rfl rfl rfl ?_
          refine s_iconst (pc' := 45) W (0 : Int32) d_method_4_44 rfl rfl ?_
          refine s_aload_n (pc' := 46) W d_method_4_45 rfl rfl rfl ?_
          refine s_iconst (pc' := 47) W (0 : Int32) d_method_4_46 rfl rfl ?_
          refine s_iaload (pc' := 48) W (.int (Int32.ofNat t.length)) B (by decide) (by decide) rfl d_method_4_47 rfl ?_
          refine s_iconst (pc' := 49) W (1 : Int32) d_method_4_48 rfl rfl ?_
          refine s_iadd (pc' := 50) W d_method_4_49 rfl ?_
          rw [show Int32.ofNat t.length + (1 : Int32) = Int32.ofNat (t ++ [32]).length from by rw [List.length_append]; exact n_add _ 1]
          refine s_iastore (pc' := 51) W 0 B MS rfl (by decide) (by decide) (bt rfl) d_method_4_50 rfl ?_
          intro T h W K10 C10 Vn10
          replace Kt := Kt.trans K10 (allS (P := fun x => _ ∨ _) (Or.inl (by simp)) all0)
          replace MT := MT.mv C10
          replace MS := MS.mv C10
          replace A := A.keep K10 (ninS nts nin0)
          have B := Vn10
          clear Vn10
          have hl32 : (t ++ [32]).length = t.length + 1 := by simp
          refine s_aload_n (pc' := 52) W d_method_4_51 rfl rfl rfl ?_
          refine s_aload_n (pc' := 53) W d_method_4_52 rfl rfl rfl ?_
          refine s_iconst (pc' := 54) W (0 : Int32) d_method_4_53 rfl rfl ?_
          refine s_iaload (pc' := 55) W (.int (Int32.ofNat ((t ++ [32])).length)) B (by decide) (by decide) rfl d_method_4_54 rfl ?_
          refine s_iload_n (pc' := 56) W d_method_4_55 rfl rfl ?_
          refine s_bipush (pc' := 58) W (32 : Int32) d_method_4_56 rfl rfl ?_
          refine s_ior (pc' := 59) W d_method_4_58 rfl ?_
          refine s_i2c (pc' := 60) W d_method_4_59 rfl ?_
          refine s_castore (pc' := 61) W ((t ++ [32])).length A MT (n_clamp (by omega)) (n_nn (by omega)) (n_lt (n := 6) (by omega) (by decide)) (by simp only [List.length_append, List.length_map, List.length_replicate, List.length_cons, List.length_nil]; omega) d_method_4_60 rfl ?_
          intro T h W K11 C11 Vn11
          replace Kt := Kt.trans K11 (allS (P := fun x => _ ∨ _) (Or.inl (by simp)) all0)
          replace MT := MT.mv C11
          replace MS := MS.mv C11
          replace B := B.keep K11 (ninS (Ne.symm nts) nin0)
          have A := Vn11
          clear Vn11
          have A : Arv Z h tl kt .char 6 (((t ++ [32]) ++ [low c]).map cv ++ List.replicate (6 - ((t ++ [32]) ++ [low c]).length) (.int 0)) (.int 0) := by have q := A; rw [show nar .char (c ||| 32).toUInt32.toUInt16.toUInt32.toInt32 = low c from hlw.nar, tset (by omega)] at q; exact q
          refine s_aload_n (pc' := 62) W d_method_4_61 rfl rfl rfl ?_
          refine s_iconst (pc' := 63) W (0 : Int32) d_method_4_62 rfl rfl ?_
          refine s_aload_n (pc' := 64) W d_method_4_63 rfl rfl rfl ?_
          refine s_iconst (pc' := 65) W (0 : Int32) d_method_4_64 rfl rfl ?_
          refine s_iaload (pc' := 66) W (.int (Int32.ofNat ((t ++ [32])).length)) B (by decide) (by decide) rfl d_method_4_65 rfl ?_
          refine s_iconst (pc' := 67) W (1 : Int32) d_method_4_66 rfl rfl ?_
          refine s_iadd (pc' := 68) W d_method_4_67 rfl ?_
          rw [show Int32.ofNat ((t ++ [32]) : List Int32).length + (1 : Int32) = Int32.ofNat (((t ++ [32]) : List Int32).length + 1) from n_add ((t ++ [32]) : List Int32).length 1]
          refine s_iastore (pc' := 69) W 0 B MS rfl (by decide) (by decide) (bt rfl) d_method_4_68 rfl ?_
          intro T h W K12 C12 Vn12
          replace Kt := Kt.trans K12 (allS (P := fun x => _ ∨ _) (Or.inl (by simp)) all0)
          replace MT := MT.mv C12
          replace MS := MS.mv C12
          replace A := A.keep K12 (ninS nts nin0)
          have B := Vn12
          clear Vn12
          refine s_aload_n (pc' := 70) W d_method_4_69 rfl rfl rfl ?_
          refine s_iconst (pc' := 71) W (1 : Int32) d_method_4_70 rfl rfl ?_
          refine s_iload_n (pc' := 72) W d_method_4_71 rfl rfl ?_
          refine s_iastore (pc' := 73) W 1 B MS rfl (by decide) (by decide) (bt rfl) d_method_4_72 rfl ?_
          intro T h W K13 C13 Vn13
          replace Kt := Kt.trans K13 (allS (P := fun x => _ ∨ _) (Or.inl (by simp)) all0)
          replace MT := MT.mv C13
          replace MS := MS.mv C13
          replace A := A.keep K13 (ninS nts nin0)
          have B := Vn13
          clear Vn13
          refine s_ret W rfl d_method_4_73 (bl rfl) (bl rfl) ?_
          intro vm' C'
          exact ⟨rfl, Kt, by rw [stp, if_neg h32, if_pos hlt]; rw [if_pos (show gp (some (g + 1)) = true from rfl)]; exact ⟨A, by rw [last_0, List.length_append]; exact B, by simp at hlen ⊢ <;> omega, fun c hc => (List.mem_append.mp hc).elim (fun q => (List.mem_append.mp q).elim (hL c) (fun q => by cases List.mem_singleton.mp q; exact ⟨by decide, by decide⟩)) (fun q => by cases List.mem_singleton.mp q; exact hlw)⟩⟩
    · have hnl : ¬ letter c = true := fun q => by rw [if_pos q] at hl; exact absurd hl (by decide)
      refine s_aload_n (pc' := 15) W d_method_4_14 rfl rfl rfl ?_
      refine s_iconst (pc' := 16) W (2 : Int32) d_method_4_15 rfl rfl ?_
      refine s_iconst (pc' := 17) W (1 : Int32) d_method_4_16 rfl rfl ?_
      refine s_iastore (pc' := 18) W 2 B MS rfl (by decide) (by decide) (bt rfl) d_method_4_17 rfl ?_
      intro T h W K2 C2 Vn2
      replace Kt := Kt.trans K2 (allS (P := fun x => _ ∨ _) (Or.inl (by simp)) all0)
      replace A := A.keep K2 (ninS nts nin0)
      replace MT := MT.mv C2
      replace MS := MS.mv C2
      have B := Vn2
      clear Vn2
      refine s_ret W rfl d_method_4_18 (bl rfl) (bl rfl) ?_
      intro vm' C'
      exact ⟨rfl, Kt, by rw [stp, if_neg h32, if_neg hnl]; exact ⟨A, by rw [last_up]; exact B, by cases g <;> simp at hlen ⊢ <;> omega, hL⟩⟩
  · refine s_ret W rfl d_method_4_6 (bl rfl) (bl rfl) ?_
    intro vm' C'
    exact ⟨rfl, Kt, by rw [stp, if_pos h32]; exact ⟨A, by rw [last_up]; exact B, by cases g <;> simp at hlen ⊢ <;> omega, hL⟩⟩
set_option maxRecDepth 65536 in
set_option maxHeartbeats 40000000 in
theorem ef_at (m : MethodId) (x0 : Addr) (x1 : Addr) (x2 : Int32) (x3 : Int32) (x4 : Int32) : entryFrame m #[(.ref x0), (.ref x1), (.int x2), (.int x3), (.int x4)] 5 = mkF m 0 #[.val (.ref x0), .val (.ref x1), .val (.int x2), .val (.int x3), .val (.int x4)] [] := by first | (simp [entryFrame, mkF, argsToLocals, Value.category]; done) | rfl
set_option maxRecDepth 65536 in
set_option maxHeartbeats 40000000 in
theorem c_at (l : Launch) {Z : State} {a0 : Array Value} (hw : Hw Z a0) {n0 : Nat} {h : Heap} (O : Old Z n0 h) (CS0 : CS Z) (FM : Fmt Z) {a b tl : Nat} {kb kt : ClassId} {B t : List Int32} {kk : Nat} (hkk : kk ≤ 5) (ht6 : t.length ≤ 6) (hB : B.length ≤ 45) (F : LatB Z h a b kb (B ++ t)) (A : Arv Z h tl kt .char 6 (t.map cv ++ List.replicate (6 - t.length) (.int 0)) (.int 0)) :
    Con l Z EL1 n0 (⟨"com/example/udfyld/udfyld/NormaliserQueryPinLaw", "at", "(Ljava/lang/String;[CIII)Z"⟩ : MethodName) method_5_code 5 (some .boolean) [] ({ frames := 4, cells := 0, slots := 0, locals := 53 } : Room) #[(.ref a), (.ref tl), (.int (Int32.ofNat B.length)), (.int (Int32.ofNat t.length)), (.int (Int32.ofNat kk))] h [] (fun v vm' h' => v = some (.int 1) ∧ h = h') := by
  refine Con.of pn42 O (el hw) ?_
  intro pg_ e s m below meth cd_ T W hs_ hSf
  rw [ef_at]
  refine s_iload (pc' := 2) W d_method_5_0 rfl rfl ?_
  refine s_iload_n (pc' := 3) W d_method_5_2 rfl rfl ?_
  refine s_icmpge (pc' := 6) (pcT := 21) W d_method_5_3 (by decide) rfl rfl (fun hk => ?_) (fun hk => ?_)
  · refine s_iconst (pc' := 22) W (1 : Int32) d_method_5_21 rfl rfl ?_
    refine s_goto (pc' := 26) W d_method_5_22 (by decide) rfl ?_
    refine s_nreturn W (t := .boolean) rfl (by simp) d_method_5_26 (bl rfl) (bl rfl) ?_
    intro vm' C'
    exact ⟨rfl, rfl⟩
  · have hkt : kk < t.length := by rcases Nat.lt_or_ge kk t.length with q | q; exact q; exact absurd hk (n_ge q (by omega))
    refine s_aload_n (pc' := 7) W d_method_5_6 rfl rfl rfl ?_
    refine s_iload_n (pc' := 8) W d_method_5_7 rfl rfl ?_
    refine s_iload (pc' := 10) W d_method_5_8 rfl rfl ?_
    refine s_iadd (pc' := 11) W d_method_5_10 rfl ?_
    rw [n_add]
    refine s_virt (pc' := 14) W (C0 := "java/lang/String") (w211 hw) (w81 hw) (w83 hw) (w82 hw) (w7 hw) (w84 hw) (notFace_of_selects (args := a0) (w83 hw)) (by decide) pd20 [(.int (Int32.ofNat (B.length + kk)))] rfl F.1 (c_charatL l hw W.old CS0 FM F (i := B.length + kk) (by rw [List.length_append]; omega)) all0 rfl d_method_5_11 0 (le rfl) (bl rfl) (bl rfl) (bl rfl) (bl rfl) rfl ?_
    rintro _ T vm _ W C1 ⟨rfl, rfl⟩
    rw [show (B ++ t).getD (B.length + kk) 0 = t.getD kk 0 from by have := mid_getD (A := B) (B := t) (C := []) hkt; rw [List.append_nil] at this; exact this]
    refine s_aload_n (pc' := 15) W d_method_5_14 rfl rfl rfl ?_
    refine s_iload (pc' := 17) W d_method_5_15 rfl rfl ?_
    refine s_caload (pc' := 18) W (.int (t.getD kk 0)) A (n_nn (by omega)) (n_lt (n := 6) (by omega) (by decide)) (by rw [n_clamp (by omega), List.getD_eq_getElem?_getD, List.getElem?_append_left (by simpa using hkt), ← List.getD_eq_getElem?_getD]; exact cv_getD t kk) d_method_5_17 rfl ?_
    refine s_icmpne (pc' := 21) (pcT := 25) W d_method_5_18 (by decide) rfl rfl (fun hq => absurd (rfl : t.getD kk 0 = t.getD kk 0) hq) (fun _ => ?_)
    refine s_iconst (pc' := 22) W (1 : Int32) d_method_5_21 rfl rfl ?_
    refine s_goto (pc' := 26) W d_method_5_22 (by decide) rfl ?_
    refine s_nreturn W (t := .boolean) rfl (by simp) d_method_5_26 (bl rfl) (bl rfl) ?_
    intro vm' C'
    exact ⟨rfl, rfl⟩
set_option maxRecDepth 65536 in
set_option maxHeartbeats 40000000 in
theorem lp_rest0 {p : Program} {l : Launch} {e : Env} {s : State} {m : MethodId} {args : Array Value} {below : List Frame} {meth : Method} {c : Code} {Z : State} {a0 : Array Value} (hw : Hw Z a0) {n0 : Nat} (CS0 : CS Z) (FM : Fmt Z) (OE0 : OE Z) {p0 p1 p2 d0 d1 d2 d3 d4 d5 : Int32} {r sr b_s : Nat} {k_r kb_s : ClassId} (hd0 : L1 d0) (hd1 : L1 d1) (hd2 : L1 d2) (hd3 : L1 d3) (hd4 : L1 d4) (hd5 : L1 d5) {h : Heap} (V_r : Arv Z h r k_r .char (6 : Int32) [.int d0, .int d1, .int d2, .int d3, .int d4, .int d5] (.int 0)) (Ls : LatB Z h sr b_s kb_s [d0, d1, d2, d3, d4, d5]) {T : State} {vm : Vm} (W : Wk p l e room_1 s m args below meth c Z a0 EL1 n0 x.cls x.name code maxLocals ret T vm h 3 16) : Go p e below s room_1 Z EL1 n0 (fun v vm' h' => v = some (.int 1)) (T.setTop (mkF m 421 #[iv p0, iv p1, iv p2, iv (0 : Int32), rv r, rv sr, .unset, .unset, .unset, .unset, .unset, .unset, .unset, .unset] [(.int (6 : Int32))])) := by
  refine s_newarr (pc' := 423) W (aty := .char) 6 "[C" (by decide) (w0 hw) at_421 (by decide) (by decide) (by decide) (by decide) (by decide) rfl ?_
  intro tl T h k_tl g_tl
  have ne_r_tl : @Ne Nat r tl := by have := nlt V_r.lt; omega
  have ne_sr_tl : @Ne Nat sr tl := by have := nlt Ls.lt; omega
  have ne_b_s_tl : @Ne Nat b_s tl := by have := nlt Ls.ltb; omega
  intro W K1 C1 M_tl V_tl X_tl
  replace V_r := V_r.keep K1 nin0
  replace Ls := Ls.keep K1 nin0 nin0
  have V_tl : Arv Z _ tl k_tl .char (6 : Int32) [.int 0, .int 0, .int 0, .int 0, .int 0, .int 0] (.int 0) := V_tl
  refine s_astore (pc' := 425) W #[iv p0, iv p1, iv p2, iv (0 : Int32), rv r, rv sr, rv tl, .unset, .unset, .unset, .unset, .unset, .unset, .unset] at_423 rfl rfl rfl ?_
  refine s_iconst (pc' := 426) W (3 : Int32) at_425 rfl rfl ?_
  refine s_newarr (pc' := 428) W (aty := .int) 3 "[I" (by decide) (w34 hw) at_426 (by decide) (by decide) (by decide) (by decide) (by decide) rfl ?_
  intro st T h k_st g_st
  have ne_r_st : @Ne Nat r st := by have := nlt V_r.lt; omega
  have ne_sr_st : @Ne Nat sr st := by have := nlt Ls.lt; omega
  have ne_b_s_st : @Ne Nat b_s st := by have := nlt Ls.ltb; omega
  have ne_tl_st : @Ne Nat tl st := by have := nlt V_tl.lt; omega
  intro W K2 C2 M_st V_st X_st
  replace V_r := V_r.keep K2 nin0
  replace Ls := Ls.keep K2 nin0 nin0
  replace V_tl := V_tl.keep K2 nin0
  replace M_tl := M_tl.mv C2
  replace X_tl := X_tl.keep K2
  have V_st : Arv Z _ st k_st .int (3 : Int32) [.int 0, .int 0, .int 0] (.int 0) := V_st
  refine s_dup (pc' := 429) W at_428 rfl rfl ?_
  refine s_iconst (pc' := 430) W (0 : Int32) at_429 rfl rfl ?_
  refine s_iconst (pc' := 431) W (0 : Int32) at_430 rfl rfl ?_
  refine s_iastore (pc' := 432) W 0 V_st M_st rfl (by decide) (by decide) (bt rfl) at_431 rfl ?_
  intro T h W K3 C3 Vn3
  replace V_r := V_r.keep K3 (ninS ne_r_st nin0)
  replace Ls := Ls.keep K3 (ninS ne_sr_st nin0) (ninS ne_b_s_st nin0)
  replace V_tl := V_tl.keep K3 (ninS ne_tl_st nin0)
  replace M_tl := M_tl.mv C3
  replace X_tl := X_tl.keep K3
  replace M_st := M_st.mv C3
  replace X_st := X_st.keep K3
  have V_st := Vn3
  clear Vn3
  have V_st : Arv Z _ st k_st .int (3 : Int32) [.int 0, .int 0, .int 0] (.int 0) := V_st
  refine s_dup (pc' := 433) W at_432 rfl rfl ?_
  refine s_iconst (pc' := 434) W (1 : Int32) at_433 rfl rfl ?_
  refine s_iload_n (pc' := 435) W at_434 rfl rfl ?_
  refine s_ifeq (pc' := 438) (pcT := 442) W at_435 (by decide) rfl rfl (fun _ => ?_) (fun hq => absurd (by decide) hq)
  refine s_bipush (pc' := 444) W (-100 : Int32) at_442 rfl rfl ?_
  refine s_iastore (pc' := 445) W 1 V_st M_st rfl (by decide) (by decide) (bt rfl) at_444 rfl ?_
  intro T h W K4 C4 Vn4
  replace V_r := V_r.keep K4 (ninS ne_r_st nin0)
  replace Ls := Ls.keep K4 (ninS ne_sr_st nin0) (ninS ne_b_s_st nin0)
  replace V_tl := V_tl.keep K4 (ninS ne_tl_st nin0)
  replace M_tl := M_tl.mv C4
  replace X_tl := X_tl.keep K4
  replace M_st := M_st.mv C4
  replace X_st := X_st.keep K4
  have V_st := Vn4
  clear Vn4
  have V_st : Arv Z _ st k_st .int (3 : Int32) [.int 0, .int (-100), .int 0] (.int 0) := V_st
  refine s_dup (pc' := 446) W at_445 rfl rfl ?_
  refine s_iconst (pc' := 447) W (2 : Int32) at_446 rfl rfl ?_
  refine s_iconst (pc' := 448) W (0 : Int32) at_447 rfl rfl ?_
  refine s_iastore (pc' := 449) W 2 V_st M_st rfl (by decide) (by decide) (bt rfl) at_448 rfl ?_
  intro T h W K5 C5 Vn5
  replace V_r := V_r.keep K5 (ninS ne_r_st nin0)
  replace Ls := Ls.keep K5 (ninS ne_sr_st nin0) (ninS ne_b_s_st nin0)
  replace V_tl := V_tl.keep K5 (ninS ne_tl_st nin0)
  replace M_tl := M_tl.mv C5
  replace X_tl := X_tl.keep K5
  replace M_st := M_st.mv C5
  replace X_st := X_st.keep K5
  have V_st := Vn5
  clear Vn5
  have V_st : Arv Z _ st k_st .int (3 : Int32) [.int 0, .int (-100), .int 0] (.int 0) := V_st
  have HT : TA Z h tl st k_tl k_st 0 [] none false := ⟨V_tl, V_st, by simp, fun c hc => by simp at hc⟩
  have nts : tl ≠ st := ne_tl_st
  obtain ⟨σ0, hσ0⟩ : ∃ σ : List Int32 × Option Nat × Bool, σ = ([], none, false) := ⟨_, rfl⟩
  have HT : TA Z h tl st k_tl k_st 0 σ0.1 σ0.2.1 σ0.2.2 := by rw [hσ0]; exact HT
  refine s_astore (pc' := 451) W #[iv p0, iv p1, iv p2, iv (0 : Int32), rv r, rv sr, rv tl, rv st, .unset, .unset, .unset, .unset, .unset, .unset] at_449 rfl rfl rfl ?_
  refine s_aload (pc' := 453) W at_451 rfl rfl rfl ?_
  refine s_aload (pc' := 455) W at_453 rfl rfl rfl ?_
  refine s_aload (pc' := 457) W at_455 rfl rfl rfl ?_
  refine s_iconst (pc' := 458) W (0 : Int32) at_457 rfl rfl ?_
  refine s_caload (pc' := 459) W (.int d0) V_r (by decide) (by decide) rfl at_458 rfl ?_
  refine s_iconst (pc' := 460) W (0 : Int32) at_459 rfl rfl ?_
  refine s_static (pc' := 463) W (w35 hw) (w36 hw) (w3 hw) (w37 hw) (by decide) pd28 [(.ref tl), (.ref st), (.int d0), (.int (0 : Int32))] rfl (c_step l hw W.old (pos := 0) hd0 (by decide) HT nts M_tl.1 M_st.1) (allS ⟨M_tl.2.1, M_tl.2.2⟩ (allS ⟨M_st.2.1, M_st.2.2⟩ all0)) rfl at_460 0 (le rfl) (bl rfl) (bl rfl) (by decide) (by decide) rfl ?_
  rintro _ T vm h W C6 ⟨rfl, K6, HT⟩
  replace V_r := V_r.keep K6 (ninS ne_r_tl (ninS ne_r_st nin0))
  replace Ls := Ls.keep K6 (ninS ne_sr_tl (ninS ne_sr_st nin0)) (ninS ne_b_s_tl (ninS ne_b_s_st nin0))
  replace M_tl := M_tl.mv C6
  replace M_st := M_st.mv C6
  obtain ⟨σ1, hσ1⟩ : ∃ σ, σ = stp d0 σ0 := ⟨_, rfl⟩
  have HT : TA Z h tl st k_tl k_st 1 σ1.1 σ1.2.1 σ1.2.2 := by rw [hσ1]; exact HT
  refine s_aload (pc' := 465) W at_463 rfl rfl rfl ?_
  refine s_aload (pc' := 467) W at_465 rfl rfl rfl ?_
  refine s_aload (pc' := 469) W at_467 rfl rfl rfl ?_
  refine s_iconst (pc' := 470) W (1 : Int32) at_469 rfl rfl ?_
  refine s_caload (pc' := 471) W (.int d1) V_r (by decide) (by decide) rfl at_470 rfl ?_
  refine s_iconst (pc' := 472) W (1 : Int32) at_471 rfl rfl ?_
  refine s_static (pc' := 475) W (w35 hw) (w36 hw) (w3 hw) (w37 hw) (by decide) pd28 [(.ref tl), (.ref st), (.int d1), (.int (1 : Int32))] rfl (c_step l hw W.old (pos := 1) hd1 (by decide) HT nts M_tl.1 M_st.1) (allS ⟨M_tl.2.1, M_tl.2.2⟩ (allS ⟨M_st.2.1, M_st.2.2⟩ all0)) rfl at_472 0 (le rfl) (bl rfl) (bl rfl) (by decide) (by decide) rfl ?_
  rintro _ T vm h W C7 ⟨rfl, K7, HT⟩
  replace V_r := V_r.keep K7 (ninS ne_r_tl (ninS ne_r_st nin0))
  replace Ls := Ls.keep K7 (ninS ne_sr_tl (ninS ne_sr_st nin0)) (ninS ne_b_s_tl (ninS ne_b_s_st nin0))
  replace M_tl := M_tl.mv C7
  replace M_st := M_st.mv C7
  obtain ⟨σ2, hσ2⟩ : ∃ σ, σ = stp d1 σ1 := ⟨_, rfl⟩
  have HT : TA Z h tl st k_tl k_st 2 σ2.1 σ2.2.1 σ2.2.2 := by rw [hσ2]; exact HT
  refine s_aload (pc' := 477) W at_475 rfl rfl rfl ?_
  refine s_aload (pc' := 479) W at_477 rfl rfl rfl ?_
  refine s_aload (pc' := 481) W at_479 rfl rfl rfl ?_
  refine s_iconst (pc' := 482) W (2 : Int32) at_481 rfl rfl ?_
  refine s_caload (pc' := 483) W (.int d2) V_r (by decide) (by decide) rfl at_482 rfl ?_
  refine s_iconst (pc' := 484) W (2 : Int32) at_483 rfl rfl ?_
  refine s_static (pc' := 487) W (w35 hw) (w36 hw) (w3 hw) (w37 hw) (by decide) pd28 [(.ref tl), (.ref st), (.int d2), (.int (2 : Int32))] rfl (c_step l hw W.old (pos := 2) hd2 (by decide) HT nts M_tl.1 M_st.1) (allS ⟨M_tl.2.1, M_tl.2.2⟩ (allS ⟨M_st.2.1, M_st.2.2⟩ all0)) rfl at_484 0 (le rfl) (bl rfl) (bl rfl) (by decide) (by decide) rfl ?_
  rintro _ T vm h W C8 ⟨rfl, K8, HT⟩
  replace V_r := V_r.keep K8 (ninS ne_r_tl (ninS ne_r_st nin0))
  replace Ls := Ls.keep K8 (ninS ne_sr_tl (ninS ne_sr_st nin0)) (ninS ne_b_s_tl (ninS ne_b_s_st nin0))
  replace M_tl := M_tl.mv C8
  replace M_st := M_st.mv C8
  obtain ⟨σ3, hσ3⟩ : ∃ σ, σ = stp d2 σ2 := ⟨_, rfl⟩
  have HT : TA Z h tl st k_tl k_st 3 σ3.1 σ3.2.1 σ3.2.2 := by rw [hσ3]; exact HT
  refine s_aload (pc' := 489) W at_487 rfl rfl rfl ?_
  refine s_aload (pc' := 491) W at_489 rfl rfl rfl ?_
  refine s_aload (pc' := 493) W at_491 rfl rfl rfl ?_
  refine s_iconst (pc' := 494) W (3 : Int32) at_493 rfl rfl ?_
  refine s_caload (pc' := 495) W (.int d3) V_r (by decide) (by decide) rfl at_494 rfl ?_
  refine s_iconst (pc' := 496) W (3 : Int32) at_495 rfl rfl ?_
  refine s_static (pc' := 499) W (w35 hw) (w36 hw) (w3 hw) (w37 hw) (by decide) pd28 [(.ref tl), (.ref st), (.int d3), (.int (3 : Int32))] rfl (c_step l hw W.old (pos := 3) hd3 (by decide) HT nts M_tl.1 M_st.1) (allS ⟨M_tl.2.1, M_tl.2.2⟩ (allS ⟨M_st.2.1, M_st.2.2⟩ all0)) rfl at_496 0 (le rfl) (bl rfl) (bl rfl) (by decide) (by decide) rfl ?_
  rintro _ T vm h W C9 ⟨rfl, K9, HT⟩
  replace V_r := V_r.keep K9 (ninS ne_r_tl (ninS ne_r_st nin0))
  replace Ls := Ls.keep K9 (ninS ne_sr_tl (ninS ne_sr_st nin0)) (ninS ne_b_s_tl (ninS ne_b_s_st nin0))
  replace M_tl := M_tl.mv C9
  replace M_st := M_st.mv C9
  obtain ⟨σ4, hσ4⟩ : ∃ σ, σ = stp d3 σ3 := ⟨_, rfl⟩
  have HT : TA Z h tl st k_tl k_st 4 σ4.1 σ4.2.1 σ4.2.2 := by rw [hσ4]; exact HT
  refine s_aload (pc' := 501) W at_499 rfl rfl rfl ?_
  refine s_aload (pc' := 503) W at_501 rfl rfl rfl ?_
  refine s_aload (pc' := 505) W at_503 rfl rfl rfl ?_
  refine s_iconst (pc' := 506) W (4 : Int32) at_505 rfl rfl ?_
  refine s_caload (pc' := 507) W (.int d4) V_r (by decide) (by decide) rfl at_506 rfl ?_
  refine s_iconst (pc' := 508) W (4 : Int32) at_507 rfl rfl ?_
  refine s_static (pc' := 511) W (w35 hw) (w36 hw) (w3 hw) (w37 hw) (by decide) pd28 [(.ref tl), (.ref st), (.int d4), (.int (4 : Int32))] rfl (c_step l hw W.old (pos := 4) hd4 (by decide) HT nts M_tl.1 M_st.1) (allS ⟨M_tl.2.1, M_tl.2.2⟩ (allS ⟨M_st.2.1, M_st.2.2⟩ all0)) rfl at_508 0 (le rfl) (bl rfl) (bl rfl) (by decide) (by decide) rfl ?_
  rintro _ T vm h W C10 ⟨rfl, K10, HT⟩
  replace V_r := V_r.keep K10 (ninS ne_r_tl (ninS ne_r_st nin0))
  replace Ls := Ls.keep K10 (ninS ne_sr_tl (ninS ne_sr_st nin0)) (ninS ne_b_s_tl (ninS ne_b_s_st nin0))
  replace M_tl := M_tl.mv C10
  replace M_st := M_st.mv C10
  obtain ⟨σ5, hσ5⟩ : ∃ σ, σ = stp d4 σ4 := ⟨_, rfl⟩
  have HT : TA Z h tl st k_tl k_st 5 σ5.1 σ5.2.1 σ5.2.2 := by rw [hσ5]; exact HT
  refine s_aload (pc' := 513) W at_511 rfl rfl rfl ?_
  refine s_aload (pc' := 515) W at_513 rfl rfl rfl ?_
  refine s_aload (pc' := 517) W at_515 rfl rfl rfl ?_
  refine s_iconst (pc' := 518) W (5 : Int32) at_517 rfl rfl ?_
  refine s_caload (pc' := 519) W (.int d5) V_r (by decide) (by decide) rfl at_518 rfl ?_
  refine s_iconst (pc' := 520) W (5 : Int32) at_519 rfl rfl ?_
  refine s_static (pc' := 523) W (w35 hw) (w36 hw) (w3 hw) (w37 hw) (by decide) pd28 [(.ref tl), (.ref st), (.int d5), (.int (5 : Int32))] rfl (c_step l hw W.old (pos := 5) hd5 (by decide) HT nts M_tl.1 M_st.1) (allS ⟨M_tl.2.1, M_tl.2.2⟩ (allS ⟨M_st.2.1, M_st.2.2⟩ all0)) rfl at_520 0 (le rfl) (bl rfl) (bl rfl) (by decide) (by decide) rfl ?_
  rintro _ T vm h W C11 ⟨rfl, K11, HT⟩
  replace V_r := V_r.keep K11 (ninS ne_r_tl (ninS ne_r_st nin0))
  replace Ls := Ls.keep K11 (ninS ne_sr_tl (ninS ne_sr_st nin0)) (ninS ne_b_s_tl (ninS ne_b_s_st nin0))
  replace M_tl := M_tl.mv C11
  replace M_st := M_st.mv C11
  obtain ⟨σ6, hσ6⟩ : ∃ σ, σ = stp d5 σ5 := ⟨_, rfl⟩
  have HT : TA Z h tl st k_tl k_st 6 σ6.1 σ6.2.1 σ6.2.2 := by rw [hσ6]; exact HT
  obtain ⟨A, B, hl6, hLt⟩ := HT
  have ht6 : σ6.1.length ≤ 6 := by omega
  have hf : [d0, d1, d2, d3, d4, d5].foldl (fun σ c => stp c σ) ([], none, false) = σ6 := by rw [hσ6, hσ5, hσ4, hσ3, hσ2, hσ1, hσ0]; rfl
  have hn0 : nrm [d0, d1, d2, d3, d4, d5] (([] : List Int32) ++ []) (gp none) = if σ6.2.2 = true ∨ 50 < ([] : List Int32).length + σ6.1.length then none else some (([] : List Int32) ++ σ6.1) := by rw [nrm_eq ([] : List Int32) _ [] none (by decide) (by decide), hf]
  have hnr : nrm [d0, d1, d2, d3, d4, d5] [] false = if σ6.2.2 = true ∨ 50 < 0 + σ6.1.length then none else some (([] : List Int32) ++ σ6.1) := by simpa [gp] using hn0
  refine s_iload_n (pc' := 524) W at_523 rfl rfl ?_
  refine s_ifeq (pc' := 527) (pcT := 532) W at_524 (by decide) rfl rfl (fun _ => ?_) (fun hq => absurd (by decide) hq)
  refine s_iconst (pc' := 533) W (0 : Int32) at_532 rfl rfl ?_
  refine s_istore (pc' := 535) W #[iv p0, iv p1, iv p2, iv (0 : Int32), rv r, rv sr, rv tl, rv st, iv (0 : Int32), .unset, .unset, .unset, .unset, .unset] at_533 rfl rfl ?_
  refine s_iload (pc' := 537) W at_535 rfl rfl ?_
  refine s_aload (pc' := 539) W at_537 rfl rfl rfl ?_
  refine s_iconst (pc' := 540) W (0 : Int32) at_539 rfl rfl ?_
  refine s_iaload (pc' := 541) W (.int (Int32.ofNat σ6.1.length)) B (by decide) (by decide) rfl at_540 rfl ?_
  refine s_iadd (pc' := 542) W at_541 rfl ?_
  rw [show (0 : Int32) + Int32.ofNat σ6.1.length = Int32.ofNat (0 + σ6.1.length) from n_add 0 _]
  refine s_istore (pc' := 544) W #[iv p0, iv p1, iv p2, iv (0 : Int32), rv r, rv sr, rv tl, rv st, iv (0 : Int32), iv (Int32.ofNat (0 + σ6.1.length)), .unset, .unset, .unset, .unset] at_542 rfl rfl ?_
  refine s_aload (pc' := 546) W at_544 rfl rfl rfl ?_
  refine s_static (pc' := 549) W (w41 hw) (w42 hw) (w43 hw) (w44 hw) (by decide) pd29 [(.ref sr)] rfl (c_query l hw W.old CS0 FM OE0 (by simp) Ls) all0 rfl at_546 0 (le rfl) (bl rfl) (bl rfl) (by decide) (by decide) rfl ?_
  rintro _ T vm h W C12 ⟨o, rfl, K12, Eo, HO⟩
  replace Ls := Ls.keep K12 nin0 nin0
  replace A := A.keep K12 nin0
  replace B := B.keep K12 nin0
  rw [hnr] at HO
  refine s_astore (pc' := 551) W #[iv p0, iv p1, iv p2, iv (0 : Int32), rv r, rv sr, rv tl, rv st, iv (0 : Int32), iv (Int32.ofNat (0 + σ6.1.length)), rv o, .unset, .unset, .unset] at_549 rfl rfl rfl ?_
  refine s_aload (pc' := 553) W at_551 rfl rfl rfl ?_
  refine s_iconst (pc' := 554) W (2 : Int32) at_553 rfl rfl ?_
  refine s_iaload (pc' := 555) W (.int (if σ6.2.2 = true then (1 : Int32) else 0)) B (by decide) (by decide) rfl at_554 rfl ?_
  refine s_iconst (pc' := 556) W (1 : Int32) at_555 rfl rfl ?_
  refine s_icmpeq (pc' := 559) (pcT := 571) W at_556 (by decide) rfl rfl (fun hbad => ?_) (fun hbad => ?_)
  · have hb : σ6.2.2 = true := Decidable.byContradiction fun q => by rw [if_neg q] at hbad; exact absurd hbad (by decide)
    rw [if_pos (Or.inl hb)] at HO
    have Fo : Fld Z h o "java/util/Optional" "value" "Ljava/lang/Object;" .null := by rcases HO with HO | ⟨o1, t1, c1, k1, q, q2, -⟩; exact HO.2; cases q
    refine s_iconst (pc' := 572) W (1 : Int32) at_571 rfl rfl ?_
    refine s_goto (pc' := 576) W at_572 (by decide) rfl ?_
    refine s_istore (pc' := 578) W #[iv p0, iv p1, iv p2, iv (0 : Int32), rv r, rv sr, rv tl, rv st, iv (0 : Int32), iv (Int32.ofNat (0 + σ6.1.length)), rv o, iv (1 : Int32), .unset, .unset] at_576 rfl rfl ?_
    refine s_iload (pc' := 580) W at_578 rfl rfl ?_
    refine s_ifeq (pc' := 583) (pcT := 597) W at_580 (by decide) rfl rfl (fun hq => absurd hq (by decide)) (fun _ => ?_)
    refine s_aload (pc' := 585) W at_583 rfl rfl rfl ?_
    refine s_virt (pc' := 588) W (C0 := "java/util/Optional") (w119 hw) (w120 hw) (w122 hw) (w121 hw) (w116 hw) (w123 hw) (notFace_of_selects (args := a0) (w122 hw)) (by decide) pd7 [] rfl Eo (c_opresN l hw W.old Fo) all0 rfl at_585 0 (le rfl) (bl rfl) (bl rfl) (by decide) (by decide) rfl ?_
    rintro _ T vm _ W C13 ⟨rfl, rfl⟩
    refine s_ifne (pc' := 591) (pcT := 595) W at_588 (by decide) rfl rfl (fun hq => absurd (by decide) hq) (fun _ => ?_)
    refine s_iconst (pc' := 592) W (1 : Int32) at_591 rfl rfl ?_
    refine s_goto (pc' := 596) W at_592 (by decide) rfl ?_
    refine s_nreturn W (t := .boolean) rfl (by simp) at_596 (by decide) (by decide) ?_
    intro vm' C'
    exact rfl
  · have hb : ¬ σ6.2.2 = true := fun q => hbad (if_pos q)
    refine s_iload (pc' := 561) W at_559 rfl rfl ?_
    refine s_ifeq (pc' := 564) (pcT := 571) W at_561 (by decide) rfl rfl (fun htot => ?_) (fun htot => ?_)
    · have h0 : 0 + σ6.1.length = 0 := n_inj (j := 0) (by omega) (by decide) htot
      have hnil : σ6.1 = [] := List.eq_nil_of_length_eq_zero (by omega)
      rw [if_neg (by rw [hnil]; simp only [List.length_nil]; intro q; rcases q with q | q; exact hb q; omega), hnil] at HO
      have Fo : Fld Z h o "java/util/Optional" "value" "Ljava/lang/Object;" .null := by rcases HO with HO | ⟨o1, t1, c1, k1, q, q2, -⟩; exact HO.2; exact absurd (Option.some.inj q).symm q2
      refine s_iconst (pc' := 572) W (1 : Int32) at_571 rfl rfl ?_
      refine s_goto (pc' := 576) W at_572 (by decide) rfl ?_
      refine s_istore (pc' := 578) W #[iv p0, iv p1, iv p2, iv (0 : Int32), rv r, rv sr, rv tl, rv st, iv (0 : Int32), iv (Int32.ofNat (0 + σ6.1.length)), rv o, iv (1 : Int32), .unset, .unset] at_576 rfl rfl ?_
      refine s_iload (pc' := 580) W at_578 rfl rfl ?_
      refine s_ifeq (pc' := 583) (pcT := 597) W at_580 (by decide) rfl rfl (fun hq => absurd hq (by decide)) (fun _ => ?_)
      refine s_aload (pc' := 585) W at_583 rfl rfl rfl ?_
      refine s_virt (pc' := 588) W (C0 := "java/util/Optional") (w119 hw) (w120 hw) (w122 hw) (w121 hw) (w116 hw) (w123 hw) (notFace_of_selects (args := a0) (w122 hw)) (by decide) pd7 [] rfl Eo (c_opresN l hw W.old Fo) all0 rfl at_585 0 (le rfl) (bl rfl) (bl rfl) (by decide) (by decide) rfl ?_
      rintro _ T vm _ W C14 ⟨rfl, rfl⟩
      refine s_ifne (pc' := 591) (pcT := 595) W at_588 (by decide) rfl rfl (fun hq => absurd (by decide) hq) (fun _ => ?_)
      refine s_iconst (pc' := 592) W (1 : Int32) at_591 rfl rfl ?_
      refine s_goto (pc' := 596) W at_592 (by decide) rfl ?_
      refine s_nreturn W (t := .boolean) rfl (by simp) at_596 (by decide) (by decide) ?_
      intro vm' C'
      exact rfl
    · refine s_iload (pc' := 566) W at_564 rfl rfl ?_
      refine s_bipush (pc' := 568) W (50 : Int32) at_566 rfl rfl ?_
      refine s_icmple (pc' := 571) (pcT := 575) W at_568 (by decide) rfl rfl (fun h50 => ?_) (fun h50 => ?_)
      · have h5 : ¬ 50 < 0 + σ6.1.length := fun q => h50 (n_lt (i := 50) q (by omega))
        have hne : ¬ 0 + σ6.1.length = 0 := fun q => htot (by rw [q]; rfl)
        rw [if_neg (by intro q; rcases q with q | q; exact hb q; exact h5 q)] at HO
        obtain ⟨t1, c1, k1, Fo, L1_⟩ : ∃ t1 c1 k1, Fld Z h o "java/util/Optional" "value" "Ljava/lang/Object;" (.ref t1) ∧ LatB Z h t1 c1 k1 (([] : List Int32) ++ σ6.1) := by
          rcases HO with ⟨q | q, -⟩ | ⟨o1, t1, c1, k1, q, -, Fo, Lo⟩
          · cases q
          · have := congrArg List.length (Option.some.inj q); rw [List.length_append] at this; simp only [List.length_nil, List.length_replicate] at this; omega
          · cases Option.some.inj q; exact ⟨t1, c1, k1, Fo, Lo⟩
        refine s_iconst (pc' := 576) W (0 : Int32) at_575 rfl rfl ?_
        refine s_istore (pc' := 578) W #[iv p0, iv p1, iv p2, iv (0 : Int32), rv r, rv sr, rv tl, rv st, iv (0 : Int32), iv (Int32.ofNat (0 + σ6.1.length)), rv o, iv (0 : Int32), .unset, .unset] at_576 rfl rfl ?_
        refine s_iload (pc' := 580) W at_578 rfl rfl ?_
        refine s_ifeq (pc' := 583) (pcT := 597) W at_580 (by decide) rfl rfl (fun _ => ?_) (fun hq => absurd (by decide) hq)
        refine s_aload (pc' := 599) W at_597 rfl rfl rfl ?_
        refine s_virt (pc' := 602) W (C0 := "java/util/Optional") (w119 hw) (w120 hw) (w122 hw) (w121 hw) (w116 hw) (w123 hw) (notFace_of_selects (args := a0) (w122 hw)) (by decide) pd7 [] rfl Eo (c_opresP l hw W.old Fo) all0 rfl at_599 0 (le rfl) (bl rfl) (bl rfl) (by decide) (by decide) rfl ?_
        rintro _ T vm _ W C16 ⟨rfl, rfl⟩
        refine s_ifne (pc' := 605) (pcT := 607) W at_602 (by decide) rfl rfl (fun _ => ?_) (fun hq => absurd hq (by decide))
        refine s_aload (pc' := 609) W at_607 rfl rfl rfl ?_
        refine s_virt (pc' := 612) W (C0 := "java/util/Optional") (w205 hw) (w206 hw) (w208 hw) (w207 hw) (w116 hw) (w209 hw) (notFace_of_selects (args := a0) (w208 hw)) (by decide) pd30 [] rfl Eo (c_oget l hw W.old Fo) all0 rfl at_609 0 (le rfl) (bl rfl) (bl rfl) (by decide) (by decide) rfl ?_
        rintro _ T vm _ W C17 ⟨rfl, rfl⟩
        refine s_cast (pc' := 615) W (w5 hw) (Ins.self L1_.1) at_612 rfl ?_
        intro T W
        refine s_astore (pc' := 617) W #[iv p0, iv p1, iv p2, iv (0 : Int32), rv r, rv sr, rv tl, rv st, iv (0 : Int32), iv (Int32.ofNat (0 + σ6.1.length)), rv o, iv (0 : Int32), rv t1, .unset] at_615 rfl rfl rfl ?_
        refine s_aload (pc' := 619) W at_617 rfl rfl rfl ?_
        refine s_virt (pc' := 622) W (C0 := "java/lang/String") (w210 hw) (w52 hw) (w54 hw) (w53 hw) (w7 hw) (w55 hw) (notFace_of_selects (args := a0) (w54 hw)) (by decide) pd12 [] rfl L1_.1 (c_strlength l hw W.old CS0 L1_) all0 rfl at_619 0 (le rfl) (bl rfl) (bl rfl) (by decide) (by decide) rfl ?_
        rintro _ T vm _ W C18 ⟨rfl, rfl⟩
        rw [show (([] : List Int32) ++ σ6.1).length = 0 + σ6.1.length from by rw [List.length_append]; rfl]
        refine s_iload (pc' := 624) W at_622 rfl rfl ?_
        refine s_icmpeq (pc' := 627) (pcT := 629) W at_624 (by decide) rfl rfl (fun _ => ?_) (fun hq => absurd (rfl : Int32.ofNat (0 + σ6.1.length) = Int32.ofNat (0 + σ6.1.length)) hq)
        refine s_iload_n (pc' := 630) W at_629 rfl rfl ?_
        refine s_ifeq (pc' := 633) (pcT := 658) W at_630 (by decide) rfl rfl (fun _ => ?_) (fun hq => absurd (by decide) hq)
        refine s_aload (pc' := 660) W at_658 rfl rfl rfl ?_
        refine s_iconst (pc' := 661) W (0 : Int32) at_660 rfl rfl ?_
        refine s_iaload (pc' := 662) W (.int (Int32.ofNat σ6.1.length)) B (by decide) (by decide) rfl at_661 rfl ?_
        refine s_istore (pc' := 664) W #[iv p0, iv p1, iv p2, iv (0 : Int32), rv r, rv sr, rv tl, rv st, iv (0 : Int32), iv (Int32.ofNat (0 + σ6.1.length)), rv o, iv (0 : Int32), rv t1, iv (Int32.ofNat σ6.1.length)] at_662 rfl rfl ?_
        refine s_aload (pc' := 666) W at_664 rfl rfl rfl ?_
        refine s_aload (pc' := 668) W at_666 rfl rfl rfl ?_
        refine s_iload (pc' := 670) W at_668 rfl rfl ?_
        refine s_iload (pc' := 672) W at_670 rfl rfl ?_
        refine s_iconst (pc' := 673) W (0 : Int32) at_672 rfl rfl ?_
        refine s_static (pc' := 676) W (w212 hw) (w213 hw) (w3 hw) (w214 hw) (by decide) pd31 [(.ref t1), (.ref tl), (.int (0 : Int32)), (.int (Int32.ofNat σ6.1.length)), (.int (0 : Int32))] rfl (c_at l hw W.old CS0 FM (B := ([] : List Int32)) (t := σ6.1) (kk := 0) (by decide) ht6 (by decide) L1_ A) all0 rfl at_673 0 (le rfl) (bl rfl) (bl rfl) (by decide) (by decide) rfl ?_
        rintro _ T vm _ W C19 ⟨rfl, rfl⟩
        refine s_ifeq (pc' := 679) (pcT := 758) W at_676 (by decide) rfl rfl (fun hq => absurd hq (by decide)) (fun _ => ?_)
        refine s_aload (pc' := 681) W at_679 rfl rfl rfl ?_
        refine s_aload (pc' := 683) W at_681 rfl rfl rfl ?_
        refine s_iload (pc' := 685) W at_683 rfl rfl ?_
        refine s_iload (pc' := 687) W at_685 rfl rfl ?_
        refine s_iconst (pc' := 688) W (1 : Int32) at_687 rfl rfl ?_
        refine s_static (pc' := 691) W (w212 hw) (w213 hw) (w3 hw) (w214 hw) (by decide) pd31 [(.ref t1), (.ref tl), (.int (0 : Int32)), (.int (Int32.ofNat σ6.1.length)), (.int (1 : Int32))] rfl (c_at l hw W.old CS0 FM (B := ([] : List Int32)) (t := σ6.1) (kk := 1) (by decide) ht6 (by decide) L1_ A) all0 rfl at_688 0 (le rfl) (bl rfl) (bl rfl) (by decide) (by decide) rfl ?_
        rintro _ T vm _ W C20 ⟨rfl, rfl⟩
        refine s_ifeq (pc' := 694) (pcT := 758) W at_691 (by decide) rfl rfl (fun hq => absurd hq (by decide)) (fun _ => ?_)
        refine s_aload (pc' := 696) W at_694 rfl rfl rfl ?_
        refine s_aload (pc' := 698) W at_696 rfl rfl rfl ?_
        refine s_iload (pc' := 700) W at_698 rfl rfl ?_
        refine s_iload (pc' := 702) W at_700 rfl rfl ?_
        refine s_iconst (pc' := 703) W (2 : Int32) at_702 rfl rfl ?_
        refine s_static (pc' := 706) W (w212 hw) (w213 hw) (w3 hw) (w214 hw) (by decide) pd31 [(.ref t1), (.ref tl), (.int (0 : Int32)), (.int (Int32.ofNat σ6.1.length)), (.int (2 : Int32))] rfl (c_at l hw W.old CS0 FM (B := ([] : List Int32)) (t := σ6.1) (kk := 2) (by decide) ht6 (by decide) L1_ A) all0 rfl at_703 0 (le rfl) (bl rfl) (bl rfl) (by decide) (by decide) rfl ?_
        rintro _ T vm _ W C21 ⟨rfl, rfl⟩
        refine s_ifeq (pc' := 709) (pcT := 758) W at_706 (by decide) rfl rfl (fun hq => absurd hq (by decide)) (fun _ => ?_)
        refine s_aload (pc' := 711) W at_709 rfl rfl rfl ?_
        refine s_aload (pc' := 713) W at_711 rfl rfl rfl ?_
        refine s_iload (pc' := 715) W at_713 rfl rfl ?_
        refine s_iload (pc' := 717) W at_715 rfl rfl ?_
        refine s_iconst (pc' := 718) W (3 : Int32) at_717 rfl rfl ?_
        refine s_static (pc' := 721) W (w212 hw) (w213 hw) (w3 hw) (w214 hw) (by decide) pd31 [(.ref t1), (.ref tl), (.int (0 : Int32)), (.int (Int32.ofNat σ6.1.length)), (.int (3 : Int32))] rfl (c_at l hw W.old CS0 FM (B := ([] : List Int32)) (t := σ6.1) (kk := 3) (by decide) ht6 (by decide) L1_ A) all0 rfl at_718 0 (le rfl) (bl rfl) (bl rfl) (by decide) (by decide) rfl ?_
        rintro _ T vm _ W C22 ⟨rfl, rfl⟩
        refine s_ifeq (pc' := 724) (pcT := 758) W at_721 (by decide) rfl rfl (fun hq => absurd hq (by decide)) (fun _ => ?_)
        refine s_aload (pc' := 726) W at_724 rfl rfl rfl ?_
        refine s_aload (pc' := 728) W at_726 rfl rfl rfl ?_
        refine s_iload (pc' := 730) W at_728 rfl rfl ?_
        refine s_iload (pc' := 732) W at_730 rfl rfl ?_
        refine s_iconst (pc' := 733) W (4 : Int32) at_732 rfl rfl ?_
        refine s_static (pc' := 736) W (w212 hw) (w213 hw) (w3 hw) (w214 hw) (by decide) pd31 [(.ref t1), (.ref tl), (.int (0 : Int32)), (.int (Int32.ofNat σ6.1.length)), (.int (4 : Int32))] rfl (c_at l hw W.old CS0 FM (B := ([] : List Int32)) (t := σ6.1) (kk := 4) (by decide) ht6 (by decide) L1_ A) all0 rfl at_733 0 (le rfl) (bl rfl) (bl rfl) (by decide) (by decide) rfl ?_
        rintro _ T vm _ W C23 ⟨rfl, rfl⟩
        refine s_ifeq (pc' := 739) (pcT := 758) W at_736 (by decide) rfl rfl (fun hq => absurd hq (by decide)) (fun _ => ?_)
        refine s_aload (pc' := 741) W at_739 rfl rfl rfl ?_
        refine s_aload (pc' := 743) W at_741 rfl rfl rfl ?_
        refine s_iload (pc' := 745) W at_743 rfl rfl ?_
        refine s_iload (pc' := 747) W at_745 rfl rfl ?_
        refine s_iconst (pc' := 748) W (5 : Int32) at_747 rfl rfl ?_
        refine s_static (pc' := 751) W (w212 hw) (w213 hw) (w3 hw) (w214 hw) (by decide) pd31 [(.ref t1), (.ref tl), (.int (0 : Int32)), (.int (Int32.ofNat σ6.1.length)), (.int (5 : Int32))] rfl (c_at l hw W.old CS0 FM (B := ([] : List Int32)) (t := σ6.1) (kk := 5) (by decide) ht6 (by decide) L1_ A) all0 rfl at_748 0 (le rfl) (bl rfl) (bl rfl) (by decide) (by decide) rfl ?_
        rintro _ T vm _ W C24 ⟨rfl, rfl⟩
        refine s_ifeq (pc' := 754) (pcT := 758) W at_751 (by decide) rfl rfl (fun hq => absurd hq (by decide)) (fun _ => ?_)
        refine s_iconst (pc' := 755) W (1 : Int32) at_754 rfl rfl ?_
        refine s_goto (pc' := 759) W at_755 (by decide) rfl ?_
        refine s_nreturn W (t := .boolean) rfl (by simp) at_759 (by decide) (by decide) ?_
        intro vm' C'
        exact rfl
      · have h5 : 50 < 0 + σ6.1.length := by rcases Nat.lt_or_ge 50 (0 + σ6.1.length) with q | q; exact q; exact absurd h50 (n_ge (n := 0 + σ6.1.length) (i := 50) q (by decide))
        rw [if_pos (Or.inr h5)] at HO
        have Fo : Fld Z h o "java/util/Optional" "value" "Ljava/lang/Object;" .null := by rcases HO with HO | ⟨o1, t1, c1, k1, q, q2, -⟩; exact HO.2; cases q
        refine s_iconst (pc' := 572) W (1 : Int32) at_571 rfl rfl ?_
        refine s_goto (pc' := 576) W at_572 (by decide) rfl ?_
        refine s_istore (pc' := 578) W #[iv p0, iv p1, iv p2, iv (0 : Int32), rv r, rv sr, rv tl, rv st, iv (0 : Int32), iv (Int32.ofNat (0 + σ6.1.length)), rv o, iv (1 : Int32), .unset, .unset] at_576 rfl rfl ?_
        refine s_iload (pc' := 580) W at_578 rfl rfl ?_
        refine s_ifeq (pc' := 583) (pcT := 597) W at_580 (by decide) rfl rfl (fun hq => absurd hq (by decide)) (fun _ => ?_)
        refine s_aload (pc' := 585) W at_583 rfl rfl rfl ?_
        refine s_virt (pc' := 588) W (C0 := "java/util/Optional") (w119 hw) (w120 hw) (w122 hw) (w121 hw) (w116 hw) (w123 hw) (notFace_of_selects (args := a0) (w122 hw)) (by decide) pd7 [] rfl Eo (c_opresN l hw W.old Fo) all0 rfl at_585 0 (le rfl) (bl rfl) (bl rfl) (by decide) (by decide) rfl ?_
        rintro _ T vm _ W C15 ⟨rfl, rfl⟩
        refine s_ifne (pc' := 591) (pcT := 595) W at_588 (by decide) rfl rfl (fun hq => absurd (by decide) hq) (fun _ => ?_)
        refine s_iconst (pc' := 592) W (1 : Int32) at_591 rfl rfl ?_
        refine s_goto (pc' := 596) W at_592 (by decide) rfl ?_
        refine s_nreturn W (t := .boolean) rfl (by simp) at_596 (by decide) (by decide) ?_
        intro vm' C'
        exact rfl
set_option maxRecDepth 65536 in
set_option maxHeartbeats 40000000 in
theorem lp_rest1 {p : Program} {l : Launch} {e : Env} {s : State} {m : MethodId} {args : Array Value} {below : List Frame} {meth : Method} {c : Code} {Z : State} {a0 : Array Value} (hw : Hw Z a0) {n0 : Nat} (CS0 : CS Z) (FM : Fmt Z) (OE0 : OE Z) {p0 p1 p2 d0 d1 d2 d3 d4 d5 : Int32} {r sr b_s q : Nat} {k_r kb_s : ClassId} (hd0 : L1 d0) (hd1 : L1 d1) (hd2 : L1 d2) (hd3 : L1 d3) (hd4 : L1 d4) (hd5 : L1 d5) {h : Heap} (V_r : Arv Z h r k_r .char (6 : Int32) [.int d0, .int d1, .int d2, .int d3, .int d4, .int d5] (.int 0)) (Ls : LatB Z h sr b_s kb_s (List.replicate 45 113 ++ [d0, d1, d2, d3, d4, d5])) {T : State} {vm : Vm} (W : Wk p l e room_1 s m args below meth c Z a0 EL1 n0 x.cls x.name code maxLocals ret T vm h 4 112) : Go p e below s room_1 Z EL1 n0 (fun v vm' h' => v = some (.int 1)) (T.setTop (mkF m 421 #[iv p0, iv p1, iv p2, iv (1 : Int32), rv r, rv sr, rv q, .unset, .unset, .unset, .unset, .unset, .unset, .unset] [(.int (6 : Int32))])) := by
  refine s_newarr (pc' := 423) W (aty := .char) 6 "[C" (by decide) (w0 hw) at_421 (by decide) (by decide) (by decide) (by decide) (by decide) rfl ?_
  intro tl T h k_tl g_tl
  have ne_r_tl : @Ne Nat r tl := by have := nlt V_r.lt; omega
  have ne_sr_tl : @Ne Nat sr tl := by have := nlt Ls.lt; omega
  have ne_b_s_tl : @Ne Nat b_s tl := by have := nlt Ls.ltb; omega
  intro W K1 C1 M_tl V_tl X_tl
  replace V_r := V_r.keep K1 nin0
  replace Ls := Ls.keep K1 nin0 nin0
  have V_tl : Arv Z _ tl k_tl .char (6 : Int32) [.int 0, .int 0, .int 0, .int 0, .int 0, .int 0] (.int 0) := V_tl
  refine s_astore (pc' := 425) W #[iv p0, iv p1, iv p2, iv (1 : Int32), rv r, rv sr, rv tl, .unset, .unset, .unset, .unset, .unset, .unset, .unset] at_423 rfl rfl rfl ?_
  refine s_iconst (pc' := 426) W (3 : Int32) at_425 rfl rfl ?_
  refine s_newarr (pc' := 428) W (aty := .int) 3 "[I" (by decide) (w34 hw) at_426 (by decide) (by decide) (by decide) (by decide) (by decide) rfl ?_
  intro st T h k_st g_st
  have ne_r_st : @Ne Nat r st := by have := nlt V_r.lt; omega
  have ne_sr_st : @Ne Nat sr st := by have := nlt Ls.lt; omega
  have ne_b_s_st : @Ne Nat b_s st := by have := nlt Ls.ltb; omega
  have ne_tl_st : @Ne Nat tl st := by have := nlt V_tl.lt; omega
  intro W K2 C2 M_st V_st X_st
  replace V_r := V_r.keep K2 nin0
  replace Ls := Ls.keep K2 nin0 nin0
  replace V_tl := V_tl.keep K2 nin0
  replace M_tl := M_tl.mv C2
  replace X_tl := X_tl.keep K2
  have V_st : Arv Z _ st k_st .int (3 : Int32) [.int 0, .int 0, .int 0] (.int 0) := V_st
  refine s_dup (pc' := 429) W at_428 rfl rfl ?_
  refine s_iconst (pc' := 430) W (0 : Int32) at_429 rfl rfl ?_
  refine s_iconst (pc' := 431) W (0 : Int32) at_430 rfl rfl ?_
  refine s_iastore (pc' := 432) W 0 V_st M_st rfl (by decide) (by decide) (bt rfl) at_431 rfl ?_
  intro T h W K3 C3 Vn3
  replace V_r := V_r.keep K3 (ninS ne_r_st nin0)
  replace Ls := Ls.keep K3 (ninS ne_sr_st nin0) (ninS ne_b_s_st nin0)
  replace V_tl := V_tl.keep K3 (ninS ne_tl_st nin0)
  replace M_tl := M_tl.mv C3
  replace X_tl := X_tl.keep K3
  replace M_st := M_st.mv C3
  replace X_st := X_st.keep K3
  have V_st := Vn3
  clear Vn3
  have V_st : Arv Z _ st k_st .int (3 : Int32) [.int 0, .int 0, .int 0] (.int 0) := V_st
  refine s_dup (pc' := 433) W at_432 rfl rfl ?_
  refine s_iconst (pc' := 434) W (1 : Int32) at_433 rfl rfl ?_
  refine s_iload_n (pc' := 435) W at_434 rfl rfl ?_
  refine s_ifeq (pc' := 438) (pcT := 442) W at_435 (by decide) rfl rfl (fun hq => absurd hq (by decide)) (fun _ => ?_)
  refine s_iconst (pc' := 439) W (-1 : Int32) at_438 rfl rfl ?_
  refine s_goto (pc' := 444) W at_439 (by decide) rfl ?_
  refine s_iastore (pc' := 445) W 1 V_st M_st rfl (by decide) (by decide) (bt rfl) at_444 rfl ?_
  intro T h W K4 C4 Vn4
  replace V_r := V_r.keep K4 (ninS ne_r_st nin0)
  replace Ls := Ls.keep K4 (ninS ne_sr_st nin0) (ninS ne_b_s_st nin0)
  replace V_tl := V_tl.keep K4 (ninS ne_tl_st nin0)
  replace M_tl := M_tl.mv C4
  replace X_tl := X_tl.keep K4
  replace M_st := M_st.mv C4
  replace X_st := X_st.keep K4
  have V_st := Vn4
  clear Vn4
  have V_st : Arv Z _ st k_st .int (3 : Int32) [.int 0, .int (-1), .int 0] (.int 0) := V_st
  refine s_dup (pc' := 446) W at_445 rfl rfl ?_
  refine s_iconst (pc' := 447) W (2 : Int32) at_446 rfl rfl ?_
  refine s_iconst (pc' := 448) W (0 : Int32) at_447 rfl rfl ?_
  refine s_iastore (pc' := 449) W 2 V_st M_st rfl (by decide) (by decide) (bt rfl) at_448 rfl ?_
  intro T h W K5 C5 Vn5
  replace V_r := V_r.keep K5 (ninS ne_r_st nin0)
  replace Ls := Ls.keep K5 (ninS ne_sr_st nin0) (ninS ne_b_s_st nin0)
  replace V_tl := V_tl.keep K5 (ninS ne_tl_st nin0)
  replace M_tl := M_tl.mv C5
  replace X_tl := X_tl.keep K5
  replace M_st := M_st.mv C5
  replace X_st := X_st.keep K5
  have V_st := Vn5
  clear Vn5
  have V_st : Arv Z _ st k_st .int (3 : Int32) [.int 0, .int (-1), .int 0] (.int 0) := V_st
  have HT : TA Z h tl st k_tl k_st 0 [] (some 0) false := ⟨V_tl, V_st, by simp, fun c hc => by simp at hc⟩
  have nts : tl ≠ st := ne_tl_st
  obtain ⟨σ0, hσ0⟩ : ∃ σ : List Int32 × Option Nat × Bool, σ = ([], (some 0), false) := ⟨_, rfl⟩
  have HT : TA Z h tl st k_tl k_st 0 σ0.1 σ0.2.1 σ0.2.2 := by rw [hσ0]; exact HT
  refine s_astore (pc' := 451) W #[iv p0, iv p1, iv p2, iv (1 : Int32), rv r, rv sr, rv tl, rv st, .unset, .unset, .unset, .unset, .unset, .unset] at_449 rfl rfl rfl ?_
  refine s_aload (pc' := 453) W at_451 rfl rfl rfl ?_
  refine s_aload (pc' := 455) W at_453 rfl rfl rfl ?_
  refine s_aload (pc' := 457) W at_455 rfl rfl rfl ?_
  refine s_iconst (pc' := 458) W (0 : Int32) at_457 rfl rfl ?_
  refine s_caload (pc' := 459) W (.int d0) V_r (by decide) (by decide) rfl at_458 rfl ?_
  refine s_iconst (pc' := 460) W (0 : Int32) at_459 rfl rfl ?_
  refine s_static (pc' := 463) W (w35 hw) (w36 hw) (w3 hw) (w37 hw) (by decide) pd28 [(.ref tl), (.ref st), (.int d0), (.int (0 : Int32))] rfl (c_step l hw W.old (pos := 0) hd0 (by decide) HT nts M_tl.1 M_st.1) (allS ⟨M_tl.2.1, M_tl.2.2⟩ (allS ⟨M_st.2.1, M_st.2.2⟩ all0)) rfl at_460 0 (le rfl) (bl rfl) (bl rfl) (by decide) (by decide) rfl ?_
  rintro _ T vm h W C6 ⟨rfl, K6, HT⟩
  replace V_r := V_r.keep K6 (ninS ne_r_tl (ninS ne_r_st nin0))
  replace Ls := Ls.keep K6 (ninS ne_sr_tl (ninS ne_sr_st nin0)) (ninS ne_b_s_tl (ninS ne_b_s_st nin0))
  replace M_tl := M_tl.mv C6
  replace M_st := M_st.mv C6
  obtain ⟨σ1, hσ1⟩ : ∃ σ, σ = stp d0 σ0 := ⟨_, rfl⟩
  have HT : TA Z h tl st k_tl k_st 1 σ1.1 σ1.2.1 σ1.2.2 := by rw [hσ1]; exact HT
  refine s_aload (pc' := 465) W at_463 rfl rfl rfl ?_
  refine s_aload (pc' := 467) W at_465 rfl rfl rfl ?_
  refine s_aload (pc' := 469) W at_467 rfl rfl rfl ?_
  refine s_iconst (pc' := 470) W (1 : Int32) at_469 rfl rfl ?_
  refine s_caload (pc' := 471) W (.int d1) V_r (by decide) (by decide) rfl at_470 rfl ?_
  refine s_iconst (pc' := 472) W (1 : Int32) at_471 rfl rfl ?_
  refine s_static (pc' := 475) W (w35 hw) (w36 hw) (w3 hw) (w37 hw) (by decide) pd28 [(.ref tl), (.ref st), (.int d1), (.int (1 : Int32))] rfl (c_step l hw W.old (pos := 1) hd1 (by decide) HT nts M_tl.1 M_st.1) (allS ⟨M_tl.2.1, M_tl.2.2⟩ (allS ⟨M_st.2.1, M_st.2.2⟩ all0)) rfl at_472 0 (le rfl) (bl rfl) (bl rfl) (by decide) (by decide) rfl ?_
  rintro _ T vm h W C7 ⟨rfl, K7, HT⟩
  replace V_r := V_r.keep K7 (ninS ne_r_tl (ninS ne_r_st nin0))
  replace Ls := Ls.keep K7 (ninS ne_sr_tl (ninS ne_sr_st nin0)) (ninS ne_b_s_tl (ninS ne_b_s_st nin0))
  replace M_tl := M_tl.mv C7
  replace M_st := M_st.mv C7
  obtain ⟨σ2, hσ2⟩ : ∃ σ, σ = stp d1 σ1 := ⟨_, rfl⟩
  have HT : TA Z h tl st k_tl k_st 2 σ2.1 σ2.2.1 σ2.2.2 := by rw [hσ2]; exact HT
  refine s_aload (pc' := 477) W at_475 rfl rfl rfl ?_
  refine s_aload (pc' := 479) W at_477 rfl rfl rfl ?_
  refine s_aload (pc' := 481) W at_479 rfl rfl rfl ?_
  refine s_iconst (pc' := 482) W (2 : Int32) at_481 rfl rfl ?_
  refine s_caload (pc' := 483) W (.int d2) V_r (by decide) (by decide) rfl at_482 rfl ?_
  refine s_iconst (pc' := 484) W (2 : Int32) at_483 rfl rfl ?_
  refine s_static (pc' := 487) W (w35 hw) (w36 hw) (w3 hw) (w37 hw) (by decide) pd28 [(.ref tl), (.ref st), (.int d2), (.int (2 : Int32))] rfl (c_step l hw W.old (pos := 2) hd2 (by decide) HT nts M_tl.1 M_st.1) (allS ⟨M_tl.2.1, M_tl.2.2⟩ (allS ⟨M_st.2.1, M_st.2.2⟩ all0)) rfl at_484 0 (le rfl) (bl rfl) (bl rfl) (by decide) (by decide) rfl ?_
  rintro _ T vm h W C8 ⟨rfl, K8, HT⟩
  replace V_r := V_r.keep K8 (ninS ne_r_tl (ninS ne_r_st nin0))
  replace Ls := Ls.keep K8 (ninS ne_sr_tl (ninS ne_sr_st nin0)) (ninS ne_b_s_tl (ninS ne_b_s_st nin0))
  replace M_tl := M_tl.mv C8
  replace M_st := M_st.mv C8
  obtain ⟨σ3, hσ3⟩ : ∃ σ, σ = stp d2 σ2 := ⟨_, rfl⟩
  have HT : TA Z h tl st k_tl k_st 3 σ3.1 σ3.2.1 σ3.2.2 := by rw [hσ3]; exact HT
  refine s_aload (pc' := 489) W at_487 rfl rfl rfl ?_
  refine s_aload (pc' := 491) W at_489 rfl rfl rfl ?_
  refine s_aload (pc' := 493) W at_491 rfl rfl rfl ?_
  refine s_iconst (pc' := 494) W (3 : Int32) at_493 rfl rfl ?_
  refine s_caload (pc' := 495) W (.int d3) V_r (by decide) (by decide) rfl at_494 rfl ?_
  refine s_iconst (pc' := 496) W (3 : Int32) at_495 rfl rfl ?_
  refine s_static (pc' := 499) W (w35 hw) (w36 hw) (w3 hw) (w37 hw) (by decide) pd28 [(.ref tl), (.ref st), (.int d3), (.int (3 : Int32))] rfl (c_step l hw W.old (pos := 3) hd3 (by decide) HT nts M_tl.1 M_st.1) (allS ⟨M_tl.2.1, M_tl.2.2⟩ (allS ⟨M_st.2.1, M_st.2.2⟩ all0)) rfl at_496 0 (le rfl) (bl rfl) (bl rfl) (by decide) (by decide) rfl ?_
  rintro _ T vm h W C9 ⟨rfl, K9, HT⟩
  replace V_r := V_r.keep K9 (ninS ne_r_tl (ninS ne_r_st nin0))
  replace Ls := Ls.keep K9 (ninS ne_sr_tl (ninS ne_sr_st nin0)) (ninS ne_b_s_tl (ninS ne_b_s_st nin0))
  replace M_tl := M_tl.mv C9
  replace M_st := M_st.mv C9
  obtain ⟨σ4, hσ4⟩ : ∃ σ, σ = stp d3 σ3 := ⟨_, rfl⟩
  have HT : TA Z h tl st k_tl k_st 4 σ4.1 σ4.2.1 σ4.2.2 := by rw [hσ4]; exact HT
  refine s_aload (pc' := 501) W at_499 rfl rfl rfl ?_
  refine s_aload (pc' := 503) W at_501 rfl rfl rfl ?_
  refine s_aload (pc' := 505) W at_503 rfl rfl rfl ?_
  refine s_iconst (pc' := 506) W (4 : Int32) at_505 rfl rfl ?_
  refine s_caload (pc' := 507) W (.int d4) V_r (by decide) (by decide) rfl at_506 rfl ?_
  refine s_iconst (pc' := 508) W (4 : Int32) at_507 rfl rfl ?_
  refine s_static (pc' := 511) W (w35 hw) (w36 hw) (w3 hw) (w37 hw) (by decide) pd28 [(.ref tl), (.ref st), (.int d4), (.int (4 : Int32))] rfl (c_step l hw W.old (pos := 4) hd4 (by decide) HT nts M_tl.1 M_st.1) (allS ⟨M_tl.2.1, M_tl.2.2⟩ (allS ⟨M_st.2.1, M_st.2.2⟩ all0)) rfl at_508 0 (le rfl) (bl rfl) (bl rfl) (by decide) (by decide) rfl ?_
  rintro _ T vm h W C10 ⟨rfl, K10, HT⟩
  replace V_r := V_r.keep K10 (ninS ne_r_tl (ninS ne_r_st nin0))
  replace Ls := Ls.keep K10 (ninS ne_sr_tl (ninS ne_sr_st nin0)) (ninS ne_b_s_tl (ninS ne_b_s_st nin0))
  replace M_tl := M_tl.mv C10
  replace M_st := M_st.mv C10
  obtain ⟨σ5, hσ5⟩ : ∃ σ, σ = stp d4 σ4 := ⟨_, rfl⟩
  have HT : TA Z h tl st k_tl k_st 5 σ5.1 σ5.2.1 σ5.2.2 := by rw [hσ5]; exact HT
  refine s_aload (pc' := 513) W at_511 rfl rfl rfl ?_
  refine s_aload (pc' := 515) W at_513 rfl rfl rfl ?_
  refine s_aload (pc' := 517) W at_515 rfl rfl rfl ?_
  refine s_iconst (pc' := 518) W (5 : Int32) at_517 rfl rfl ?_
  refine s_caload (pc' := 519) W (.int d5) V_r (by decide) (by decide) rfl at_518 rfl ?_
  refine s_iconst (pc' := 520) W (5 : Int32) at_519 rfl rfl ?_
  refine s_static (pc' := 523) W (w35 hw) (w36 hw) (w3 hw) (w37 hw) (by decide) pd28 [(.ref tl), (.ref st), (.int d5), (.int (5 : Int32))] rfl (c_step l hw W.old (pos := 5) hd5 (by decide) HT nts M_tl.1 M_st.1) (allS ⟨M_tl.2.1, M_tl.2.2⟩ (allS ⟨M_st.2.1, M_st.2.2⟩ all0)) rfl at_520 0 (le rfl) (bl rfl) (bl rfl) (by decide) (by decide) rfl ?_
  rintro _ T vm h W C11 ⟨rfl, K11, HT⟩
  replace V_r := V_r.keep K11 (ninS ne_r_tl (ninS ne_r_st nin0))
  replace Ls := Ls.keep K11 (ninS ne_sr_tl (ninS ne_sr_st nin0)) (ninS ne_b_s_tl (ninS ne_b_s_st nin0))
  replace M_tl := M_tl.mv C11
  replace M_st := M_st.mv C11
  obtain ⟨σ6, hσ6⟩ : ∃ σ, σ = stp d5 σ5 := ⟨_, rfl⟩
  have HT : TA Z h tl st k_tl k_st 6 σ6.1 σ6.2.1 σ6.2.2 := by rw [hσ6]; exact HT
  obtain ⟨A, B, hl6, hLt⟩ := HT
  have ht6 : σ6.1.length ≤ 6 := by omega
  have hf : [d0, d1, d2, d3, d4, d5].foldl (fun σ c => stp c σ) ([], (some 0), false) = σ6 := by rw [hσ6, hσ5, hσ4, hσ3, hσ2, hσ1, hσ0]; rfl
  have hn0 : nrm [d0, d1, d2, d3, d4, d5] ((List.replicate 45 (113 : Int32)) ++ []) (gp (some 0)) = if σ6.2.2 = true ∨ 50 < (List.replicate 45 (113 : Int32)).length + σ6.1.length then none else some ((List.replicate 45 (113 : Int32)) ++ σ6.1) := by rw [nrm_eq (List.replicate 45 (113 : Int32)) _ [] (some 0) (by decide) (by decide), hf]
  have hnr : nrm (List.replicate 45 113 ++ [d0, d1, d2, d3, d4, d5]) [] false = if σ6.2.2 = true ∨ 50 < 45 + σ6.1.length then none else some ((List.replicate 45 (113 : Int32)) ++ σ6.1) := by rw [nrm_q _ 45 [] (by decide)]; simpa [gp] using hn0
  refine s_iload_n (pc' := 524) W at_523 rfl rfl ?_
  refine s_ifeq (pc' := 527) (pcT := 532) W at_524 (by decide) rfl rfl (fun hq => absurd hq (by decide)) (fun _ => ?_)
  refine s_bipush (pc' := 529) W (45 : Int32) at_527 rfl rfl ?_
  refine s_goto (pc' := 533) W at_529 (by decide) rfl ?_
  refine s_istore (pc' := 535) W #[iv p0, iv p1, iv p2, iv (1 : Int32), rv r, rv sr, rv tl, rv st, iv (45 : Int32), .unset, .unset, .unset, .unset, .unset] at_533 rfl rfl ?_
  refine s_iload (pc' := 537) W at_535 rfl rfl ?_
  refine s_aload (pc' := 539) W at_537 rfl rfl rfl ?_
  refine s_iconst (pc' := 540) W (0 : Int32) at_539 rfl rfl ?_
  refine s_iaload (pc' := 541) W (.int (Int32.ofNat σ6.1.length)) B (by decide) (by decide) rfl at_540 rfl ?_
  refine s_iadd (pc' := 542) W at_541 rfl ?_
  rw [show (45 : Int32) + Int32.ofNat σ6.1.length = Int32.ofNat (45 + σ6.1.length) from n_add 45 _]
  refine s_istore (pc' := 544) W #[iv p0, iv p1, iv p2, iv (1 : Int32), rv r, rv sr, rv tl, rv st, iv (45 : Int32), iv (Int32.ofNat (45 + σ6.1.length)), .unset, .unset, .unset, .unset] at_542 rfl rfl ?_
  refine s_aload (pc' := 546) W at_544 rfl rfl rfl ?_
  refine s_static (pc' := 549) W (w41 hw) (w42 hw) (w43 hw) (w44 hw) (by decide) pd29 [(.ref sr)] rfl (c_query l hw W.old CS0 FM OE0 (by simp) Ls) all0 rfl at_546 0 (le rfl) (bl rfl) (bl rfl) (by decide) (by decide) rfl ?_
  rintro _ T vm h W C12 ⟨o, rfl, K12, Eo, HO⟩
  replace Ls := Ls.keep K12 nin0 nin0
  replace A := A.keep K12 nin0
  replace B := B.keep K12 nin0
  rw [hnr] at HO
  refine s_astore (pc' := 551) W #[iv p0, iv p1, iv p2, iv (1 : Int32), rv r, rv sr, rv tl, rv st, iv (45 : Int32), iv (Int32.ofNat (45 + σ6.1.length)), rv o, .unset, .unset, .unset] at_549 rfl rfl rfl ?_
  refine s_aload (pc' := 553) W at_551 rfl rfl rfl ?_
  refine s_iconst (pc' := 554) W (2 : Int32) at_553 rfl rfl ?_
  refine s_iaload (pc' := 555) W (.int (if σ6.2.2 = true then (1 : Int32) else 0)) B (by decide) (by decide) rfl at_554 rfl ?_
  refine s_iconst (pc' := 556) W (1 : Int32) at_555 rfl rfl ?_
  refine s_icmpeq (pc' := 559) (pcT := 571) W at_556 (by decide) rfl rfl (fun hbad => ?_) (fun hbad => ?_)
  · have hb : σ6.2.2 = true := Decidable.byContradiction fun q => by rw [if_neg q] at hbad; exact absurd hbad (by decide)
    rw [if_pos (Or.inl hb)] at HO
    have Fo : Fld Z h o "java/util/Optional" "value" "Ljava/lang/Object;" .null := by rcases HO with HO | ⟨o1, t1, c1, k1, q, q2, -⟩; exact HO.2; cases q
    refine s_iconst (pc' := 572) W (1 : Int32) at_571 rfl rfl ?_
    refine s_goto (pc' := 576) W at_572 (by decide) rfl ?_
    refine s_istore (pc' := 578) W #[iv p0, iv p1, iv p2, iv (1 : Int32), rv r, rv sr, rv tl, rv st, iv (45 : Int32), iv (Int32.ofNat (45 + σ6.1.length)), rv o, iv (1 : Int32), .unset, .unset] at_576 rfl rfl ?_
    refine s_iload (pc' := 580) W at_578 rfl rfl ?_
    refine s_ifeq (pc' := 583) (pcT := 597) W at_580 (by decide) rfl rfl (fun hq => absurd hq (by decide)) (fun _ => ?_)
    refine s_aload (pc' := 585) W at_583 rfl rfl rfl ?_
    refine s_virt (pc' := 588) W (C0 := "java/util/Optional") (w119 hw) (w120 hw) (w122 hw) (w121 hw) (w116 hw) (w123 hw) (notFace_of_selects (args := a0) (w122 hw)) (by decide) pd7 [] rfl Eo (c_opresN l hw W.old Fo) all0 rfl at_585 0 (le rfl) (bl rfl) (bl rfl) (by decide) (by decide) rfl ?_
    rintro _ T vm _ W C13 ⟨rfl, rfl⟩
    refine s_ifne (pc' := 591) (pcT := 595) W at_588 (by decide) rfl rfl (fun hq => absurd (by decide) hq) (fun _ => ?_)
    refine s_iconst (pc' := 592) W (1 : Int32) at_591 rfl rfl ?_
    refine s_goto (pc' := 596) W at_592 (by decide) rfl ?_
    refine s_nreturn W (t := .boolean) rfl (by simp) at_596 (by decide) (by decide) ?_
    intro vm' C'
    exact rfl
  · have hb : ¬ σ6.2.2 = true := fun q => hbad (if_pos q)
    refine s_iload (pc' := 561) W at_559 rfl rfl ?_
    refine s_ifeq (pc' := 564) (pcT := 571) W at_561 (by decide) rfl rfl (fun htot => ?_) (fun htot => ?_)
    · have h0 : 45 + σ6.1.length = 0 := n_inj (j := 0) (by omega) (by decide) htot
      exact absurd h0 (by omega)
    · refine s_iload (pc' := 566) W at_564 rfl rfl ?_
      refine s_bipush (pc' := 568) W (50 : Int32) at_566 rfl rfl ?_
      refine s_icmple (pc' := 571) (pcT := 575) W at_568 (by decide) rfl rfl (fun h50 => ?_) (fun h50 => ?_)
      · have h5 : ¬ 50 < 45 + σ6.1.length := fun q => h50 (n_lt (i := 50) q (by omega))
        have hne : ¬ 45 + σ6.1.length = 0 := fun q => htot (by rw [q]; rfl)
        rw [if_neg (by intro q; rcases q with q | q; exact hb q; exact h5 q)] at HO
        obtain ⟨t1, c1, k1, Fo, L1_⟩ : ∃ t1 c1 k1, Fld Z h o "java/util/Optional" "value" "Ljava/lang/Object;" (.ref t1) ∧ LatB Z h t1 c1 k1 ((List.replicate 45 (113 : Int32)) ++ σ6.1) := by
          rcases HO with ⟨q | q, -⟩ | ⟨o1, t1, c1, k1, q, -, Fo, Lo⟩
          · cases q
          · have := congrArg List.length (Option.some.inj q); rw [List.length_append] at this; simp only [List.length_nil, List.length_replicate] at this; omega
          · cases Option.some.inj q; exact ⟨t1, c1, k1, Fo, Lo⟩
        refine s_iconst (pc' := 576) W (0 : Int32) at_575 rfl rfl ?_
        refine s_istore (pc' := 578) W #[iv p0, iv p1, iv p2, iv (1 : Int32), rv r, rv sr, rv tl, rv st, iv (45 : Int32), iv (Int32.ofNat (45 + σ6.1.length)), rv o, iv (0 : Int32), .unset, .unset] at_576 rfl rfl ?_
        refine s_iload (pc' := 580) W at_578 rfl rfl ?_
        refine s_ifeq (pc' := 583) (pcT := 597) W at_580 (by decide) rfl rfl (fun _ => ?_) (fun hq => absurd (by decide) hq)
        refine s_aload (pc' := 599) W at_597 rfl rfl rfl ?_
        refine s_virt (pc' := 602) W (C0 := "java/util/Optional") (w119 hw) (w120 hw) (w122 hw) (w121 hw) (w116 hw) (w123 hw) (notFace_of_selects (args := a0) (w122 hw)) (by decide) pd7 [] rfl Eo (c_opresP l hw W.old Fo) all0 rfl at_599 0 (le rfl) (bl rfl) (bl rfl) (by decide) (by decide) rfl ?_
        rintro _ T vm _ W C15 ⟨rfl, rfl⟩
        refine s_ifne (pc' := 605) (pcT := 607) W at_602 (by decide) rfl rfl (fun _ => ?_) (fun hq => absurd hq (by decide))
        refine s_aload (pc' := 609) W at_607 rfl rfl rfl ?_
        refine s_virt (pc' := 612) W (C0 := "java/util/Optional") (w205 hw) (w206 hw) (w208 hw) (w207 hw) (w116 hw) (w209 hw) (notFace_of_selects (args := a0) (w208 hw)) (by decide) pd30 [] rfl Eo (c_oget l hw W.old Fo) all0 rfl at_609 0 (le rfl) (bl rfl) (bl rfl) (by decide) (by decide) rfl ?_
        rintro _ T vm _ W C16 ⟨rfl, rfl⟩
        refine s_cast (pc' := 615) W (w5 hw) (Ins.self L1_.1) at_612 rfl ?_
        intro T W
        refine s_astore (pc' := 617) W #[iv p0, iv p1, iv p2, iv (1 : Int32), rv r, rv sr, rv tl, rv st, iv (45 : Int32), iv (Int32.ofNat (45 + σ6.1.length)), rv o, iv (0 : Int32), rv t1, .unset] at_615 rfl rfl rfl ?_
        refine s_aload (pc' := 619) W at_617 rfl rfl rfl ?_
        refine s_virt (pc' := 622) W (C0 := "java/lang/String") (w210 hw) (w52 hw) (w54 hw) (w53 hw) (w7 hw) (w55 hw) (notFace_of_selects (args := a0) (w54 hw)) (by decide) pd12 [] rfl L1_.1 (c_strlength l hw W.old CS0 L1_) all0 rfl at_619 0 (le rfl) (bl rfl) (bl rfl) (by decide) (by decide) rfl ?_
        rintro _ T vm _ W C17 ⟨rfl, rfl⟩
        rw [show ((List.replicate 45 (113 : Int32)) ++ σ6.1).length = 45 + σ6.1.length from by rw [List.length_append]; rfl]
        refine s_iload (pc' := 624) W at_622 rfl rfl ?_
        refine s_icmpeq (pc' := 627) (pcT := 629) W at_624 (by decide) rfl rfl (fun _ => ?_) (fun hq => absurd (rfl : Int32.ofNat (45 + σ6.1.length) = Int32.ofNat (45 + σ6.1.length)) hq)
        refine s_iload_n (pc' := 630) W at_629 rfl rfl ?_
        refine s_ifeq (pc' := 633) (pcT := 658) W at_630 (by decide) rfl rfl (fun hq => absurd hq (by decide)) (fun _ => ?_)
        refine s_aload (pc' := 635) W at_633 rfl rfl rfl ?_
        refine s_iconst (pc' := 636) W (0 : Int32) at_635 rfl rfl ?_
        refine s_virt (pc' := 639) W (C0 := "java/lang/String") (w211 hw) (w81 hw) (w83 hw) (w82 hw) (w7 hw) (w84 hw) (notFace_of_selects (args := a0) (w83 hw)) (by decide) pd20 [(.int (0 : Int32))] rfl L1_.1 (c_charatL l hw W.old CS0 FM L1_ (i := 0) (by rw [List.length_append]; simp only [List.length_replicate]; omega)) all0 rfl at_636 0 (le rfl) (bl rfl) (bl rfl) (by decide) (by decide) rfl ?_
        rintro _ T vm _ W C18 ⟨rfl, rfl⟩
        rw [show ((List.replicate 45 (113 : Int32)) ++ σ6.1).getD 0 0 = (113 : Int32) from rfl]
        refine s_bipush (pc' := 641) W (113 : Int32) at_639 rfl rfl ?_
        refine s_icmpne (pc' := 644) (pcT := 656) W at_641 (by decide) rfl rfl (fun hq => absurd (by decide) hq) (fun _ => ?_)
        refine s_aload (pc' := 646) W at_644 rfl rfl rfl ?_
        refine s_bipush (pc' := 648) W (44 : Int32) at_646 rfl rfl ?_
        refine s_virt (pc' := 651) W (C0 := "java/lang/String") (w211 hw) (w81 hw) (w83 hw) (w82 hw) (w7 hw) (w84 hw) (notFace_of_selects (args := a0) (w83 hw)) (by decide) pd20 [(.int (44 : Int32))] rfl L1_.1 (c_charatL l hw W.old CS0 FM L1_ (i := 44) (by rw [List.length_append]; simp only [List.length_replicate]; omega)) all0 rfl at_648 0 (le rfl) (bl rfl) (bl rfl) (by decide) (by decide) rfl ?_
        rintro _ T vm _ W C19 ⟨rfl, rfl⟩
        rw [show ((List.replicate 45 (113 : Int32)) ++ σ6.1).getD 44 0 = (113 : Int32) from rfl]
        refine s_bipush (pc' := 653) W (113 : Int32) at_651 rfl rfl ?_
        refine s_icmpeq (pc' := 656) (pcT := 658) W at_653 (by decide) rfl rfl (fun _ => ?_) (fun hq => absurd (by decide) hq)
        refine s_aload (pc' := 660) W at_658 rfl rfl rfl ?_
        refine s_iconst (pc' := 661) W (0 : Int32) at_660 rfl rfl ?_
        refine s_iaload (pc' := 662) W (.int (Int32.ofNat σ6.1.length)) B (by decide) (by decide) rfl at_661 rfl ?_
        refine s_istore (pc' := 664) W #[iv p0, iv p1, iv p2, iv (1 : Int32), rv r, rv sr, rv tl, rv st, iv (45 : Int32), iv (Int32.ofNat (45 + σ6.1.length)), rv o, iv (0 : Int32), rv t1, iv (Int32.ofNat σ6.1.length)] at_662 rfl rfl ?_
        refine s_aload (pc' := 666) W at_664 rfl rfl rfl ?_
        refine s_aload (pc' := 668) W at_666 rfl rfl rfl ?_
        refine s_iload (pc' := 670) W at_668 rfl rfl ?_
        refine s_iload (pc' := 672) W at_670 rfl rfl ?_
        refine s_iconst (pc' := 673) W (0 : Int32) at_672 rfl rfl ?_
        refine s_static (pc' := 676) W (w212 hw) (w213 hw) (w3 hw) (w214 hw) (by decide) pd31 [(.ref t1), (.ref tl), (.int (45 : Int32)), (.int (Int32.ofNat σ6.1.length)), (.int (0 : Int32))] rfl (c_at l hw W.old CS0 FM (B := (List.replicate 45 (113 : Int32))) (t := σ6.1) (kk := 0) (by decide) ht6 (by decide) L1_ A) all0 rfl at_673 0 (le rfl) (bl rfl) (bl rfl) (by decide) (by decide) rfl ?_
        rintro _ T vm _ W C20 ⟨rfl, rfl⟩
        refine s_ifeq (pc' := 679) (pcT := 758) W at_676 (by decide) rfl rfl (fun hq => absurd hq (by decide)) (fun _ => ?_)
        refine s_aload (pc' := 681) W at_679 rfl rfl rfl ?_
        refine s_aload (pc' := 683) W at_681 rfl rfl rfl ?_
        refine s_iload (pc' := 685) W at_683 rfl rfl ?_
        refine s_iload (pc' := 687) W at_685 rfl rfl ?_
        refine s_iconst (pc' := 688) W (1 : Int32) at_687 rfl rfl ?_
        refine s_static (pc' := 691) W (w212 hw) (w213 hw) (w3 hw) (w214 hw) (by decide) pd31 [(.ref t1), (.ref tl), (.int (45 : Int32)), (.int (Int32.ofNat σ6.1.length)), (.int (1 : Int32))] rfl (c_at l hw W.old CS0 FM (B := (List.replicate 45 (113 : Int32))) (t := σ6.1) (kk := 1) (by decide) ht6 (by decide) L1_ A) all0 rfl at_688 0 (le rfl) (bl rfl) (bl rfl) (by decide) (by decide) rfl ?_
        rintro _ T vm _ W C21 ⟨rfl, rfl⟩
        refine s_ifeq (pc' := 694) (pcT := 758) W at_691 (by decide) rfl rfl (fun hq => absurd hq (by decide)) (fun _ => ?_)
        refine s_aload (pc' := 696) W at_694 rfl rfl rfl ?_
        refine s_aload (pc' := 698) W at_696 rfl rfl rfl ?_
        refine s_iload (pc' := 700) W at_698 rfl rfl ?_
        refine s_iload (pc' := 702) W at_700 rfl rfl ?_
        refine s_iconst (pc' := 703) W (2 : Int32) at_702 rfl rfl ?_
        refine s_static (pc' := 706) W (w212 hw) (w213 hw) (w3 hw) (w214 hw) (by decide) pd31 [(.ref t1), (.ref tl), (.int (45 : Int32)), (.int (Int32.ofNat σ6.1.length)), (.int (2 : Int32))] rfl (c_at l hw W.old CS0 FM (B := (List.replicate 45 (113 : Int32))) (t := σ6.1) (kk := 2) (by decide) ht6 (by decide) L1_ A) all0 rfl at_703 0 (le rfl) (bl rfl) (bl rfl) (by decide) (by decide) rfl ?_
        rintro _ T vm _ W C22 ⟨rfl, rfl⟩
        refine s_ifeq (pc' := 709) (pcT := 758) W at_706 (by decide) rfl rfl (fun hq => absurd hq (by decide)) (fun _ => ?_)
        refine s_aload (pc' := 711) W at_709 rfl rfl rfl ?_
        refine s_aload (pc' := 713) W at_711 rfl rfl rfl ?_
        refine s_iload (pc' := 715) W at_713 rfl rfl ?_
        refine s_iload (pc' := 717) W at_715 rfl rfl ?_
        refine s_iconst (pc' := 718) W (3 : Int32) at_717 rfl rfl ?_
        refine s_static (pc' := 721) W (w212 hw) (w213 hw) (w3 hw) (w214 hw) (by decide) pd31 [(.ref t1), (.ref tl), (.int (45 : Int32)), (.int (Int32.ofNat σ6.1.length)), (.int (3 : Int32))] rfl (c_at l hw W.old CS0 FM (B := (List.replicate 45 (113 : Int32))) (t := σ6.1) (kk := 3) (by decide) ht6 (by decide) L1_ A) all0 rfl at_718 0 (le rfl) (bl rfl) (bl rfl) (by decide) (by decide) rfl ?_
        rintro _ T vm _ W C23 ⟨rfl, rfl⟩
        refine s_ifeq (pc' := 724) (pcT := 758) W at_721 (by decide) rfl rfl (fun hq => absurd hq (by decide)) (fun _ => ?_)
        refine s_aload (pc' := 726) W at_724 rfl rfl rfl ?_
        refine s_aload (pc' := 728) W at_726 rfl rfl rfl ?_
        refine s_iload (pc' := 730) W at_728 rfl rfl ?_
        refine s_iload (pc' := 732) W at_730 rfl rfl ?_
        refine s_iconst (pc' := 733) W (4 : Int32) at_732 rfl rfl ?_
        refine s_static (pc' := 736) W (w212 hw) (w213 hw) (w3 hw) (w214 hw) (by decide) pd31 [(.ref t1), (.ref tl), (.int (45 : Int32)), (.int (Int32.ofNat σ6.1.length)), (.int (4 : Int32))] rfl (c_at l hw W.old CS0 FM (B := (List.replicate 45 (113 : Int32))) (t := σ6.1) (kk := 4) (by decide) ht6 (by decide) L1_ A) all0 rfl at_733 0 (le rfl) (bl rfl) (bl rfl) (by decide) (by decide) rfl ?_
        rintro _ T vm _ W C24 ⟨rfl, rfl⟩
        refine s_ifeq (pc' := 739) (pcT := 758) W at_736 (by decide) rfl rfl (fun hq => absurd hq (by decide)) (fun _ => ?_)
        refine s_aload (pc' := 741) W at_739 rfl rfl rfl ?_
        refine s_aload (pc' := 743) W at_741 rfl rfl rfl ?_
        refine s_iload (pc' := 745) W at_743 rfl rfl ?_
        refine s_iload (pc' := 747) W at_745 rfl rfl ?_
        refine s_iconst (pc' := 748) W (5 : Int32) at_747 rfl rfl ?_
        refine s_static (pc' := 751) W (w212 hw) (w213 hw) (w3 hw) (w214 hw) (by decide) pd31 [(.ref t1), (.ref tl), (.int (45 : Int32)), (.int (Int32.ofNat σ6.1.length)), (.int (5 : Int32))] rfl (c_at l hw W.old CS0 FM (B := (List.replicate 45 (113 : Int32))) (t := σ6.1) (kk := 5) (by decide) ht6 (by decide) L1_ A) all0 rfl at_748 0 (le rfl) (bl rfl) (bl rfl) (by decide) (by decide) rfl ?_
        rintro _ T vm _ W C25 ⟨rfl, rfl⟩
        refine s_ifeq (pc' := 754) (pcT := 758) W at_751 (by decide) rfl rfl (fun hq => absurd hq (by decide)) (fun _ => ?_)
        refine s_iconst (pc' := 755) W (1 : Int32) at_754 rfl rfl ?_
        refine s_goto (pc' := 759) W at_755 (by decide) rfl ?_
        refine s_nreturn W (t := .boolean) rfl (by simp) at_759 (by decide) (by decide) ?_
        intro vm' C'
        exact rfl
      · have h5 : 50 < 45 + σ6.1.length := by rcases Nat.lt_or_ge 50 (45 + σ6.1.length) with q | q; exact q; exact absurd h50 (n_ge (n := 45 + σ6.1.length) (i := 50) q (by decide))
        rw [if_pos (Or.inr h5)] at HO
        have Fo : Fld Z h o "java/util/Optional" "value" "Ljava/lang/Object;" .null := by rcases HO with HO | ⟨o1, t1, c1, k1, q, q2, -⟩; exact HO.2; cases q
        refine s_iconst (pc' := 572) W (1 : Int32) at_571 rfl rfl ?_
        refine s_goto (pc' := 576) W at_572 (by decide) rfl ?_
        refine s_istore (pc' := 578) W #[iv p0, iv p1, iv p2, iv (1 : Int32), rv r, rv sr, rv tl, rv st, iv (45 : Int32), iv (Int32.ofNat (45 + σ6.1.length)), rv o, iv (1 : Int32), .unset, .unset] at_576 rfl rfl ?_
        refine s_iload (pc' := 580) W at_578 rfl rfl ?_
        refine s_ifeq (pc' := 583) (pcT := 597) W at_580 (by decide) rfl rfl (fun hq => absurd hq (by decide)) (fun _ => ?_)
        refine s_aload (pc' := 585) W at_583 rfl rfl rfl ?_
        refine s_virt (pc' := 588) W (C0 := "java/util/Optional") (w119 hw) (w120 hw) (w122 hw) (w121 hw) (w116 hw) (w123 hw) (notFace_of_selects (args := a0) (w122 hw)) (by decide) pd7 [] rfl Eo (c_opresN l hw W.old Fo) all0 rfl at_585 0 (le rfl) (bl rfl) (bl rfl) (by decide) (by decide) rfl ?_
        rintro _ T vm _ W C14 ⟨rfl, rfl⟩
        refine s_ifne (pc' := 591) (pcT := 595) W at_588 (by decide) rfl rfl (fun hq => absurd (by decide) hq) (fun _ => ?_)
        refine s_iconst (pc' := 592) W (1 : Int32) at_591 rfl rfl ?_
        refine s_goto (pc' := 596) W at_592 (by decide) rfl ?_
        refine s_nreturn W (t := .boolean) rfl (by simp) at_596 (by decide) (by decide) ?_
        intro vm' C'
        exact rfl
set_option maxRecDepth 65536 in
set_option maxHeartbeats 40000000 in
theorem ef_law (m : MethodId) (x0 : Int32) (x1 : Int32) (x2 : Int32) : entryFrame m #[(.int x0), (.int x1), (.int x2)] maxLocals = mkF m 0 #[.val (.int x0), .val (.int x1), .val (.int x2), .unset, .unset, .unset, .unset, .unset, .unset, .unset, .unset, .unset, .unset, .unset] [] := by first | (simp [entryFrame, mkF, argsToLocals, Value.category, maxLocals]; done) | rfl
set_option maxRecDepth 65536 in
set_option maxHeartbeats 40000000 in
theorem c_law (l : Launch) {Z : State} {a0 : Array Value} (hw : Hw Z a0) {n0 : Nat} {h : Heap} (O : Old Z n0 h) (CS0 : CS Z) (FM : Fmt Z) (OE0 : OE Z) {p0 p1 p2 : Int32} :
    Con l Z EL1 n0 x code maxLocals ret tables_1 room_1 #[(.int p0), (.int p1), (.int p2)] h [] (fun v vm' h' => v = some (.int 1)) := by
  refine Con.of pn43 O (el hw) ?_
  intro pg_ e s m below meth cd_ T W hs_ hSf
  rw [ef_law]
  refine s_iload_n (pc' := 1) W at_0 rfl rfl ?_
  refine s_iconst (pc' := 2) W (1 : Int32) at_1 rfl rfl ?_
  refine s_iand (pc' := 3) W at_2 rfl ?_
  refine s_ifeq (pc' := 6) (pcT := 10) W at_3 (by decide) rfl rfl (fun hm => ?_) (fun hm => ?_)
  · refine s_iconst (pc' := 11) W (0 : Int32) at_10 rfl rfl ?_
    refine s_istore_n (pc' := 12) W #[iv p0, iv p1, iv p2, iv (0 : Int32), .unset, .unset, .unset, .unset, .unset, .unset, .unset, .unset, .unset, .unset] at_11 rfl rfl ?_
    refine s_bipush (pc' := 14) W (6 : Int32) at_12 rfl rfl ?_
    refine s_newarr (pc' := 16) W (aty := .char) 6 "[C" (by decide) (w0 hw) at_14 (by decide) (by decide) (by decide) (by decide) (by decide) rfl ?_
    intro r T h k_r g_r
    intro W K1 C1 M_r V_r X_r
    have V_r : Arv Z _ r k_r .char (6 : Int32) [.int 0, .int 0, .int 0, .int 0, .int 0, .int 0] (.int 0) := V_r
    refine s_dup (pc' := 17) W at_16 rfl rfl ?_
    refine s_iconst (pc' := 18) W (0 : Int32) at_17 rfl rfl ?_
    refine s_iload_n (pc' := 19) W at_18 rfl rfl ?_
    refine s_static (pc' := 22) W (w1 hw) (w2 hw) (w3 hw) (w4 hw) (by decide) pd20 [(.int p0)] rfl (c_draw l hw W.old) all0 rfl at_19 3 (le rfl) (bl rfl) (bl rfl) (by decide) (by decide) rfl ?_
    rintro _ T vm _ W C2 ⟨d0, rfl, rfl, hd0⟩
    replace M_r := M_r.mv C2
    refine s_castore (pc' := 23) W 0 V_r M_r rfl (by decide) (by decide) (bt rfl) at_22 rfl ?_
    intro T h W K3 C3 Vn3
    replace M_r := M_r.mv C3
    replace X_r := X_r.keep K3
    have V_r := Vn3
    clear Vn3
    rw [hd0.nar] at V_r
    have V_r : Arv Z _ r k_r .char (6 : Int32) [.int d0, .int 0, .int 0, .int 0, .int 0, .int 0] (.int 0) := V_r
    refine s_dup (pc' := 24) W at_23 rfl rfl ?_
    refine s_iconst (pc' := 25) W (1 : Int32) at_24 rfl rfl ?_
    refine s_iload_n (pc' := 26) W at_25 rfl rfl ?_
    refine s_bipush (pc' := 28) W (10 : Int32) at_26 rfl rfl ?_
    refine s_iushr (pc' := 29) W at_28 rfl ?_
    refine s_static (pc' := 32) W (w1 hw) (w2 hw) (w3 hw) (w4 hw) (by decide) pd20 [(.int (Jvm.Free.XT.ushr p0 (10 : Int32)))] rfl (c_draw l hw W.old) all0 rfl at_29 3 (le rfl) (bl rfl) (bl rfl) (by decide) (by decide) rfl ?_
    rintro _ T vm _ W C4 ⟨d1, rfl, rfl, hd1⟩
    replace M_r := M_r.mv C4
    refine s_castore (pc' := 33) W 1 V_r M_r rfl (by decide) (by decide) (bt rfl) at_32 rfl ?_
    intro T h W K5 C5 Vn5
    replace M_r := M_r.mv C5
    replace X_r := X_r.keep K5
    have V_r := Vn5
    clear Vn5
    rw [hd1.nar] at V_r
    have V_r : Arv Z _ r k_r .char (6 : Int32) [.int d0, .int d1, .int 0, .int 0, .int 0, .int 0] (.int 0) := V_r
    refine s_dup (pc' := 34) W at_33 rfl rfl ?_
    refine s_iconst (pc' := 35) W (2 : Int32) at_34 rfl rfl ?_
    refine s_iload_n (pc' := 36) W at_35 rfl rfl ?_
    refine s_bipush (pc' := 38) W (20 : Int32) at_36 rfl rfl ?_
    refine s_iushr (pc' := 39) W at_38 rfl ?_
    refine s_static (pc' := 42) W (w1 hw) (w2 hw) (w3 hw) (w4 hw) (by decide) pd20 [(.int (Jvm.Free.XT.ushr p0 (20 : Int32)))] rfl (c_draw l hw W.old) all0 rfl at_39 3 (le rfl) (bl rfl) (bl rfl) (by decide) (by decide) rfl ?_
    rintro _ T vm _ W C6 ⟨d2, rfl, rfl, hd2⟩
    replace M_r := M_r.mv C6
    refine s_castore (pc' := 43) W 2 V_r M_r rfl (by decide) (by decide) (bt rfl) at_42 rfl ?_
    intro T h W K7 C7 Vn7
    replace M_r := M_r.mv C7
    replace X_r := X_r.keep K7
    have V_r := Vn7
    clear Vn7
    rw [hd2.nar] at V_r
    have V_r : Arv Z _ r k_r .char (6 : Int32) [.int d0, .int d1, .int d2, .int 0, .int 0, .int 0] (.int 0) := V_r
    refine s_dup (pc' := 44) W at_43 rfl rfl ?_
    refine s_iconst (pc' := 45) W (3 : Int32) at_44 rfl rfl ?_
    refine s_iload_n (pc' := 46) W at_45 rfl rfl ?_
    refine s_static (pc' := 49) W (w1 hw) (w2 hw) (w3 hw) (w4 hw) (by decide) pd20 [(.int p1)] rfl (c_draw l hw W.old) all0 rfl at_46 3 (le rfl) (bl rfl) (bl rfl) (by decide) (by decide) rfl ?_
    rintro _ T vm _ W C8 ⟨d3, rfl, rfl, hd3⟩
    replace M_r := M_r.mv C8
    refine s_castore (pc' := 50) W 3 V_r M_r rfl (by decide) (by decide) (bt rfl) at_49 rfl ?_
    intro T h W K9 C9 Vn9
    replace M_r := M_r.mv C9
    replace X_r := X_r.keep K9
    have V_r := Vn9
    clear Vn9
    rw [hd3.nar] at V_r
    have V_r : Arv Z _ r k_r .char (6 : Int32) [.int d0, .int d1, .int d2, .int d3, .int 0, .int 0] (.int 0) := V_r
    refine s_dup (pc' := 51) W at_50 rfl rfl ?_
    refine s_iconst (pc' := 52) W (4 : Int32) at_51 rfl rfl ?_
    refine s_iload_n (pc' := 53) W at_52 rfl rfl ?_
    refine s_bipush (pc' := 55) W (10 : Int32) at_53 rfl rfl ?_
    refine s_iushr (pc' := 56) W at_55 rfl ?_
    refine s_static (pc' := 59) W (w1 hw) (w2 hw) (w3 hw) (w4 hw) (by decide) pd20 [(.int (Jvm.Free.XT.ushr p1 (10 : Int32)))] rfl (c_draw l hw W.old) all0 rfl at_56 3 (le rfl) (bl rfl) (bl rfl) (by decide) (by decide) rfl ?_
    rintro _ T vm _ W C10 ⟨d4, rfl, rfl, hd4⟩
    replace M_r := M_r.mv C10
    refine s_castore (pc' := 60) W 4 V_r M_r rfl (by decide) (by decide) (bt rfl) at_59 rfl ?_
    intro T h W K11 C11 Vn11
    replace M_r := M_r.mv C11
    replace X_r := X_r.keep K11
    have V_r := Vn11
    clear Vn11
    rw [hd4.nar] at V_r
    have V_r : Arv Z _ r k_r .char (6 : Int32) [.int d0, .int d1, .int d2, .int d3, .int d4, .int 0] (.int 0) := V_r
    refine s_dup (pc' := 61) W at_60 rfl rfl ?_
    refine s_iconst (pc' := 62) W (5 : Int32) at_61 rfl rfl ?_
    refine s_iload_n (pc' := 63) W at_62 rfl rfl ?_
    refine s_bipush (pc' := 65) W (20 : Int32) at_63 rfl rfl ?_
    refine s_iushr (pc' := 66) W at_65 rfl ?_
    refine s_static (pc' := 69) W (w1 hw) (w2 hw) (w3 hw) (w4 hw) (by decide) pd20 [(.int (Jvm.Free.XT.ushr p1 (20 : Int32)))] rfl (c_draw l hw W.old) all0 rfl at_66 3 (le rfl) (bl rfl) (bl rfl) (by decide) (by decide) rfl ?_
    rintro _ T vm _ W C12 ⟨d5, rfl, rfl, hd5⟩
    replace M_r := M_r.mv C12
    refine s_castore (pc' := 70) W 5 V_r M_r rfl (by decide) (by decide) (bt rfl) at_69 rfl ?_
    intro T h W K13 C13 Vn13
    replace M_r := M_r.mv C13
    replace X_r := X_r.keep K13
    have V_r := Vn13
    clear Vn13
    rw [hd5.nar] at V_r
    have V_r : Arv Z _ r k_r .char (6 : Int32) [.int d0, .int d1, .int d2, .int d3, .int d4, .int d5] (.int 0) := V_r
    refine s_astore (pc' := 72) W #[iv p0, iv p1, iv p2, iv (0 : Int32), rv r, .unset, .unset, .unset, .unset, .unset, .unset, .unset, .unset, .unset] at_70 rfl rfl rfl ?_
    refine s_iload_n (pc' := 73) W at_72 rfl rfl ?_
    refine s_ifeq (pc' := 76) (pcT := 408) W at_73 (by decide) rfl rfl (fun _ => ?_) (fun hq => absurd (by decide) hq)
    refine s_new (pc' := 411) W (w5 hw) (w6 hw) (w7 hw) at_408 (by decide) (by decide) rfl ?_
    intro sr T h g_sr
    have ne_r_sr : @Ne Nat r sr := by have := nlt M_r.2.1; omega
    intro W K14 C14 M_sr E_sr D_sr U_sr
    replace M_r := M_r.mv C14
    replace X_r := X_r.keep K14
    replace V_r := V_r.keep K14 nin0
    have F_coder_sr : Fld Z _ sr "java/lang/String" "coder" "B" (.int 0) := D_sr (Or.inr (w31 hw)) (ty := .byte) (by decide)
    have F_value_sr : Fld Z _ sr "java/lang/String" "value" "[B" .null := D_sr (Or.inr (w33 hw)) (ty := (.array .byte)) (by decide)
    have hLs : ∀ c ∈ [d0, d1, d2, d3, d4, d5], L1 c := by simp [hd0, hd1, hd2, hd3, hd4, hd5]
    refine s_dup (pc' := 412) W at_411 rfl rfl ?_
    refine s_aload (pc' := 414) W at_412 rfl rfl rfl ?_
    refine s_init (pc' := 417) W rfl (w8 hw) (w9 hw) (w7 hw) (w10 hw) (by decide) pd27 [(.ref r)] rfl (c_strinit l hw W.old CS0 (cs := [d0, d1, d2, d3, d4, d5]) (n := 6) (by simp) (by decide) hLs E_sr M_sr.1 M_sr.2.1 F_coder_sr F_value_sr V_r (by decide)) (allS ⟨M_sr.2.1, M_sr.2.2⟩ all0) rfl at_414 1 (le rfl) (bl rfl) (bl rfl) (by decide) (by decide) rfl ?_
    rintro _ T vm h W C15 ⟨rfl, K15, b_s, kb_s, Ls⟩
    replace M_r := M_r.mv C15
    replace X_r := X_r.keep K15
    replace V_r := V_r.keep K15 (ninS ne_r_sr nin0)
    replace E_sr := E_sr.keep K15
    replace M_sr := M_sr.mv C15
    refine s_astore (pc' := 419) W #[iv p0, iv p1, iv p2, iv (0 : Int32), rv r, rv sr, .unset, .unset, .unset, .unset, .unset, .unset, .unset, .unset] at_417 rfl rfl rfl ?_
    refine s_bipush (pc' := 421) W (6 : Int32) at_419 rfl rfl ?_
    replace W := W.more (cells' := 3) (slots' := 16) (by (try dsimp only) <;> omega) (by (try dsimp only) <;> omega)
    exact lp_rest0 hw CS0 FM OE0 hd0 hd1 hd2 hd3 hd4 hd5 V_r Ls W
  · refine s_iconst (pc' := 7) W (1 : Int32) at_6 rfl rfl ?_
    refine s_goto (pc' := 11) W at_7 (by decide) rfl ?_
    refine s_istore_n (pc' := 12) W #[iv p0, iv p1, iv p2, iv (1 : Int32), .unset, .unset, .unset, .unset, .unset, .unset, .unset, .unset, .unset, .unset] at_11 rfl rfl ?_
    refine s_bipush (pc' := 14) W (6 : Int32) at_12 rfl rfl ?_
    refine s_newarr (pc' := 16) W (aty := .char) 6 "[C" (by decide) (w0 hw) at_14 (by decide) (by decide) (by decide) (by decide) (by decide) rfl ?_
    intro r T h k_r g_r
    intro W K16 C16 M_r V_r X_r
    have V_r : Arv Z _ r k_r .char (6 : Int32) [.int 0, .int 0, .int 0, .int 0, .int 0, .int 0] (.int 0) := V_r
    refine s_dup (pc' := 17) W at_16 rfl rfl ?_
    refine s_iconst (pc' := 18) W (0 : Int32) at_17 rfl rfl ?_
    refine s_iload_n (pc' := 19) W at_18 rfl rfl ?_
    refine s_static (pc' := 22) W (w1 hw) (w2 hw) (w3 hw) (w4 hw) (by decide) pd20 [(.int p0)] rfl (c_draw l hw W.old) all0 rfl at_19 3 (le rfl) (bl rfl) (bl rfl) (by decide) (by decide) rfl ?_
    rintro _ T vm _ W C17 ⟨d0, rfl, rfl, hd0⟩
    replace M_r := M_r.mv C17
    refine s_castore (pc' := 23) W 0 V_r M_r rfl (by decide) (by decide) (bt rfl) at_22 rfl ?_
    intro T h W K18 C18 Vn18
    replace M_r := M_r.mv C18
    replace X_r := X_r.keep K18
    have V_r := Vn18
    clear Vn18
    rw [hd0.nar] at V_r
    have V_r : Arv Z _ r k_r .char (6 : Int32) [.int d0, .int 0, .int 0, .int 0, .int 0, .int 0] (.int 0) := V_r
    refine s_dup (pc' := 24) W at_23 rfl rfl ?_
    refine s_iconst (pc' := 25) W (1 : Int32) at_24 rfl rfl ?_
    refine s_iload_n (pc' := 26) W at_25 rfl rfl ?_
    refine s_bipush (pc' := 28) W (10 : Int32) at_26 rfl rfl ?_
    refine s_iushr (pc' := 29) W at_28 rfl ?_
    refine s_static (pc' := 32) W (w1 hw) (w2 hw) (w3 hw) (w4 hw) (by decide) pd20 [(.int (Jvm.Free.XT.ushr p0 (10 : Int32)))] rfl (c_draw l hw W.old) all0 rfl at_29 3 (le rfl) (bl rfl) (bl rfl) (by decide) (by decide) rfl ?_
    rintro _ T vm _ W C19 ⟨d1, rfl, rfl, hd1⟩
    replace M_r := M_r.mv C19
    refine s_castore (pc' := 33) W 1 V_r M_r rfl (by decide) (by decide) (bt rfl) at_32 rfl ?_
    intro T h W K20 C20 Vn20
    replace M_r := M_r.mv C20
    replace X_r := X_r.keep K20
    have V_r := Vn20
    clear Vn20
    rw [hd1.nar] at V_r
    have V_r : Arv Z _ r k_r .char (6 : Int32) [.int d0, .int d1, .int 0, .int 0, .int 0, .int 0] (.int 0) := V_r
    refine s_dup (pc' := 34) W at_33 rfl rfl ?_
    refine s_iconst (pc' := 35) W (2 : Int32) at_34 rfl rfl ?_
    refine s_iload_n (pc' := 36) W at_35 rfl rfl ?_
    refine s_bipush (pc' := 38) W (20 : Int32) at_36 rfl rfl ?_
    refine s_iushr (pc' := 39) W at_38 rfl ?_
    refine s_static (pc' := 42) W (w1 hw) (w2 hw) (w3 hw) (w4 hw) (by decide) pd20 [(.int (Jvm.Free.XT.ushr p0 (20 : Int32)))] rfl (c_draw l hw W.old) all0 rfl at_39 3 (le rfl) (bl rfl) (bl rfl) (by decide) (by decide) rfl ?_
    rintro _ T vm _ W C21 ⟨d2, rfl, rfl, hd2⟩
    replace M_r := M_r.mv C21
    refine s_castore (pc' := 43) W 2 V_r M_r rfl (by decide) (by decide) (bt rfl) at_42 rfl ?_
    intro T h W K22 C22 Vn22
    replace M_r := M_r.mv C22
    replace X_r := X_r.keep K22
    have V_r := Vn22
    clear Vn22
    rw [hd2.nar] at V_r
    have V_r : Arv Z _ r k_r .char (6 : Int32) [.int d0, .int d1, .int d2, .int 0, .int 0, .int 0] (.int 0) := V_r
    refine s_dup (pc' := 44) W at_43 rfl rfl ?_
    refine s_iconst (pc' := 45) W (3 : Int32) at_44 rfl rfl ?_
    refine s_iload_n (pc' := 46) W at_45 rfl rfl ?_
    refine s_static (pc' := 49) W (w1 hw) (w2 hw) (w3 hw) (w4 hw) (by decide) pd20 [(.int p1)] rfl (c_draw l hw W.old) all0 rfl at_46 3 (le rfl) (bl rfl) (bl rfl) (by decide) (by decide) rfl ?_
    rintro _ T vm _ W C23 ⟨d3, rfl, rfl, hd3⟩
    replace M_r := M_r.mv C23
    refine s_castore (pc' := 50) W 3 V_r M_r rfl (by decide) (by decide) (bt rfl) at_49 rfl ?_
    intro T h W K24 C24 Vn24
    replace M_r := M_r.mv C24
    replace X_r := X_r.keep K24
    have V_r := Vn24
    clear Vn24
    rw [hd3.nar] at V_r
    have V_r : Arv Z _ r k_r .char (6 : Int32) [.int d0, .int d1, .int d2, .int d3, .int 0, .int 0] (.int 0) := V_r
    refine s_dup (pc' := 51) W at_50 rfl rfl ?_
    refine s_iconst (pc' := 52) W (4 : Int32) at_51 rfl rfl ?_
    refine s_iload_n (pc' := 53) W at_52 rfl rfl ?_
    refine s_bipush (pc' := 55) W (10 : Int32) at_53 rfl rfl ?_
    refine s_iushr (pc' := 56) W at_55 rfl ?_
    refine s_static (pc' := 59) W (w1 hw) (w2 hw) (w3 hw) (w4 hw) (by decide) pd20 [(.int (Jvm.Free.XT.ushr p1 (10 : Int32)))] rfl (c_draw l hw W.old) all0 rfl at_56 3 (le rfl) (bl rfl) (bl rfl) (by decide) (by decide) rfl ?_
    rintro _ T vm _ W C25 ⟨d4, rfl, rfl, hd4⟩
    replace M_r := M_r.mv C25
    refine s_castore (pc' := 60) W 4 V_r M_r rfl (by decide) (by decide) (bt rfl) at_59 rfl ?_
    intro T h W K26 C26 Vn26
    replace M_r := M_r.mv C26
    replace X_r := X_r.keep K26
    have V_r := Vn26
    clear Vn26
    rw [hd4.nar] at V_r
    have V_r : Arv Z _ r k_r .char (6 : Int32) [.int d0, .int d1, .int d2, .int d3, .int d4, .int 0] (.int 0) := V_r
    refine s_dup (pc' := 61) W at_60 rfl rfl ?_
    refine s_iconst (pc' := 62) W (5 : Int32) at_61 rfl rfl ?_
    refine s_iload_n (pc' := 63) W at_62 rfl rfl ?_
    refine s_bipush (pc' := 65) W (20 : Int32) at_63 rfl rfl ?_
    refine s_iushr (pc' := 66) W at_65 rfl ?_
    refine s_static (pc' := 69) W (w1 hw) (w2 hw) (w3 hw) (w4 hw) (by decide) pd20 [(.int (Jvm.Free.XT.ushr p1 (20 : Int32)))] rfl (c_draw l hw W.old) all0 rfl at_66 3 (le rfl) (bl rfl) (bl rfl) (by decide) (by decide) rfl ?_
    rintro _ T vm _ W C27 ⟨d5, rfl, rfl, hd5⟩
    replace M_r := M_r.mv C27
    refine s_castore (pc' := 70) W 5 V_r M_r rfl (by decide) (by decide) (bt rfl) at_69 rfl ?_
    intro T h W K28 C28 Vn28
    replace M_r := M_r.mv C28
    replace X_r := X_r.keep K28
    have V_r := Vn28
    clear Vn28
    rw [hd5.nar] at V_r
    have V_r : Arv Z _ r k_r .char (6 : Int32) [.int d0, .int d1, .int d2, .int d3, .int d4, .int d5] (.int 0) := V_r
    refine s_astore (pc' := 72) W #[iv p0, iv p1, iv p2, iv (1 : Int32), rv r, .unset, .unset, .unset, .unset, .unset, .unset, .unset, .unset, .unset] at_70 rfl rfl rfl ?_
    refine s_iload_n (pc' := 73) W at_72 rfl rfl ?_
    refine s_ifeq (pc' := 76) (pcT := 408) W at_73 (by decide) rfl rfl (fun hq => absurd hq (by decide)) (fun _ => ?_)
    refine s_bipush (pc' := 78) W (51 : Int32) at_76 rfl rfl ?_
    refine s_newarr (pc' := 80) W (aty := .char) 51 "[C" (by decide) (w0 hw) at_78 (by decide) (by decide) (by decide) (by decide) (by decide) rfl ?_
    intro q T h k_q g_q
    have ne_r_q : @Ne Nat r q := by have := nlt M_r.2.1; omega
    intro W K29 C29 M_q V_q X_q
    replace M_r := M_r.mv C29
    replace X_r := X_r.keep K29
    replace V_r := V_r.keep K29 nin0
    have V_q : Arv Z _ q k_q .char (51 : Int32) [.int 0, .int 0, .int 0, .int 0, .int 0, .int 0, .int 0, .int 0, .int 0, .int 0, .int 0, .int 0, .int 0, .int 0, .int 0, .int 0, .int 0, .int 0, .int 0, .int 0, .int 0, .int 0, .int 0, .int 0, .int 0, .int 0, .int 0, .int 0, .int 0, .int 0, .int 0, .int 0, .int 0, .int 0, .int 0, .int 0, .int 0, .int 0, .int 0, .int 0, .int 0, .int 0, .int 0, .int 0, .int 0, .int 0, .int 0, .int 0, .int 0, .int 0, .int 0] (.int 0) := V_q
    refine s_dup (pc' := 81) W at_80 rfl rfl ?_
    refine s_iconst (pc' := 82) W (0 : Int32) at_81 rfl rfl ?_
    refine s_bipush (pc' := 84) W (113 : Int32) at_82 rfl rfl ?_
    refine s_castore (pc' := 85) W 0 V_q M_q rfl (by decide) (by decide) (bt rfl) at_84 rfl ?_
    intro T h W K30 C30 Vn30
    replace M_r := M_r.mv C30
    replace X_r := X_r.keep K30
    replace V_r := V_r.keep K30 (ninS ne_r_q nin0)
    replace M_q := M_q.mv C30
    replace X_q := X_q.keep K30
    have V_q := Vn30
    clear Vn30
    rw [show nar .char (113 : Int32) = 113 from by decide] at V_q
    have V_q : Arv Z _ q k_q .char (51 : Int32) [.int 113, .int 0, .int 0, .int 0, .int 0, .int 0, .int 0, .int 0, .int 0, .int 0, .int 0, .int 0, .int 0, .int 0, .int 0, .int 0, .int 0, .int 0, .int 0, .int 0, .int 0, .int 0, .int 0, .int 0, .int 0, .int 0, .int 0, .int 0, .int 0, .int 0, .int 0, .int 0, .int 0, .int 0, .int 0, .int 0, .int 0, .int 0, .int 0, .int 0, .int 0, .int 0, .int 0, .int 0, .int 0, .int 0, .int 0, .int 0, .int 0, .int 0, .int 0] (.int 0) := V_q
    refine s_dup (pc' := 86) W at_85 rfl rfl ?_
    refine s_iconst (pc' := 87) W (1 : Int32) at_86 rfl rfl ?_
    refine s_bipush (pc' := 89) W (113 : Int32) at_87 rfl rfl ?_
    refine s_castore (pc' := 90) W 1 V_q M_q rfl (by decide) (by decide) (bt rfl) at_89 rfl ?_
    intro T h W K31 C31 Vn31
    replace M_r := M_r.mv C31
    replace X_r := X_r.keep K31
    replace V_r := V_r.keep K31 (ninS ne_r_q nin0)
    replace M_q := M_q.mv C31
    replace X_q := X_q.keep K31
    have V_q := Vn31
    clear Vn31
    rw [show nar .char (113 : Int32) = 113 from by decide] at V_q
    have V_q : Arv Z _ q k_q .char (51 : Int32) [.int 113, .int 113, .int 0, .int 0, .int 0, .int 0, .int 0, .int 0, .int 0, .int 0, .int 0, .int 0, .int 0, .int 0, .int 0, .int 0, .int 0, .int 0, .int 0, .int 0, .int 0, .int 0, .int 0, .int 0, .int 0, .int 0, .int 0, .int 0, .int 0, .int 0, .int 0, .int 0, .int 0, .int 0, .int 0, .int 0, .int 0, .int 0, .int 0, .int 0, .int 0, .int 0, .int 0, .int 0, .int 0, .int 0, .int 0, .int 0, .int 0, .int 0, .int 0] (.int 0) := V_q
    refine s_dup (pc' := 91) W at_90 rfl rfl ?_
    refine s_iconst (pc' := 92) W (2 : Int32) at_91 rfl rfl ?_
    refine s_bipush (pc' := 94) W (113 : Int32) at_92 rfl rfl ?_
    refine s_castore (pc' := 95) W 2 V_q M_q rfl (by decide) (by decide) (bt rfl) at_94 rfl ?_
    intro T h W K32 C32 Vn32
    replace M_r := M_r.mv C32
    replace X_r := X_r.keep K32
    replace V_r := V_r.keep K32 (ninS ne_r_q nin0)
    replace M_q := M_q.mv C32
    replace X_q := X_q.keep K32
    have V_q := Vn32
    clear Vn32
    rw [show nar .char (113 : Int32) = 113 from by decide] at V_q
    have V_q : Arv Z _ q k_q .char (51 : Int32) [.int 113, .int 113, .int 113, .int 0, .int 0, .int 0, .int 0, .int 0, .int 0, .int 0, .int 0, .int 0, .int 0, .int 0, .int 0, .int 0, .int 0, .int 0, .int 0, .int 0, .int 0, .int 0, .int 0, .int 0, .int 0, .int 0, .int 0, .int 0, .int 0, .int 0, .int 0, .int 0, .int 0, .int 0, .int 0, .int 0, .int 0, .int 0, .int 0, .int 0, .int 0, .int 0, .int 0, .int 0, .int 0, .int 0, .int 0, .int 0, .int 0, .int 0, .int 0] (.int 0) := V_q
    refine s_dup (pc' := 96) W at_95 rfl rfl ?_
    refine s_iconst (pc' := 97) W (3 : Int32) at_96 rfl rfl ?_
    refine s_bipush (pc' := 99) W (113 : Int32) at_97 rfl rfl ?_
    refine s_castore (pc' := 100) W 3 V_q M_q rfl (by decide) (by decide) (bt rfl) at_99 rfl ?_
    intro T h W K33 C33 Vn33
    replace M_r := M_r.mv C33
    replace X_r := X_r.keep K33
    replace V_r := V_r.keep K33 (ninS ne_r_q nin0)
    replace M_q := M_q.mv C33
    replace X_q := X_q.keep K33
    have V_q := Vn33
    clear Vn33
    rw [show nar .char (113 : Int32) = 113 from by decide] at V_q
    have V_q : Arv Z _ q k_q .char (51 : Int32) [.int 113, .int 113, .int 113, .int 113, .int 0, .int 0, .int 0, .int 0, .int 0, .int 0, .int 0, .int 0, .int 0, .int 0, .int 0, .int 0, .int 0, .int 0, .int 0, .int 0, .int 0, .int 0, .int 0, .int 0, .int 0, .int 0, .int 0, .int 0, .int 0, .int 0, .int 0, .int 0, .int 0, .int 0, .int 0, .int 0, .int 0, .int 0, .int 0, .int 0, .int 0, .int 0, .int 0, .int 0, .int 0, .int 0, .int 0, .int 0, .int 0, .int 0, .int 0] (.int 0) := V_q
    refine s_dup (pc' := 101) W at_100 rfl rfl ?_
    refine s_iconst (pc' := 102) W (4 : Int32) at_101 rfl rfl ?_
    refine s_bipush (pc' := 104) W (113 : Int32) at_102 rfl rfl ?_
    refine s_castore (pc' := 105) W 4 V_q M_q rfl (by decide) (by decide) (bt rfl) at_104 rfl ?_
    intro T h W K34 C34 Vn34
    replace M_r := M_r.mv C34
    replace X_r := X_r.keep K34
    replace V_r := V_r.keep K34 (ninS ne_r_q nin0)
    replace M_q := M_q.mv C34
    replace X_q := X_q.keep K34
    have V_q := Vn34
    clear Vn34
    rw [show nar .char (113 : Int32) = 113 from by decide] at V_q
    have V_q : Arv Z _ q k_q .char (51 : Int32) [.int 113, .int 113, .int 113, .int 113, .int 113, .int 0, .int 0, .int 0, .int 0, .int 0, .int 0, .int 0, .int 0, .int 0, .int 0, .int 0, .int 0, .int 0, .int 0, .int 0, .int 0, .int 0, .int 0, .int 0, .int 0, .int 0, .int 0, .int 0, .int 0, .int 0, .int 0, .int 0, .int 0, .int 0, .int 0, .int 0, .int 0, .int 0, .int 0, .int 0, .int 0, .int 0, .int 0, .int 0, .int 0, .int 0, .int 0, .int 0, .int 0, .int 0, .int 0] (.int 0) := V_q
    refine s_dup (pc' := 106) W at_105 rfl rfl ?_
    refine s_iconst (pc' := 107) W (5 : Int32) at_106 rfl rfl ?_
    refine s_bipush (pc' := 109) W (113 : Int32) at_107 rfl rfl ?_
    refine s_castore (pc' := 110) W 5 V_q M_q rfl (by decide) (by decide) (bt rfl) at_109 rfl ?_
    intro T h W K35 C35 Vn35
    replace M_r := M_r.mv C35
    replace X_r := X_r.keep K35
    replace V_r := V_r.keep K35 (ninS ne_r_q nin0)
    replace M_q := M_q.mv C35
    replace X_q := X_q.keep K35
    have V_q := Vn35
    clear Vn35
    rw [show nar .char (113 : Int32) = 113 from by decide] at V_q
    have V_q : Arv Z _ q k_q .char (51 : Int32) [.int 113, .int 113, .int 113, .int 113, .int 113, .int 113, .int 0, .int 0, .int 0, .int 0, .int 0, .int 0, .int 0, .int 0, .int 0, .int 0, .int 0, .int 0, .int 0, .int 0, .int 0, .int 0, .int 0, .int 0, .int 0, .int 0, .int 0, .int 0, .int 0, .int 0, .int 0, .int 0, .int 0, .int 0, .int 0, .int 0, .int 0, .int 0, .int 0, .int 0, .int 0, .int 0, .int 0, .int 0, .int 0, .int 0, .int 0, .int 0, .int 0, .int 0, .int 0] (.int 0) := V_q
    refine s_dup (pc' := 111) W at_110 rfl rfl ?_
    refine s_bipush (pc' := 113) W (6 : Int32) at_111 rfl rfl ?_
    refine s_bipush (pc' := 115) W (113 : Int32) at_113 rfl rfl ?_
    refine s_castore (pc' := 116) W 6 V_q M_q rfl (by decide) (by decide) (bt rfl) at_115 rfl ?_
    intro T h W K36 C36 Vn36
    replace M_r := M_r.mv C36
    replace X_r := X_r.keep K36
    replace V_r := V_r.keep K36 (ninS ne_r_q nin0)
    replace M_q := M_q.mv C36
    replace X_q := X_q.keep K36
    have V_q := Vn36
    clear Vn36
    rw [show nar .char (113 : Int32) = 113 from by decide] at V_q
    have V_q : Arv Z _ q k_q .char (51 : Int32) [.int 113, .int 113, .int 113, .int 113, .int 113, .int 113, .int 113, .int 0, .int 0, .int 0, .int 0, .int 0, .int 0, .int 0, .int 0, .int 0, .int 0, .int 0, .int 0, .int 0, .int 0, .int 0, .int 0, .int 0, .int 0, .int 0, .int 0, .int 0, .int 0, .int 0, .int 0, .int 0, .int 0, .int 0, .int 0, .int 0, .int 0, .int 0, .int 0, .int 0, .int 0, .int 0, .int 0, .int 0, .int 0, .int 0, .int 0, .int 0, .int 0, .int 0, .int 0] (.int 0) := V_q
    refine s_dup (pc' := 117) W at_116 rfl rfl ?_
    refine s_bipush (pc' := 119) W (7 : Int32) at_117 rfl rfl ?_
    refine s_bipush (pc' := 121) W (113 : Int32) at_119 rfl rfl ?_
    refine s_castore (pc' := 122) W 7 V_q M_q rfl (by decide) (by decide) (bt rfl) at_121 rfl ?_
    intro T h W K37 C37 Vn37
    replace M_r := M_r.mv C37
    replace X_r := X_r.keep K37
    replace V_r := V_r.keep K37 (ninS ne_r_q nin0)
    replace M_q := M_q.mv C37
    replace X_q := X_q.keep K37
    have V_q := Vn37
    clear Vn37
    rw [show nar .char (113 : Int32) = 113 from by decide] at V_q
    have V_q : Arv Z _ q k_q .char (51 : Int32) [.int 113, .int 113, .int 113, .int 113, .int 113, .int 113, .int 113, .int 113, .int 0, .int 0, .int 0, .int 0, .int 0, .int 0, .int 0, .int 0, .int 0, .int 0, .int 0, .int 0, .int 0, .int 0, .int 0, .int 0, .int 0, .int 0, .int 0, .int 0, .int 0, .int 0, .int 0, .int 0, .int 0, .int 0, .int 0, .int 0, .int 0, .int 0, .int 0, .int 0, .int 0, .int 0, .int 0, .int 0, .int 0, .int 0, .int 0, .int 0, .int 0, .int 0, .int 0] (.int 0) := V_q
    refine s_dup (pc' := 123) W at_122 rfl rfl ?_
    refine s_bipush (pc' := 125) W (8 : Int32) at_123 rfl rfl ?_
    refine s_bipush (pc' := 127) W (113 : Int32) at_125 rfl rfl ?_
    refine s_castore (pc' := 128) W 8 V_q M_q rfl (by decide) (by decide) (bt rfl) at_127 rfl ?_
    intro T h W K38 C38 Vn38
    replace M_r := M_r.mv C38
    replace X_r := X_r.keep K38
    replace V_r := V_r.keep K38 (ninS ne_r_q nin0)
    replace M_q := M_q.mv C38
    replace X_q := X_q.keep K38
    have V_q := Vn38
    clear Vn38
    rw [show nar .char (113 : Int32) = 113 from by decide] at V_q
    have V_q : Arv Z _ q k_q .char (51 : Int32) [.int 113, .int 113, .int 113, .int 113, .int 113, .int 113, .int 113, .int 113, .int 113, .int 0, .int 0, .int 0, .int 0, .int 0, .int 0, .int 0, .int 0, .int 0, .int 0, .int 0, .int 0, .int 0, .int 0, .int 0, .int 0, .int 0, .int 0, .int 0, .int 0, .int 0, .int 0, .int 0, .int 0, .int 0, .int 0, .int 0, .int 0, .int 0, .int 0, .int 0, .int 0, .int 0, .int 0, .int 0, .int 0, .int 0, .int 0, .int 0, .int 0, .int 0, .int 0] (.int 0) := V_q
    refine s_dup (pc' := 129) W at_128 rfl rfl ?_
    refine s_bipush (pc' := 131) W (9 : Int32) at_129 rfl rfl ?_
    refine s_bipush (pc' := 133) W (113 : Int32) at_131 rfl rfl ?_
    refine s_castore (pc' := 134) W 9 V_q M_q rfl (by decide) (by decide) (bt rfl) at_133 rfl ?_
    intro T h W K39 C39 Vn39
    replace M_r := M_r.mv C39
    replace X_r := X_r.keep K39
    replace V_r := V_r.keep K39 (ninS ne_r_q nin0)
    replace M_q := M_q.mv C39
    replace X_q := X_q.keep K39
    have V_q := Vn39
    clear Vn39
    rw [show nar .char (113 : Int32) = 113 from by decide] at V_q
    have V_q : Arv Z _ q k_q .char (51 : Int32) [.int 113, .int 113, .int 113, .int 113, .int 113, .int 113, .int 113, .int 113, .int 113, .int 113, .int 0, .int 0, .int 0, .int 0, .int 0, .int 0, .int 0, .int 0, .int 0, .int 0, .int 0, .int 0, .int 0, .int 0, .int 0, .int 0, .int 0, .int 0, .int 0, .int 0, .int 0, .int 0, .int 0, .int 0, .int 0, .int 0, .int 0, .int 0, .int 0, .int 0, .int 0, .int 0, .int 0, .int 0, .int 0, .int 0, .int 0, .int 0, .int 0, .int 0, .int 0] (.int 0) := V_q
    refine s_dup (pc' := 135) W at_134 rfl rfl ?_
    refine s_bipush (pc' := 137) W (10 : Int32) at_135 rfl rfl ?_
    refine s_bipush (pc' := 139) W (113 : Int32) at_137 rfl rfl ?_
    refine s_castore (pc' := 140) W 10 V_q M_q rfl (by decide) (by decide) (bt rfl) at_139 rfl ?_
    intro T h W K40 C40 Vn40
    replace M_r := M_r.mv C40
    replace X_r := X_r.keep K40
    replace V_r := V_r.keep K40 (ninS ne_r_q nin0)
    replace M_q := M_q.mv C40
    replace X_q := X_q.keep K40
    have V_q := Vn40
    clear Vn40
    rw [show nar .char (113 : Int32) = 113 from by decide] at V_q
    have V_q : Arv Z _ q k_q .char (51 : Int32) [.int 113, .int 113, .int 113, .int 113, .int 113, .int 113, .int 113, .int 113, .int 113, .int 113, .int 113, .int 0, .int 0, .int 0, .int 0, .int 0, .int 0, .int 0, .int 0, .int 0, .int 0, .int 0, .int 0, .int 0, .int 0, .int 0, .int 0, .int 0, .int 0, .int 0, .int 0, .int 0, .int 0, .int 0, .int 0, .int 0, .int 0, .int 0, .int 0, .int 0, .int 0, .int 0, .int 0, .int 0, .int 0, .int 0, .int 0, .int 0, .int 0, .int 0, .int 0] (.int 0) := V_q
    refine s_dup (pc' := 141) W at_140 rfl rfl ?_
    refine s_bipush (pc' := 143) W (11 : Int32) at_141 rfl rfl ?_
    refine s_bipush (pc' := 145) W (113 : Int32) at_143 rfl rfl ?_
    refine s_castore (pc' := 146) W 11 V_q M_q rfl (by decide) (by decide) (bt rfl) at_145 rfl ?_
    intro T h W K41 C41 Vn41
    replace M_r := M_r.mv C41
    replace X_r := X_r.keep K41
    replace V_r := V_r.keep K41 (ninS ne_r_q nin0)
    replace M_q := M_q.mv C41
    replace X_q := X_q.keep K41
    have V_q := Vn41
    clear Vn41
    rw [show nar .char (113 : Int32) = 113 from by decide] at V_q
    have V_q : Arv Z _ q k_q .char (51 : Int32) [.int 113, .int 113, .int 113, .int 113, .int 113, .int 113, .int 113, .int 113, .int 113, .int 113, .int 113, .int 113, .int 0, .int 0, .int 0, .int 0, .int 0, .int 0, .int 0, .int 0, .int 0, .int 0, .int 0, .int 0, .int 0, .int 0, .int 0, .int 0, .int 0, .int 0, .int 0, .int 0, .int 0, .int 0, .int 0, .int 0, .int 0, .int 0, .int 0, .int 0, .int 0, .int 0, .int 0, .int 0, .int 0, .int 0, .int 0, .int 0, .int 0, .int 0, .int 0] (.int 0) := V_q
    refine s_dup (pc' := 147) W at_146 rfl rfl ?_
    refine s_bipush (pc' := 149) W (12 : Int32) at_147 rfl rfl ?_
    refine s_bipush (pc' := 151) W (113 : Int32) at_149 rfl rfl ?_
    refine s_castore (pc' := 152) W 12 V_q M_q rfl (by decide) (by decide) (bt rfl) at_151 rfl ?_
    intro T h W K42 C42 Vn42
    replace M_r := M_r.mv C42
    replace X_r := X_r.keep K42
    replace V_r := V_r.keep K42 (ninS ne_r_q nin0)
    replace M_q := M_q.mv C42
    replace X_q := X_q.keep K42
    have V_q := Vn42
    clear Vn42
    rw [show nar .char (113 : Int32) = 113 from by decide] at V_q
    have V_q : Arv Z _ q k_q .char (51 : Int32) [.int 113, .int 113, .int 113, .int 113, .int 113, .int 113, .int 113, .int 113, .int 113, .int 113, .int 113, .int 113, .int 113, .int 0, .int 0, .int 0, .int 0, .int 0, .int 0, .int 0, .int 0, .int 0, .int 0, .int 0, .int 0, .int 0, .int 0, .int 0, .int 0, .int 0, .int 0, .int 0, .int 0, .int 0, .int 0, .int 0, .int 0, .int 0, .int 0, .int 0, .int 0, .int 0, .int 0, .int 0, .int 0, .int 0, .int 0, .int 0, .int 0, .int 0, .int 0] (.int 0) := V_q
    refine s_dup (pc' := 153) W at_152 rfl rfl ?_
    refine s_bipush (pc' := 155) W (13 : Int32) at_153 rfl rfl ?_
    refine s_bipush (pc' := 157) W (113 : Int32) at_155 rfl rfl ?_
    refine s_castore (pc' := 158) W 13 V_q M_q rfl (by decide) (by decide) (bt rfl) at_157 rfl ?_
    intro T h W K43 C43 Vn43
    replace M_r := M_r.mv C43
    replace X_r := X_r.keep K43
    replace V_r := V_r.keep K43 (ninS ne_r_q nin0)
    replace M_q := M_q.mv C43
    replace X_q := X_q.keep K43
    have V_q := Vn43
    clear Vn43
    rw [show nar .char (113 : Int32) = 113 from by decide] at V_q
    have V_q : Arv Z _ q k_q .char (51 : Int32) [.int 113, .int 113, .int 113, .int 113, .int 113, .int 113, .int 113, .int 113, .int 113, .int 113, .int 113, .int 113, .int 113, .int 113, .int 0, .int 0, .int 0, .int 0, .int 0, .int 0, .int 0, .int 0, .int 0, .int 0, .int 0, .int 0, .int 0, .int 0, .int 0, .int 0, .int 0, .int 0, .int 0, .int 0, .int 0, .int 0, .int 0, .int 0, .int 0, .int 0, .int 0, .int 0, .int 0, .int 0, .int 0, .int 0, .int 0, .int 0, .int 0, .int 0, .int 0] (.int 0) := V_q
    refine s_dup (pc' := 159) W at_158 rfl rfl ?_
    refine s_bipush (pc' := 161) W (14 : Int32) at_159 rfl rfl ?_
    refine s_bipush (pc' := 163) W (113 : Int32) at_161 rfl rfl ?_
    refine s_castore (pc' := 164) W 14 V_q M_q rfl (by decide) (by decide) (bt rfl) at_163 rfl ?_
    intro T h W K44 C44 Vn44
    replace M_r := M_r.mv C44
    replace X_r := X_r.keep K44
    replace V_r := V_r.keep K44 (ninS ne_r_q nin0)
    replace M_q := M_q.mv C44
    replace X_q := X_q.keep K44
    have V_q := Vn44
    clear Vn44
    rw [show nar .char (113 : Int32) = 113 from by decide] at V_q
    have V_q : Arv Z _ q k_q .char (51 : Int32) [.int 113, .int 113, .int 113, .int 113, .int 113, .int 113, .int 113, .int 113, .int 113, .int 113, .int 113, .int 113, .int 113, .int 113, .int 113, .int 0, .int 0, .int 0, .int 0, .int 0, .int 0, .int 0, .int 0, .int 0, .int 0, .int 0, .int 0, .int 0, .int 0, .int 0, .int 0, .int 0, .int 0, .int 0, .int 0, .int 0, .int 0, .int 0, .int 0, .int 0, .int 0, .int 0, .int 0, .int 0, .int 0, .int 0, .int 0, .int 0, .int 0, .int 0, .int 0] (.int 0) := V_q
    refine s_dup (pc' := 165) W at_164 rfl rfl ?_
    refine s_bipush (pc' := 167) W (15 : Int32) at_165 rfl rfl ?_
    refine s_bipush (pc' := 169) W (113 : Int32) at_167 rfl rfl ?_
    refine s_castore (pc' := 170) W 15 V_q M_q rfl (by decide) (by decide) (bt rfl) at_169 rfl ?_
    intro T h W K45 C45 Vn45
    replace M_r := M_r.mv C45
    replace X_r := X_r.keep K45
    replace V_r := V_r.keep K45 (ninS ne_r_q nin0)
    replace M_q := M_q.mv C45
    replace X_q := X_q.keep K45
    have V_q := Vn45
    clear Vn45
    rw [show nar .char (113 : Int32) = 113 from by decide] at V_q
    have V_q : Arv Z _ q k_q .char (51 : Int32) [.int 113, .int 113, .int 113, .int 113, .int 113, .int 113, .int 113, .int 113, .int 113, .int 113, .int 113, .int 113, .int 113, .int 113, .int 113, .int 113, .int 0, .int 0, .int 0, .int 0, .int 0, .int 0, .int 0, .int 0, .int 0, .int 0, .int 0, .int 0, .int 0, .int 0, .int 0, .int 0, .int 0, .int 0, .int 0, .int 0, .int 0, .int 0, .int 0, .int 0, .int 0, .int 0, .int 0, .int 0, .int 0, .int 0, .int 0, .int 0, .int 0, .int 0, .int 0] (.int 0) := V_q
    refine s_dup (pc' := 171) W at_170 rfl rfl ?_
    refine s_bipush (pc' := 173) W (16 : Int32) at_171 rfl rfl ?_
    refine s_bipush (pc' := 175) W (113 : Int32) at_173 rfl rfl ?_
    refine s_castore (pc' := 176) W 16 V_q M_q rfl (by decide) (by decide) (bt rfl) at_175 rfl ?_
    intro T h W K46 C46 Vn46
    replace M_r := M_r.mv C46
    replace X_r := X_r.keep K46
    replace V_r := V_r.keep K46 (ninS ne_r_q nin0)
    replace M_q := M_q.mv C46
    replace X_q := X_q.keep K46
    have V_q := Vn46
    clear Vn46
    rw [show nar .char (113 : Int32) = 113 from by decide] at V_q
    have V_q : Arv Z _ q k_q .char (51 : Int32) [.int 113, .int 113, .int 113, .int 113, .int 113, .int 113, .int 113, .int 113, .int 113, .int 113, .int 113, .int 113, .int 113, .int 113, .int 113, .int 113, .int 113, .int 0, .int 0, .int 0, .int 0, .int 0, .int 0, .int 0, .int 0, .int 0, .int 0, .int 0, .int 0, .int 0, .int 0, .int 0, .int 0, .int 0, .int 0, .int 0, .int 0, .int 0, .int 0, .int 0, .int 0, .int 0, .int 0, .int 0, .int 0, .int 0, .int 0, .int 0, .int 0, .int 0, .int 0] (.int 0) := V_q
    refine s_dup (pc' := 177) W at_176 rfl rfl ?_
    refine s_bipush (pc' := 179) W (17 : Int32) at_177 rfl rfl ?_
    refine s_bipush (pc' := 181) W (113 : Int32) at_179 rfl rfl ?_
    refine s_castore (pc' := 182) W 17 V_q M_q rfl (by decide) (by decide) (bt rfl) at_181 rfl ?_
    intro T h W K47 C47 Vn47
    replace M_r := M_r.mv C47
    replace X_r := X_r.keep K47
    replace V_r := V_r.keep K47 (ninS ne_r_q nin0)
    replace M_q := M_q.mv C47
    replace X_q := X_q.keep K47
    have V_q := Vn47
    clear Vn47
    rw [show nar .char (113 : Int32) = 113 from by decide] at V_q
    have V_q : Arv Z _ q k_q .char (51 : Int32) [.int 113, .int 113, .int 113, .int 113, .int 113, .int 113, .int 113, .int 113, .int 113, .int 113, .int 113, .int 113, .int 113, .int 113, .int 113, .int 113, .int 113, .int 113, .int 0, .int 0, .int 0, .int 0, .int 0, .int 0, .int 0, .int 0, .int 0, .int 0, .int 0, .int 0, .int 0, .int 0, .int 0, .int 0, .int 0, .int 0, .int 0, .int 0, .int 0, .int 0, .int 0, .int 0, .int 0, .int 0, .int 0, .int 0, .int 0, .int 0, .int 0, .int 0, .int 0] (.int 0) := V_q
    refine s_dup (pc' := 183) W at_182 rfl rfl ?_
    refine s_bipush (pc' := 185) W (18 : Int32) at_183 rfl rfl ?_
    refine s_bipush (pc' := 187) W (113 : Int32) at_185 rfl rfl ?_
    refine s_castore (pc' := 188) W 18 V_q M_q rfl (by decide) (by decide) (bt rfl) at_187 rfl ?_
    intro T h W K48 C48 Vn48
    replace M_r := M_r.mv C48
    replace X_r := X_r.keep K48
    replace V_r := V_r.keep K48 (ninS ne_r_q nin0)
    replace M_q := M_q.mv C48
    replace X_q := X_q.keep K48
    have V_q := Vn48
    clear Vn48
    rw [show nar .char (113 : Int32) = 113 from by decide] at V_q
    have V_q : Arv Z _ q k_q .char (51 : Int32) [.int 113, .int 113, .int 113, .int 113, .int 113, .int 113, .int 113, .int 113, .int 113, .int 113, .int 113, .int 113, .int 113, .int 113, .int 113, .int 113, .int 113, .int 113, .int 113, .int 0, .int 0, .int 0, .int 0, .int 0, .int 0, .int 0, .int 0, .int 0, .int 0, .int 0, .int 0, .int 0, .int 0, .int 0, .int 0, .int 0, .int 0, .int 0, .int 0, .int 0, .int 0, .int 0, .int 0, .int 0, .int 0, .int 0, .int 0, .int 0, .int 0, .int 0, .int 0] (.int 0) := V_q
    refine s_dup (pc' := 189) W at_188 rfl rfl ?_
    refine s_bipush (pc' := 191) W (19 : Int32) at_189 rfl rfl ?_
    refine s_bipush (pc' := 193) W (113 : Int32) at_191 rfl rfl ?_
    refine s_castore (pc' := 194) W 19 V_q M_q rfl (by decide) (by decide) (bt rfl) at_193 rfl ?_
    intro T h W K49 C49 Vn49
    replace M_r := M_r.mv C49
    replace X_r := X_r.keep K49
    replace V_r := V_r.keep K49 (ninS ne_r_q nin0)
    replace M_q := M_q.mv C49
    replace X_q := X_q.keep K49
    have V_q := Vn49
    clear Vn49
    rw [show nar .char (113 : Int32) = 113 from by decide] at V_q
    have V_q : Arv Z _ q k_q .char (51 : Int32) [.int 113, .int 113, .int 113, .int 113, .int 113, .int 113, .int 113, .int 113, .int 113, .int 113, .int 113, .int 113, .int 113, .int 113, .int 113, .int 113, .int 113, .int 113, .int 113, .int 113, .int 0, .int 0, .int 0, .int 0, .int 0, .int 0, .int 0, .int 0, .int 0, .int 0, .int 0, .int 0, .int 0, .int 0, .int 0, .int 0, .int 0, .int 0, .int 0, .int 0, .int 0, .int 0, .int 0, .int 0, .int 0, .int 0, .int 0, .int 0, .int 0, .int 0, .int 0] (.int 0) := V_q
    refine s_dup (pc' := 195) W at_194 rfl rfl ?_
    refine s_bipush (pc' := 197) W (20 : Int32) at_195 rfl rfl ?_
    refine s_bipush (pc' := 199) W (113 : Int32) at_197 rfl rfl ?_
    refine s_castore (pc' := 200) W 20 V_q M_q rfl (by decide) (by decide) (bt rfl) at_199 rfl ?_
    intro T h W K50 C50 Vn50
    replace M_r := M_r.mv C50
    replace X_r := X_r.keep K50
    replace V_r := V_r.keep K50 (ninS ne_r_q nin0)
    replace M_q := M_q.mv C50
    replace X_q := X_q.keep K50
    have V_q := Vn50
    clear Vn50
    rw [show nar .char (113 : Int32) = 113 from by decide] at V_q
    have V_q : Arv Z _ q k_q .char (51 : Int32) [.int 113, .int 113, .int 113, .int 113, .int 113, .int 113, .int 113, .int 113, .int 113, .int 113, .int 113, .int 113, .int 113, .int 113, .int 113, .int 113, .int 113, .int 113, .int 113, .int 113, .int 113, .int 0, .int 0, .int 0, .int 0, .int 0, .int 0, .int 0, .int 0, .int 0, .int 0, .int 0, .int 0, .int 0, .int 0, .int 0, .int 0, .int 0, .int 0, .int 0, .int 0, .int 0, .int 0, .int 0, .int 0, .int 0, .int 0, .int 0, .int 0, .int 0, .int 0] (.int 0) := V_q
    refine s_dup (pc' := 201) W at_200 rfl rfl ?_
    refine s_bipush (pc' := 203) W (21 : Int32) at_201 rfl rfl ?_
    refine s_bipush (pc' := 205) W (113 : Int32) at_203 rfl rfl ?_
    refine s_castore (pc' := 206) W 21 V_q M_q rfl (by decide) (by decide) (bt rfl) at_205 rfl ?_
    intro T h W K51 C51 Vn51
    replace M_r := M_r.mv C51
    replace X_r := X_r.keep K51
    replace V_r := V_r.keep K51 (ninS ne_r_q nin0)
    replace M_q := M_q.mv C51
    replace X_q := X_q.keep K51
    have V_q := Vn51
    clear Vn51
    rw [show nar .char (113 : Int32) = 113 from by decide] at V_q
    have V_q : Arv Z _ q k_q .char (51 : Int32) [.int 113, .int 113, .int 113, .int 113, .int 113, .int 113, .int 113, .int 113, .int 113, .int 113, .int 113, .int 113, .int 113, .int 113, .int 113, .int 113, .int 113, .int 113, .int 113, .int 113, .int 113, .int 113, .int 0, .int 0, .int 0, .int 0, .int 0, .int 0, .int 0, .int 0, .int 0, .int 0, .int 0, .int 0, .int 0, .int 0, .int 0, .int 0, .int 0, .int 0, .int 0, .int 0, .int 0, .int 0, .int 0, .int 0, .int 0, .int 0, .int 0, .int 0, .int 0] (.int 0) := V_q
    refine s_dup (pc' := 207) W at_206 rfl rfl ?_
    refine s_bipush (pc' := 209) W (22 : Int32) at_207 rfl rfl ?_
    refine s_bipush (pc' := 211) W (113 : Int32) at_209 rfl rfl ?_
    refine s_castore (pc' := 212) W 22 V_q M_q rfl (by decide) (by decide) (bt rfl) at_211 rfl ?_
    intro T h W K52 C52 Vn52
    replace M_r := M_r.mv C52
    replace X_r := X_r.keep K52
    replace V_r := V_r.keep K52 (ninS ne_r_q nin0)
    replace M_q := M_q.mv C52
    replace X_q := X_q.keep K52
    have V_q := Vn52
    clear Vn52
    rw [show nar .char (113 : Int32) = 113 from by decide] at V_q
    have V_q : Arv Z _ q k_q .char (51 : Int32) [.int 113, .int 113, .int 113, .int 113, .int 113, .int 113, .int 113, .int 113, .int 113, .int 113, .int 113, .int 113, .int 113, .int 113, .int 113, .int 113, .int 113, .int 113, .int 113, .int 113, .int 113, .int 113, .int 113, .int 0, .int 0, .int 0, .int 0, .int 0, .int 0, .int 0, .int 0, .int 0, .int 0, .int 0, .int 0, .int 0, .int 0, .int 0, .int 0, .int 0, .int 0, .int 0, .int 0, .int 0, .int 0, .int 0, .int 0, .int 0, .int 0, .int 0, .int 0] (.int 0) := V_q
    refine s_dup (pc' := 213) W at_212 rfl rfl ?_
    refine s_bipush (pc' := 215) W (23 : Int32) at_213 rfl rfl ?_
    refine s_bipush (pc' := 217) W (113 : Int32) at_215 rfl rfl ?_
    refine s_castore (pc' := 218) W 23 V_q M_q rfl (by decide) (by decide) (bt rfl) at_217 rfl ?_
    intro T h W K53 C53 Vn53
    replace M_r := M_r.mv C53
    replace X_r := X_r.keep K53
    replace V_r := V_r.keep K53 (ninS ne_r_q nin0)
    replace M_q := M_q.mv C53
    replace X_q := X_q.keep K53
    have V_q := Vn53
    clear Vn53
    rw [show nar .char (113 : Int32) = 113 from by decide] at V_q
    have V_q : Arv Z _ q k_q .char (51 : Int32) [.int 113, .int 113, .int 113, .int 113, .int 113, .int 113, .int 113, .int 113, .int 113, .int 113, .int 113, .int 113, .int 113, .int 113, .int 113, .int 113, .int 113, .int 113, .int 113, .int 113, .int 113, .int 113, .int 113, .int 113, .int 0, .int 0, .int 0, .int 0, .int 0, .int 0, .int 0, .int 0, .int 0, .int 0, .int 0, .int 0, .int 0, .int 0, .int 0, .int 0, .int 0, .int 0, .int 0, .int 0, .int 0, .int 0, .int 0, .int 0, .int 0, .int 0, .int 0] (.int 0) := V_q
    refine s_dup (pc' := 219) W at_218 rfl rfl ?_
    refine s_bipush (pc' := 221) W (24 : Int32) at_219 rfl rfl ?_
    refine s_bipush (pc' := 223) W (113 : Int32) at_221 rfl rfl ?_
    refine s_castore (pc' := 224) W 24 V_q M_q rfl (by decide) (by decide) (bt rfl) at_223 rfl ?_
    intro T h W K54 C54 Vn54
    replace M_r := M_r.mv C54
    replace X_r := X_r.keep K54
    replace V_r := V_r.keep K54 (ninS ne_r_q nin0)
    replace M_q := M_q.mv C54
    replace X_q := X_q.keep K54
    have V_q := Vn54
    clear Vn54
    rw [show nar .char (113 : Int32) = 113 from by decide] at V_q
    have V_q : Arv Z _ q k_q .char (51 : Int32) [.int 113, .int 113, .int 113, .int 113, .int 113, .int 113, .int 113, .int 113, .int 113, .int 113, .int 113, .int 113, .int 113, .int 113, .int 113, .int 113, .int 113, .int 113, .int 113, .int 113, .int 113, .int 113, .int 113, .int 113, .int 113, .int 0, .int 0, .int 0, .int 0, .int 0, .int 0, .int 0, .int 0, .int 0, .int 0, .int 0, .int 0, .int 0, .int 0, .int 0, .int 0, .int 0, .int 0, .int 0, .int 0, .int 0, .int 0, .int 0, .int 0, .int 0, .int 0] (.int 0) := V_q
    refine s_dup (pc' := 225) W at_224 rfl rfl ?_
    refine s_bipush (pc' := 227) W (25 : Int32) at_225 rfl rfl ?_
    refine s_bipush (pc' := 229) W (113 : Int32) at_227 rfl rfl ?_
    refine s_castore (pc' := 230) W 25 V_q M_q rfl (by decide) (by decide) (bt rfl) at_229 rfl ?_
    intro T h W K55 C55 Vn55
    replace M_r := M_r.mv C55
    replace X_r := X_r.keep K55
    replace V_r := V_r.keep K55 (ninS ne_r_q nin0)
    replace M_q := M_q.mv C55
    replace X_q := X_q.keep K55
    have V_q := Vn55
    clear Vn55
    rw [show nar .char (113 : Int32) = 113 from by decide] at V_q
    have V_q : Arv Z _ q k_q .char (51 : Int32) [.int 113, .int 113, .int 113, .int 113, .int 113, .int 113, .int 113, .int 113, .int 113, .int 113, .int 113, .int 113, .int 113, .int 113, .int 113, .int 113, .int 113, .int 113, .int 113, .int 113, .int 113, .int 113, .int 113, .int 113, .int 113, .int 113, .int 0, .int 0, .int 0, .int 0, .int 0, .int 0, .int 0, .int 0, .int 0, .int 0, .int 0, .int 0, .int 0, .int 0, .int 0, .int 0, .int 0, .int 0, .int 0, .int 0, .int 0, .int 0, .int 0, .int 0, .int 0] (.int 0) := V_q
    refine s_dup (pc' := 231) W at_230 rfl rfl ?_
    refine s_bipush (pc' := 233) W (26 : Int32) at_231 rfl rfl ?_
    refine s_bipush (pc' := 235) W (113 : Int32) at_233 rfl rfl ?_
    refine s_castore (pc' := 236) W 26 V_q M_q rfl (by decide) (by decide) (bt rfl) at_235 rfl ?_
    intro T h W K56 C56 Vn56
    replace M_r := M_r.mv C56
    replace X_r := X_r.keep K56
    replace V_r := V_r.keep K56 (ninS ne_r_q nin0)
    replace M_q := M_q.mv C56
    replace X_q := X_q.keep K56
    have V_q := Vn56
    clear Vn56
    rw [show nar .char (113 : Int32) = 113 from by decide] at V_q
    have V_q : Arv Z _ q k_q .char (51 : Int32) [.int 113, .int 113, .int 113, .int 113, .int 113, .int 113, .int 113, .int 113, .int 113, .int 113, .int 113, .int 113, .int 113, .int 113, .int 113, .int 113, .int 113, .int 113, .int 113, .int 113, .int 113, .int 113, .int 113, .int 113, .int 113, .int 113, .int 113, .int 0, .int 0, .int 0, .int 0, .int 0, .int 0, .int 0, .int 0, .int 0, .int 0, .int 0, .int 0, .int 0, .int 0, .int 0, .int 0, .int 0, .int 0, .int 0, .int 0, .int 0, .int 0, .int 0, .int 0] (.int 0) := V_q
    refine s_dup (pc' := 237) W at_236 rfl rfl ?_
    refine s_bipush (pc' := 239) W (27 : Int32) at_237 rfl rfl ?_
    refine s_bipush (pc' := 241) W (113 : Int32) at_239 rfl rfl ?_
    refine s_castore (pc' := 242) W 27 V_q M_q rfl (by decide) (by decide) (bt rfl) at_241 rfl ?_
    intro T h W K57 C57 Vn57
    replace M_r := M_r.mv C57
    replace X_r := X_r.keep K57
    replace V_r := V_r.keep K57 (ninS ne_r_q nin0)
    replace M_q := M_q.mv C57
    replace X_q := X_q.keep K57
    have V_q := Vn57
    clear Vn57
    rw [show nar .char (113 : Int32) = 113 from by decide] at V_q
    have V_q : Arv Z _ q k_q .char (51 : Int32) [.int 113, .int 113, .int 113, .int 113, .int 113, .int 113, .int 113, .int 113, .int 113, .int 113, .int 113, .int 113, .int 113, .int 113, .int 113, .int 113, .int 113, .int 113, .int 113, .int 113, .int 113, .int 113, .int 113, .int 113, .int 113, .int 113, .int 113, .int 113, .int 0, .int 0, .int 0, .int 0, .int 0, .int 0, .int 0, .int 0, .int 0, .int 0, .int 0, .int 0, .int 0, .int 0, .int 0, .int 0, .int 0, .int 0, .int 0, .int 0, .int 0, .int 0, .int 0] (.int 0) := V_q
    refine s_dup (pc' := 243) W at_242 rfl rfl ?_
    refine s_bipush (pc' := 245) W (28 : Int32) at_243 rfl rfl ?_
    refine s_bipush (pc' := 247) W (113 : Int32) at_245 rfl rfl ?_
    refine s_castore (pc' := 248) W 28 V_q M_q rfl (by decide) (by decide) (bt rfl) at_247 rfl ?_
    intro T h W K58 C58 Vn58
    replace M_r := M_r.mv C58
    replace X_r := X_r.keep K58
    replace V_r := V_r.keep K58 (ninS ne_r_q nin0)
    replace M_q := M_q.mv C58
    replace X_q := X_q.keep K58
    have V_q := Vn58
    clear Vn58
    rw [show nar .char (113 : Int32) = 113 from by decide] at V_q
    have V_q : Arv Z _ q k_q .char (51 : Int32) [.int 113, .int 113, .int 113, .int 113, .int 113, .int 113, .int 113, .int 113, .int 113, .int 113, .int 113, .int 113, .int 113, .int 113, .int 113, .int 113, .int 113, .int 113, .int 113, .int 113, .int 113, .int 113, .int 113, .int 113, .int 113, .int 113, .int 113, .int 113, .int 113, .int 0, .int 0, .int 0, .int 0, .int 0, .int 0, .int 0, .int 0, .int 0, .int 0, .int 0, .int 0, .int 0, .int 0, .int 0, .int 0, .int 0, .int 0, .int 0, .int 0, .int 0, .int 0] (.int 0) := V_q
    refine s_dup (pc' := 249) W at_248 rfl rfl ?_
    refine s_bipush (pc' := 251) W (29 : Int32) at_249 rfl rfl ?_
    refine s_bipush (pc' := 253) W (113 : Int32) at_251 rfl rfl ?_
    refine s_castore (pc' := 254) W 29 V_q M_q rfl (by decide) (by decide) (bt rfl) at_253 rfl ?_
    intro T h W K59 C59 Vn59
    replace M_r := M_r.mv C59
    replace X_r := X_r.keep K59
    replace V_r := V_r.keep K59 (ninS ne_r_q nin0)
    replace M_q := M_q.mv C59
    replace X_q := X_q.keep K59
    have V_q := Vn59
    clear Vn59
    rw [show nar .char (113 : Int32) = 113 from by decide] at V_q
    have V_q : Arv Z _ q k_q .char (51 : Int32) [.int 113, .int 113, .int 113, .int 113, .int 113, .int 113, .int 113, .int 113, .int 113, .int 113, .int 113, .int 113, .int 113, .int 113, .int 113, .int 113, .int 113, .int 113, .int 113, .int 113, .int 113, .int 113, .int 113, .int 113, .int 113, .int 113, .int 113, .int 113, .int 113, .int 113, .int 0, .int 0, .int 0, .int 0, .int 0, .int 0, .int 0, .int 0, .int 0, .int 0, .int 0, .int 0, .int 0, .int 0, .int 0, .int 0, .int 0, .int 0, .int 0, .int 0, .int 0] (.int 0) := V_q
    refine s_dup (pc' := 255) W at_254 rfl rfl ?_
    refine s_bipush (pc' := 257) W (30 : Int32) at_255 rfl rfl ?_
    refine s_bipush (pc' := 259) W (113 : Int32) at_257 rfl rfl ?_
    refine s_castore (pc' := 260) W 30 V_q M_q rfl (by decide) (by decide) (bt rfl) at_259 rfl ?_
    intro T h W K60 C60 Vn60
    replace M_r := M_r.mv C60
    replace X_r := X_r.keep K60
    replace V_r := V_r.keep K60 (ninS ne_r_q nin0)
    replace M_q := M_q.mv C60
    replace X_q := X_q.keep K60
    have V_q := Vn60
    clear Vn60
    rw [show nar .char (113 : Int32) = 113 from by decide] at V_q
    have V_q : Arv Z _ q k_q .char (51 : Int32) [.int 113, .int 113, .int 113, .int 113, .int 113, .int 113, .int 113, .int 113, .int 113, .int 113, .int 113, .int 113, .int 113, .int 113, .int 113, .int 113, .int 113, .int 113, .int 113, .int 113, .int 113, .int 113, .int 113, .int 113, .int 113, .int 113, .int 113, .int 113, .int 113, .int 113, .int 113, .int 0, .int 0, .int 0, .int 0, .int 0, .int 0, .int 0, .int 0, .int 0, .int 0, .int 0, .int 0, .int 0, .int 0, .int 0, .int 0, .int 0, .int 0, .int 0, .int 0] (.int 0) := V_q
    refine s_dup (pc' := 261) W at_260 rfl rfl ?_
    refine s_bipush (pc' := 263) W (31 : Int32) at_261 rfl rfl ?_
    refine s_bipush (pc' := 265) W (113 : Int32) at_263 rfl rfl ?_
    refine s_castore (pc' := 266) W 31 V_q M_q rfl (by decide) (by decide) (bt rfl) at_265 rfl ?_
    intro T h W K61 C61 Vn61
    replace M_r := M_r.mv C61
    replace X_r := X_r.keep K61
    replace V_r := V_r.keep K61 (ninS ne_r_q nin0)
    replace M_q := M_q.mv C61
    replace X_q := X_q.keep K61
    have V_q := Vn61
    clear Vn61
    rw [show nar .char (113 : Int32) = 113 from by decide] at V_q
    have V_q : Arv Z _ q k_q .char (51 : Int32) [.int 113, .int 113, .int 113, .int 113, .int 113, .int 113, .int 113, .int 113, .int 113, .int 113, .int 113, .int 113, .int 113, .int 113, .int 113, .int 113, .int 113, .int 113, .int 113, .int 113, .int 113, .int 113, .int 113, .int 113, .int 113, .int 113, .int 113, .int 113, .int 113, .int 113, .int 113, .int 113, .int 0, .int 0, .int 0, .int 0, .int 0, .int 0, .int 0, .int 0, .int 0, .int 0, .int 0, .int 0, .int 0, .int 0, .int 0, .int 0, .int 0, .int 0, .int 0] (.int 0) := V_q
    refine s_dup (pc' := 267) W at_266 rfl rfl ?_
    refine s_bipush (pc' := 269) W (32 : Int32) at_267 rfl rfl ?_
    refine s_bipush (pc' := 271) W (113 : Int32) at_269 rfl rfl ?_
    refine s_castore (pc' := 272) W 32 V_q M_q rfl (by decide) (by decide) (bt rfl) at_271 rfl ?_
    intro T h W K62 C62 Vn62
    replace M_r := M_r.mv C62
    replace X_r := X_r.keep K62
    replace V_r := V_r.keep K62 (ninS ne_r_q nin0)
    replace M_q := M_q.mv C62
    replace X_q := X_q.keep K62
    have V_q := Vn62
    clear Vn62
    rw [show nar .char (113 : Int32) = 113 from by decide] at V_q
    have V_q : Arv Z _ q k_q .char (51 : Int32) [.int 113, .int 113, .int 113, .int 113, .int 113, .int 113, .int 113, .int 113, .int 113, .int 113, .int 113, .int 113, .int 113, .int 113, .int 113, .int 113, .int 113, .int 113, .int 113, .int 113, .int 113, .int 113, .int 113, .int 113, .int 113, .int 113, .int 113, .int 113, .int 113, .int 113, .int 113, .int 113, .int 113, .int 0, .int 0, .int 0, .int 0, .int 0, .int 0, .int 0, .int 0, .int 0, .int 0, .int 0, .int 0, .int 0, .int 0, .int 0, .int 0, .int 0, .int 0] (.int 0) := V_q
    refine s_dup (pc' := 273) W at_272 rfl rfl ?_
    refine s_bipush (pc' := 275) W (33 : Int32) at_273 rfl rfl ?_
    refine s_bipush (pc' := 277) W (113 : Int32) at_275 rfl rfl ?_
    refine s_castore (pc' := 278) W 33 V_q M_q rfl (by decide) (by decide) (bt rfl) at_277 rfl ?_
    intro T h W K63 C63 Vn63
    replace M_r := M_r.mv C63
    replace X_r := X_r.keep K63
    replace V_r := V_r.keep K63 (ninS ne_r_q nin0)
    replace M_q := M_q.mv C63
    replace X_q := X_q.keep K63
    have V_q := Vn63
    clear Vn63
    rw [show nar .char (113 : Int32) = 113 from by decide] at V_q
    have V_q : Arv Z _ q k_q .char (51 : Int32) [.int 113, .int 113, .int 113, .int 113, .int 113, .int 113, .int 113, .int 113, .int 113, .int 113, .int 113, .int 113, .int 113, .int 113, .int 113, .int 113, .int 113, .int 113, .int 113, .int 113, .int 113, .int 113, .int 113, .int 113, .int 113, .int 113, .int 113, .int 113, .int 113, .int 113, .int 113, .int 113, .int 113, .int 113, .int 0, .int 0, .int 0, .int 0, .int 0, .int 0, .int 0, .int 0, .int 0, .int 0, .int 0, .int 0, .int 0, .int 0, .int 0, .int 0, .int 0] (.int 0) := V_q
    refine s_dup (pc' := 279) W at_278 rfl rfl ?_
    refine s_bipush (pc' := 281) W (34 : Int32) at_279 rfl rfl ?_
    refine s_bipush (pc' := 283) W (113 : Int32) at_281 rfl rfl ?_
    refine s_castore (pc' := 284) W 34 V_q M_q rfl (by decide) (by decide) (bt rfl) at_283 rfl ?_
    intro T h W K64 C64 Vn64
    replace M_r := M_r.mv C64
    replace X_r := X_r.keep K64
    replace V_r := V_r.keep K64 (ninS ne_r_q nin0)
    replace M_q := M_q.mv C64
    replace X_q := X_q.keep K64
    have V_q := Vn64
    clear Vn64
    rw [show nar .char (113 : Int32) = 113 from by decide] at V_q
    have V_q : Arv Z _ q k_q .char (51 : Int32) [.int 113, .int 113, .int 113, .int 113, .int 113, .int 113, .int 113, .int 113, .int 113, .int 113, .int 113, .int 113, .int 113, .int 113, .int 113, .int 113, .int 113, .int 113, .int 113, .int 113, .int 113, .int 113, .int 113, .int 113, .int 113, .int 113, .int 113, .int 113, .int 113, .int 113, .int 113, .int 113, .int 113, .int 113, .int 113, .int 0, .int 0, .int 0, .int 0, .int 0, .int 0, .int 0, .int 0, .int 0, .int 0, .int 0, .int 0, .int 0, .int 0, .int 0, .int 0] (.int 0) := V_q
    refine s_dup (pc' := 285) W at_284 rfl rfl ?_
    refine s_bipush (pc' := 287) W (35 : Int32) at_285 rfl rfl ?_
    refine s_bipush (pc' := 289) W (113 : Int32) at_287 rfl rfl ?_
    refine s_castore (pc' := 290) W 35 V_q M_q rfl (by decide) (by decide) (bt rfl) at_289 rfl ?_
    intro T h W K65 C65 Vn65
    replace M_r := M_r.mv C65
    replace X_r := X_r.keep K65
    replace V_r := V_r.keep K65 (ninS ne_r_q nin0)
    replace M_q := M_q.mv C65
    replace X_q := X_q.keep K65
    have V_q := Vn65
    clear Vn65
    rw [show nar .char (113 : Int32) = 113 from by decide] at V_q
    have V_q : Arv Z _ q k_q .char (51 : Int32) [.int 113, .int 113, .int 113, .int 113, .int 113, .int 113, .int 113, .int 113, .int 113, .int 113, .int 113, .int 113, .int 113, .int 113, .int 113, .int 113, .int 113, .int 113, .int 113, .int 113, .int 113, .int 113, .int 113, .int 113, .int 113, .int 113, .int 113, .int 113, .int 113, .int 113, .int 113, .int 113, .int 113, .int 113, .int 113, .int 113, .int 0, .int 0, .int 0, .int 0, .int 0, .int 0, .int 0, .int 0, .int 0, .int 0, .int 0, .int 0, .int 0, .int 0, .int 0] (.int 0) := V_q
    refine s_dup (pc' := 291) W at_290 rfl rfl ?_
    refine s_bipush (pc' := 293) W (36 : Int32) at_291 rfl rfl ?_
    refine s_bipush (pc' := 295) W (113 : Int32) at_293 rfl rfl ?_
    refine s_castore (pc' := 296) W 36 V_q M_q rfl (by decide) (by decide) (bt rfl) at_295 rfl ?_
    intro T h W K66 C66 Vn66
    replace M_r := M_r.mv C66
    replace X_r := X_r.keep K66
    replace V_r := V_r.keep K66 (ninS ne_r_q nin0)
    replace M_q := M_q.mv C66
    replace X_q := X_q.keep K66
    have V_q := Vn66
    clear Vn66
    rw [show nar .char (113 : Int32) = 113 from by decide] at V_q
    have V_q : Arv Z _ q k_q .char (51 : Int32) [.int 113, .int 113, .int 113, .int 113, .int 113, .int 113, .int 113, .int 113, .int 113, .int 113, .int 113, .int 113, .int 113, .int 113, .int 113, .int 113, .int 113, .int 113, .int 113, .int 113, .int 113, .int 113, .int 113, .int 113, .int 113, .int 113, .int 113, .int 113, .int 113, .int 113, .int 113, .int 113, .int 113, .int 113, .int 113, .int 113, .int 113, .int 0, .int 0, .int 0, .int 0, .int 0, .int 0, .int 0, .int 0, .int 0, .int 0, .int 0, .int 0, .int 0, .int 0] (.int 0) := V_q
    refine s_dup (pc' := 297) W at_296 rfl rfl ?_
    refine s_bipush (pc' := 299) W (37 : Int32) at_297 rfl rfl ?_
    refine s_bipush (pc' := 301) W (113 : Int32) at_299 rfl rfl ?_
    refine s_castore (pc' := 302) W 37 V_q M_q rfl (by decide) (by decide) (bt rfl) at_301 rfl ?_
    intro T h W K67 C67 Vn67
    replace M_r := M_r.mv C67
    replace X_r := X_r.keep K67
    replace V_r := V_r.keep K67 (ninS ne_r_q nin0)
    replace M_q := M_q.mv C67
    replace X_q := X_q.keep K67
    have V_q := Vn67
    clear Vn67
    rw [show nar .char (113 : Int32) = 113 from by decide] at V_q
    have V_q : Arv Z _ q k_q .char (51 : Int32) [.int 113, .int 113, .int 113, .int 113, .int 113, .int 113, .int 113, .int 113, .int 113, .int 113, .int 113, .int 113, .int 113, .int 113, .int 113, .int 113, .int 113, .int 113, .int 113, .int 113, .int 113, .int 113, .int 113, .int 113, .int 113, .int 113, .int 113, .int 113, .int 113, .int 113, .int 113, .int 113, .int 113, .int 113, .int 113, .int 113, .int 113, .int 113, .int 0, .int 0, .int 0, .int 0, .int 0, .int 0, .int 0, .int 0, .int 0, .int 0, .int 0, .int 0, .int 0] (.int 0) := V_q
    refine s_dup (pc' := 303) W at_302 rfl rfl ?_
    refine s_bipush (pc' := 305) W (38 : Int32) at_303 rfl rfl ?_
    refine s_bipush (pc' := 307) W (113 : Int32) at_305 rfl rfl ?_
    refine s_castore (pc' := 308) W 38 V_q M_q rfl (by decide) (by decide) (bt rfl) at_307 rfl ?_
    intro T h W K68 C68 Vn68
    replace M_r := M_r.mv C68
    replace X_r := X_r.keep K68
    replace V_r := V_r.keep K68 (ninS ne_r_q nin0)
    replace M_q := M_q.mv C68
    replace X_q := X_q.keep K68
    have V_q := Vn68
    clear Vn68
    rw [show nar .char (113 : Int32) = 113 from by decide] at V_q
    have V_q : Arv Z _ q k_q .char (51 : Int32) [.int 113, .int 113, .int 113, .int 113, .int 113, .int 113, .int 113, .int 113, .int 113, .int 113, .int 113, .int 113, .int 113, .int 113, .int 113, .int 113, .int 113, .int 113, .int 113, .int 113, .int 113, .int 113, .int 113, .int 113, .int 113, .int 113, .int 113, .int 113, .int 113, .int 113, .int 113, .int 113, .int 113, .int 113, .int 113, .int 113, .int 113, .int 113, .int 113, .int 0, .int 0, .int 0, .int 0, .int 0, .int 0, .int 0, .int 0, .int 0, .int 0, .int 0, .int 0] (.int 0) := V_q
    refine s_dup (pc' := 309) W at_308 rfl rfl ?_
    refine s_bipush (pc' := 311) W (39 : Int32) at_309 rfl rfl ?_
    refine s_bipush (pc' := 313) W (113 : Int32) at_311 rfl rfl ?_
    refine s_castore (pc' := 314) W 39 V_q M_q rfl (by decide) (by decide) (bt rfl) at_313 rfl ?_
    intro T h W K69 C69 Vn69
    replace M_r := M_r.mv C69
    replace X_r := X_r.keep K69
    replace V_r := V_r.keep K69 (ninS ne_r_q nin0)
    replace M_q := M_q.mv C69
    replace X_q := X_q.keep K69
    have V_q := Vn69
    clear Vn69
    rw [show nar .char (113 : Int32) = 113 from by decide] at V_q
    have V_q : Arv Z _ q k_q .char (51 : Int32) [.int 113, .int 113, .int 113, .int 113, .int 113, .int 113, .int 113, .int 113, .int 113, .int 113, .int 113, .int 113, .int 113, .int 113, .int 113, .int 113, .int 113, .int 113, .int 113, .int 113, .int 113, .int 113, .int 113, .int 113, .int 113, .int 113, .int 113, .int 113, .int 113, .int 113, .int 113, .int 113, .int 113, .int 113, .int 113, .int 113, .int 113, .int 113, .int 113, .int 113, .int 0, .int 0, .int 0, .int 0, .int 0, .int 0, .int 0, .int 0, .int 0, .int 0, .int 0] (.int 0) := V_q
    refine s_dup (pc' := 315) W at_314 rfl rfl ?_
    refine s_bipush (pc' := 317) W (40 : Int32) at_315 rfl rfl ?_
    refine s_bipush (pc' := 319) W (113 : Int32) at_317 rfl rfl ?_
    refine s_castore (pc' := 320) W 40 V_q M_q rfl (by decide) (by decide) (bt rfl) at_319 rfl ?_
    intro T h W K70 C70 Vn70
    replace M_r := M_r.mv C70
    replace X_r := X_r.keep K70
    replace V_r := V_r.keep K70 (ninS ne_r_q nin0)
    replace M_q := M_q.mv C70
    replace X_q := X_q.keep K70
    have V_q := Vn70
    clear Vn70
    rw [show nar .char (113 : Int32) = 113 from by decide] at V_q
    have V_q : Arv Z _ q k_q .char (51 : Int32) [.int 113, .int 113, .int 113, .int 113, .int 113, .int 113, .int 113, .int 113, .int 113, .int 113, .int 113, .int 113, .int 113, .int 113, .int 113, .int 113, .int 113, .int 113, .int 113, .int 113, .int 113, .int 113, .int 113, .int 113, .int 113, .int 113, .int 113, .int 113, .int 113, .int 113, .int 113, .int 113, .int 113, .int 113, .int 113, .int 113, .int 113, .int 113, .int 113, .int 113, .int 113, .int 0, .int 0, .int 0, .int 0, .int 0, .int 0, .int 0, .int 0, .int 0, .int 0] (.int 0) := V_q
    refine s_dup (pc' := 321) W at_320 rfl rfl ?_
    refine s_bipush (pc' := 323) W (41 : Int32) at_321 rfl rfl ?_
    refine s_bipush (pc' := 325) W (113 : Int32) at_323 rfl rfl ?_
    refine s_castore (pc' := 326) W 41 V_q M_q rfl (by decide) (by decide) (bt rfl) at_325 rfl ?_
    intro T h W K71 C71 Vn71
    replace M_r := M_r.mv C71
    replace X_r := X_r.keep K71
    replace V_r := V_r.keep K71 (ninS ne_r_q nin0)
    replace M_q := M_q.mv C71
    replace X_q := X_q.keep K71
    have V_q := Vn71
    clear Vn71
    rw [show nar .char (113 : Int32) = 113 from by decide] at V_q
    have V_q : Arv Z _ q k_q .char (51 : Int32) [.int 113, .int 113, .int 113, .int 113, .int 113, .int 113, .int 113, .int 113, .int 113, .int 113, .int 113, .int 113, .int 113, .int 113, .int 113, .int 113, .int 113, .int 113, .int 113, .int 113, .int 113, .int 113, .int 113, .int 113, .int 113, .int 113, .int 113, .int 113, .int 113, .int 113, .int 113, .int 113, .int 113, .int 113, .int 113, .int 113, .int 113, .int 113, .int 113, .int 113, .int 113, .int 113, .int 0, .int 0, .int 0, .int 0, .int 0, .int 0, .int 0, .int 0, .int 0] (.int 0) := V_q
    refine s_dup (pc' := 327) W at_326 rfl rfl ?_
    refine s_bipush (pc' := 329) W (42 : Int32) at_327 rfl rfl ?_
    refine s_bipush (pc' := 331) W (113 : Int32) at_329 rfl rfl ?_
    refine s_castore (pc' := 332) W 42 V_q M_q rfl (by decide) (by decide) (bt rfl) at_331 rfl ?_
    intro T h W K72 C72 Vn72
    replace M_r := M_r.mv C72
    replace X_r := X_r.keep K72
    replace V_r := V_r.keep K72 (ninS ne_r_q nin0)
    replace M_q := M_q.mv C72
    replace X_q := X_q.keep K72
    have V_q := Vn72
    clear Vn72
    rw [show nar .char (113 : Int32) = 113 from by decide] at V_q
    have V_q : Arv Z _ q k_q .char (51 : Int32) [.int 113, .int 113, .int 113, .int 113, .int 113, .int 113, .int 113, .int 113, .int 113, .int 113, .int 113, .int 113, .int 113, .int 113, .int 113, .int 113, .int 113, .int 113, .int 113, .int 113, .int 113, .int 113, .int 113, .int 113, .int 113, .int 113, .int 113, .int 113, .int 113, .int 113, .int 113, .int 113, .int 113, .int 113, .int 113, .int 113, .int 113, .int 113, .int 113, .int 113, .int 113, .int 113, .int 113, .int 0, .int 0, .int 0, .int 0, .int 0, .int 0, .int 0, .int 0] (.int 0) := V_q
    refine s_dup (pc' := 333) W at_332 rfl rfl ?_
    refine s_bipush (pc' := 335) W (43 : Int32) at_333 rfl rfl ?_
    refine s_bipush (pc' := 337) W (113 : Int32) at_335 rfl rfl ?_
    refine s_castore (pc' := 338) W 43 V_q M_q rfl (by decide) (by decide) (bt rfl) at_337 rfl ?_
    intro T h W K73 C73 Vn73
    replace M_r := M_r.mv C73
    replace X_r := X_r.keep K73
    replace V_r := V_r.keep K73 (ninS ne_r_q nin0)
    replace M_q := M_q.mv C73
    replace X_q := X_q.keep K73
    have V_q := Vn73
    clear Vn73
    rw [show nar .char (113 : Int32) = 113 from by decide] at V_q
    have V_q : Arv Z _ q k_q .char (51 : Int32) [.int 113, .int 113, .int 113, .int 113, .int 113, .int 113, .int 113, .int 113, .int 113, .int 113, .int 113, .int 113, .int 113, .int 113, .int 113, .int 113, .int 113, .int 113, .int 113, .int 113, .int 113, .int 113, .int 113, .int 113, .int 113, .int 113, .int 113, .int 113, .int 113, .int 113, .int 113, .int 113, .int 113, .int 113, .int 113, .int 113, .int 113, .int 113, .int 113, .int 113, .int 113, .int 113, .int 113, .int 113, .int 0, .int 0, .int 0, .int 0, .int 0, .int 0, .int 0] (.int 0) := V_q
    refine s_dup (pc' := 339) W at_338 rfl rfl ?_
    refine s_bipush (pc' := 341) W (44 : Int32) at_339 rfl rfl ?_
    refine s_bipush (pc' := 343) W (113 : Int32) at_341 rfl rfl ?_
    refine s_castore (pc' := 344) W 44 V_q M_q rfl (by decide) (by decide) (bt rfl) at_343 rfl ?_
    intro T h W K74 C74 Vn74
    replace M_r := M_r.mv C74
    replace X_r := X_r.keep K74
    replace V_r := V_r.keep K74 (ninS ne_r_q nin0)
    replace M_q := M_q.mv C74
    replace X_q := X_q.keep K74
    have V_q := Vn74
    clear Vn74
    rw [show nar .char (113 : Int32) = 113 from by decide] at V_q
    have V_q : Arv Z _ q k_q .char (51 : Int32) [.int 113, .int 113, .int 113, .int 113, .int 113, .int 113, .int 113, .int 113, .int 113, .int 113, .int 113, .int 113, .int 113, .int 113, .int 113, .int 113, .int 113, .int 113, .int 113, .int 113, .int 113, .int 113, .int 113, .int 113, .int 113, .int 113, .int 113, .int 113, .int 113, .int 113, .int 113, .int 113, .int 113, .int 113, .int 113, .int 113, .int 113, .int 113, .int 113, .int 113, .int 113, .int 113, .int 113, .int 113, .int 113, .int 0, .int 0, .int 0, .int 0, .int 0, .int 0] (.int 0) := V_q
    refine s_dup (pc' := 345) W at_344 rfl rfl ?_
    refine s_bipush (pc' := 347) W (45 : Int32) at_345 rfl rfl ?_
    refine s_aload (pc' := 349) W at_347 rfl rfl rfl ?_
    refine s_iconst (pc' := 350) W (0 : Int32) at_349 rfl rfl ?_
    refine s_caload (pc' := 351) W (.int d0) V_r (by decide) (by decide) rfl at_350 rfl ?_
    refine s_castore (pc' := 352) W 45 V_q M_q rfl (by decide) (by decide) (bt rfl) at_351 rfl ?_
    intro T h W K75 C75 Vn75
    replace M_r := M_r.mv C75
    replace X_r := X_r.keep K75
    replace V_r := V_r.keep K75 (ninS ne_r_q nin0)
    replace M_q := M_q.mv C75
    replace X_q := X_q.keep K75
    have V_q := Vn75
    clear Vn75
    rw [hd0.nar] at V_q
    have V_q : Arv Z _ q k_q .char (51 : Int32) [.int 113, .int 113, .int 113, .int 113, .int 113, .int 113, .int 113, .int 113, .int 113, .int 113, .int 113, .int 113, .int 113, .int 113, .int 113, .int 113, .int 113, .int 113, .int 113, .int 113, .int 113, .int 113, .int 113, .int 113, .int 113, .int 113, .int 113, .int 113, .int 113, .int 113, .int 113, .int 113, .int 113, .int 113, .int 113, .int 113, .int 113, .int 113, .int 113, .int 113, .int 113, .int 113, .int 113, .int 113, .int 113, .int d0, .int 0, .int 0, .int 0, .int 0, .int 0] (.int 0) := V_q
    refine s_dup (pc' := 353) W at_352 rfl rfl ?_
    refine s_bipush (pc' := 355) W (46 : Int32) at_353 rfl rfl ?_
    refine s_aload (pc' := 357) W at_355 rfl rfl rfl ?_
    refine s_iconst (pc' := 358) W (1 : Int32) at_357 rfl rfl ?_
    refine s_caload (pc' := 359) W (.int d1) V_r (by decide) (by decide) rfl at_358 rfl ?_
    refine s_castore (pc' := 360) W 46 V_q M_q rfl (by decide) (by decide) (bt rfl) at_359 rfl ?_
    intro T h W K76 C76 Vn76
    replace M_r := M_r.mv C76
    replace X_r := X_r.keep K76
    replace V_r := V_r.keep K76 (ninS ne_r_q nin0)
    replace M_q := M_q.mv C76
    replace X_q := X_q.keep K76
    have V_q := Vn76
    clear Vn76
    rw [hd1.nar] at V_q
    have V_q : Arv Z _ q k_q .char (51 : Int32) [.int 113, .int 113, .int 113, .int 113, .int 113, .int 113, .int 113, .int 113, .int 113, .int 113, .int 113, .int 113, .int 113, .int 113, .int 113, .int 113, .int 113, .int 113, .int 113, .int 113, .int 113, .int 113, .int 113, .int 113, .int 113, .int 113, .int 113, .int 113, .int 113, .int 113, .int 113, .int 113, .int 113, .int 113, .int 113, .int 113, .int 113, .int 113, .int 113, .int 113, .int 113, .int 113, .int 113, .int 113, .int 113, .int d0, .int d1, .int 0, .int 0, .int 0, .int 0] (.int 0) := V_q
    refine s_dup (pc' := 361) W at_360 rfl rfl ?_
    refine s_bipush (pc' := 363) W (47 : Int32) at_361 rfl rfl ?_
    refine s_aload (pc' := 365) W at_363 rfl rfl rfl ?_
    refine s_iconst (pc' := 366) W (2 : Int32) at_365 rfl rfl ?_
    refine s_caload (pc' := 367) W (.int d2) V_r (by decide) (by decide) rfl at_366 rfl ?_
    refine s_castore (pc' := 368) W 47 V_q M_q rfl (by decide) (by decide) (bt rfl) at_367 rfl ?_
    intro T h W K77 C77 Vn77
    replace M_r := M_r.mv C77
    replace X_r := X_r.keep K77
    replace V_r := V_r.keep K77 (ninS ne_r_q nin0)
    replace M_q := M_q.mv C77
    replace X_q := X_q.keep K77
    have V_q := Vn77
    clear Vn77
    rw [hd2.nar] at V_q
    have V_q : Arv Z _ q k_q .char (51 : Int32) [.int 113, .int 113, .int 113, .int 113, .int 113, .int 113, .int 113, .int 113, .int 113, .int 113, .int 113, .int 113, .int 113, .int 113, .int 113, .int 113, .int 113, .int 113, .int 113, .int 113, .int 113, .int 113, .int 113, .int 113, .int 113, .int 113, .int 113, .int 113, .int 113, .int 113, .int 113, .int 113, .int 113, .int 113, .int 113, .int 113, .int 113, .int 113, .int 113, .int 113, .int 113, .int 113, .int 113, .int 113, .int 113, .int d0, .int d1, .int d2, .int 0, .int 0, .int 0] (.int 0) := V_q
    refine s_dup (pc' := 369) W at_368 rfl rfl ?_
    refine s_bipush (pc' := 371) W (48 : Int32) at_369 rfl rfl ?_
    refine s_aload (pc' := 373) W at_371 rfl rfl rfl ?_
    refine s_iconst (pc' := 374) W (3 : Int32) at_373 rfl rfl ?_
    refine s_caload (pc' := 375) W (.int d3) V_r (by decide) (by decide) rfl at_374 rfl ?_
    refine s_castore (pc' := 376) W 48 V_q M_q rfl (by decide) (by decide) (bt rfl) at_375 rfl ?_
    intro T h W K78 C78 Vn78
    replace M_r := M_r.mv C78
    replace X_r := X_r.keep K78
    replace V_r := V_r.keep K78 (ninS ne_r_q nin0)
    replace M_q := M_q.mv C78
    replace X_q := X_q.keep K78
    have V_q := Vn78
    clear Vn78
    rw [hd3.nar] at V_q
    have V_q : Arv Z _ q k_q .char (51 : Int32) [.int 113, .int 113, .int 113, .int 113, .int 113, .int 113, .int 113, .int 113, .int 113, .int 113, .int 113, .int 113, .int 113, .int 113, .int 113, .int 113, .int 113, .int 113, .int 113, .int 113, .int 113, .int 113, .int 113, .int 113, .int 113, .int 113, .int 113, .int 113, .int 113, .int 113, .int 113, .int 113, .int 113, .int 113, .int 113, .int 113, .int 113, .int 113, .int 113, .int 113, .int 113, .int 113, .int 113, .int 113, .int 113, .int d0, .int d1, .int d2, .int d3, .int 0, .int 0] (.int 0) := V_q
    refine s_dup (pc' := 377) W at_376 rfl rfl ?_
    refine s_bipush (pc' := 379) W (49 : Int32) at_377 rfl rfl ?_
    refine s_aload (pc' := 381) W at_379 rfl rfl rfl ?_
    refine s_iconst (pc' := 382) W (4 : Int32) at_381 rfl rfl ?_
    refine s_caload (pc' := 383) W (.int d4) V_r (by decide) (by decide) rfl at_382 rfl ?_
    refine s_castore (pc' := 384) W 49 V_q M_q rfl (by decide) (by decide) (bt rfl) at_383 rfl ?_
    intro T h W K79 C79 Vn79
    replace M_r := M_r.mv C79
    replace X_r := X_r.keep K79
    replace V_r := V_r.keep K79 (ninS ne_r_q nin0)
    replace M_q := M_q.mv C79
    replace X_q := X_q.keep K79
    have V_q := Vn79
    clear Vn79
    rw [hd4.nar] at V_q
    have V_q : Arv Z _ q k_q .char (51 : Int32) [.int 113, .int 113, .int 113, .int 113, .int 113, .int 113, .int 113, .int 113, .int 113, .int 113, .int 113, .int 113, .int 113, .int 113, .int 113, .int 113, .int 113, .int 113, .int 113, .int 113, .int 113, .int 113, .int 113, .int 113, .int 113, .int 113, .int 113, .int 113, .int 113, .int 113, .int 113, .int 113, .int 113, .int 113, .int 113, .int 113, .int 113, .int 113, .int 113, .int 113, .int 113, .int 113, .int 113, .int 113, .int 113, .int d0, .int d1, .int d2, .int d3, .int d4, .int 0] (.int 0) := V_q
    refine s_dup (pc' := 385) W at_384 rfl rfl ?_
    refine s_bipush (pc' := 387) W (50 : Int32) at_385 rfl rfl ?_
    refine s_aload (pc' := 389) W at_387 rfl rfl rfl ?_
    refine s_iconst (pc' := 390) W (5 : Int32) at_389 rfl rfl ?_
    refine s_caload (pc' := 391) W (.int d5) V_r (by decide) (by decide) rfl at_390 rfl ?_
    refine s_castore (pc' := 392) W 50 V_q M_q rfl (by decide) (by decide) (bt rfl) at_391 rfl ?_
    intro T h W K80 C80 Vn80
    replace M_r := M_r.mv C80
    replace X_r := X_r.keep K80
    replace V_r := V_r.keep K80 (ninS ne_r_q nin0)
    replace M_q := M_q.mv C80
    replace X_q := X_q.keep K80
    have V_q := Vn80
    clear Vn80
    rw [hd5.nar] at V_q
    have V_q : Arv Z _ q k_q .char (51 : Int32) [.int 113, .int 113, .int 113, .int 113, .int 113, .int 113, .int 113, .int 113, .int 113, .int 113, .int 113, .int 113, .int 113, .int 113, .int 113, .int 113, .int 113, .int 113, .int 113, .int 113, .int 113, .int 113, .int 113, .int 113, .int 113, .int 113, .int 113, .int 113, .int 113, .int 113, .int 113, .int 113, .int 113, .int 113, .int 113, .int 113, .int 113, .int 113, .int 113, .int 113, .int 113, .int 113, .int 113, .int 113, .int 113, .int d0, .int d1, .int d2, .int d3, .int d4, .int d5] (.int 0) := V_q
    refine s_astore (pc' := 394) W #[iv p0, iv p1, iv p2, iv (1 : Int32), rv r, .unset, rv q, .unset, .unset, .unset, .unset, .unset, .unset, .unset] at_392 rfl rfl rfl ?_
    refine s_new (pc' := 397) W (w5 hw) (w6 hw) (w7 hw) at_394 (by decide) (by decide) rfl ?_
    intro sr T h g_sr
    have ne_r_sr : @Ne Nat r sr := by have := nlt M_r.2.1; omega
    have ne_q_sr : @Ne Nat q sr := by have := nlt M_q.2.1; omega
    intro W K81 C81 M_sr E_sr D_sr U_sr
    replace M_r := M_r.mv C81
    replace X_r := X_r.keep K81
    replace V_r := V_r.keep K81 nin0
    replace M_q := M_q.mv C81
    replace X_q := X_q.keep K81
    replace V_q := V_q.keep K81 nin0
    have F_coder_sr : Fld Z _ sr "java/lang/String" "coder" "B" (.int 0) := D_sr (Or.inr (w31 hw)) (ty := .byte) (by decide)
    have F_value_sr : Fld Z _ sr "java/lang/String" "value" "[B" .null := D_sr (Or.inr (w33 hw)) (ty := (.array .byte)) (by decide)
    have hLs : ∀ c ∈ (List.replicate 45 113 ++ [d0, d1, d2, d3, d4, d5]), L1 c := fun c hc => (List.mem_append.mp hc).elim (fun q => by rw [List.eq_of_mem_replicate q]; exact ⟨by decide, by decide⟩) (by have z : ∀ c ∈ [d0, d1, d2, d3, d4, d5], L1 c := (by simp [hd0, hd1, hd2, hd3, hd4, hd5]); exact z c)
    refine s_dup (pc' := 398) W at_397 rfl rfl ?_
    refine s_aload (pc' := 400) W at_398 rfl rfl rfl ?_
    refine s_init (pc' := 403) W rfl (w8 hw) (w9 hw) (w7 hw) (w10 hw) (by decide) pd27 [(.ref q)] rfl (c_strinit l hw W.old CS0 (cs := (List.replicate 45 113 ++ [d0, d1, d2, d3, d4, d5])) (n := 51) (by simp) (by decide) hLs E_sr M_sr.1 M_sr.2.1 F_coder_sr F_value_sr V_q (by decide)) (allS ⟨M_sr.2.1, M_sr.2.2⟩ all0) rfl at_400 1 (le rfl) (bl rfl) (bl rfl) (by decide) (by decide) rfl ?_
    rintro _ T vm h W C82 ⟨rfl, K82, b_s, kb_s, Ls⟩
    replace M_r := M_r.mv C82
    replace X_r := X_r.keep K82
    replace V_r := V_r.keep K82 (ninS ne_r_sr nin0)
    replace M_q := M_q.mv C82
    replace X_q := X_q.keep K82
    replace V_q := V_q.keep K82 (ninS ne_q_sr nin0)
    replace E_sr := E_sr.keep K82
    replace M_sr := M_sr.mv C82
    refine s_astore (pc' := 405) W #[iv p0, iv p1, iv p2, iv (1 : Int32), rv r, rv sr, rv q, .unset, .unset, .unset, .unset, .unset, .unset, .unset] at_403 rfl rfl rfl ?_
    refine s_goto (pc' := 419) W at_405 (by decide) rfl ?_
    refine s_bipush (pc' := 421) W (6 : Int32) at_419 rfl rfl ?_
    replace W := W.more (cells' := 4) (slots' := 112) (by (try dsimp only) <;> omega) (by (try dsimp only) <;> omega)
    exact lp_rest1 hw CS0 FM OE0 hd0 hd1 hd2 hd3 hd4 hd5 V_r Ls W
set_option maxRecDepth 65536 in
set_option maxHeartbeats 40000000 in
theorem comes_1 {Post : Tables → Env → Array Value → State → Outcome → State → Prop} (hpost : ∀ tb e args s v u, (limb_1_1.after args s (.returned v) u = true ∧ limb_1_2.after args s (.returned v) u = true ∧ True) → Jvm.D.Framed s (.returned v) u (Jvm.fieldLocs frame_1_writes args s ++ Jvm.arrayLocs frame_1_arrays args s ++ Jvm.staticLocs frame_1_statics s) 32 576 → Post tb e args s (.returned v) u) :
    ArmFor flags0 classFile x code maxLocals ret World_1 tables_1 room_1 Calls_1 rest_1 Pre_1 Post := by
  intro l hfl _ _ p e ha hc hk s m args below hf hA hF happ hP
  obtain ⟨hcalls, hrest, hpre⟩ := hP
  obtain ⟨-, -, -, hnamed, -, -, -, hat⟩ := (Spec.applies_iff hf).mp happ
  obtain ⟨hg, hn⟩ := and_e (Cond.before_iff.mp (show (Jvm.Cond.and given_1 narrow_1).before args s = true from hpre))
  obtain ⟨h1, h2⟩ := and_e hg
  obtain ⟨hi0, h3⟩ := and_e h2
  obtain ⟨hi1, h4⟩ := and_e h3
  have hi2 := h4
  obtain ⟨v0, v1, v2, rfl⟩ : ∃ v0 v1 v2 : Value, args = #[v0, v1, v2] := by
    have hs : args.size = 3 := by simpa [Cond.value, given_1] using h1
    obtain ⟨L⟩ := args
    match L, hs with
    | [v0, v1, v2], _ => exact ⟨v0, v1, v2, rfl⟩
  have hw : Hw s #[v0, v1, v2] := fun d (hd : d ∈ tables_1) => atoms_spec (ws := Jvm.Cond.code x code maxLocals ret :: tables_1) hat d (List.mem_cons_of_mem _ hd)
  obtain ⟨hsets, hown0⟩ := atoms_of _ (rest_1_c_eq ▸ (show rest_1_c.before _ s = true from hrest))
  obtain ⟨i0, e0⟩ := is_v hi0
  obtain rfl : v0 = (.int i0) := Option.some.inj e0
  obtain ⟨i1, e1⟩ := is_v hi1
  obtain rfl : v1 = (.int i1) := Option.some.inj e1
  obtain ⟨i2, e2⟩ := is_v hi2
  obtain rfl : v2 = (.int i2) := Option.some.inj e2
  have n5 := not_v (Cond.before_iff.mp (hsets _ (List.mem_of_getElem? (i := 2) rfl)))
  obtain ⟨ic, ec⟩ := is_v (Cond.before_iff.mp (hsets _ (List.mem_of_getElem? (i := 1) rfl)))
  have S12 : Sta s s.heap "java/lang/String" "COMPACT_STRINGS" "Z" (.int ic) := Sta.start ec (Or.inl (hsets _ (List.mem_of_getElem? (i := 0) rfl)))
  have CS0 : CS s := ⟨ic, S12, gotF (Cond.eq_ints ec (Term.int_eval (0))) n5⟩
  have hchv : CHv s EL1 s.vm s.heap := fun _ q => nomatch q
  obtain ⟨vf, ef, rf⟩ := isR_v (Cond.before_iff.mp (hsets _ (List.mem_of_getElem? (i := 8) rfl)))
  have FM : Fmt s := ⟨vf, Sta.start ef (Or.inl (hsets _ (List.mem_of_getElem? (i := 7) rfl))), rf⟩
  obtain ⟨em, _, _, _, eem, _⟩ := Cond.exactly_spec (hsets _ (List.mem_of_getElem? (i := 11) rfl))
  have OE0 : OE s := ⟨em, Sta.start eem (Or.inl (hsets _ (List.mem_of_getElem? (i := 10) rfl))), Exa.start eem (Cond.before_iff.mp (hsets _ (List.mem_of_getElem? (i := 11) rfl))), Fld.start ((fld_at eem).symm.trans (null_v (Cond.before_iff.mp (hsets _ (List.mem_of_getElem? (i := 12) rfl)))))⟩
  obtain ⟨n, o, h1, h2, h3, v, L, rfl, hq, N, -, hr⟩ := c_law l hw (Old.start s) CS0 FM OE0 p e ha hc hk s m _ below hf ((Spec.applies_iff_loose hf).mp happ).1 ⟨rfl, State.Warmed39.refl s, rfl, hchv, all0⟩ trivial
  subst hq
  refine ⟨n, _, h1, h2, h3, hpost _ _ _ _ _ _ ⟨Cond.after_iff.mpr rfl, Cond.after_iff.mpr (eq_i res_at (Term.int_eval (1)) rfl), trivial⟩ ⟨hr.1.1, hr.2 rfl, (hr.1.2.2.2.sift fun y hy => Or.inr (N y hy)).mono (by decide) (by decide)⟩⟩
theorem main_1_1 : Claimed_1_1 := comes_1 fun _ _ _ _ _ _ h hF => ⟨h.1, hF⟩
theorem main_1_2 : Claimed_1_2 := comes_1 fun _ _ _ _ _ _ h hF => ⟨h.2.1, hF⟩
end Jvm.Pilot.@@N@@
namespace Jvm.Pilot.@@N@@
open Jvm Jvm.ClassFile Sem Op Lib Jvm.Free Jvm.Stand Jvm.Pilot.@@N@@.Jvm.D
/-! MADE BY PROGRAM (witnessworld.py) out of the Statement's table words and the real class files: 28 classes; the members and pool entries that the words name. The judged class is class 1, her method 5. -/
namespace start1
open Jvm.ClassFile
def u (s : String) : CpInfo := .utf8 (stringToUtf16 s)
/-- a pool by its gaps: so many unusable entries, then the entry; so many at the end -/
def gap : Nat → List CpInfo → List CpInfo
  | 0, r => r
  | n + 1, r => .unusable :: gap n r
def poolList (es : List (Nat × CpInfo)) (last : Nat) : List CpInfo := es.foldr (fun e r => gap e.1 (e.2 :: r)) (gap last [])
def pool (es : List (Nat × CpInfo)) (last : Nat) : Array CpInfo := ⟨poolList es last⟩
def fileOf (pool : Array CpInfo) (this : Nat) (attrs : Array Attribute := #[]) (ms : Array MethodInfo := #[]) (fl : Nat := 33) (sup : Nat := 0) (ifs : Array Nat := #[]) (fds : Array FieldInfo := #[]) : ClassFile where
  minorVersion := 0
  majorVersion := 65
  constantPool := pool
  accessFlags := fl
  thisClass := this
  superClass := sup
  interfaces := ifs
  fields := fds
  methods := ms
  attributes := attrs
def plain (name : String) (sup : Option ClassId) : Class where
  name := name
  kind := .ordinary
  loader := none
  accessFlags := 33
  super := sup
  interfaces := #[]
  cf := none
  fields := #[]
  methods := #[]
  instanceTypes := #[]
  staticTypes := #[]
  resolved := #[]
  callSites := []
  init := .initialized
  statics := none
  mirror := none

def pool0 : Array CpInfo := pool [(5, u "<init>"), (0, u "()V"), (1, .class_ 10), (1, u "java/lang/Object"), (85, u "clone"), (0, u "()Ljava/lang/Object;")] 26

def k0c0 : Code := { maxStack := 0, maxLocals := 1, code := object_method_1_code, exceptionTable := #[], attributes := #[] }
def k0m0 : Method := { name := "<init>", desc := "()V", sig := { parameters := [], returnType := none }, accessFlags := 1, code := some k0c0 }
def k0m1 : Method := { name := "clone", desc := "()Ljava/lang/Object;", sig := { parameters := [], returnType := some (.object "java/lang/Object") }, accessFlags := 260, code := none }
/-- java/lang/Object -/
def k0 : Class := { plain "java/lang/Object" none with
  accessFlags := 33
  interfaces := #[]
  cf := some (fileOf pool0 8 #[] #[{ accessFlags := 1, nameIndex := 5, descriptorIndex := 6, attributes := #[] }, { accessFlags := 260, nameIndex := 96, descriptorIndex := 97, attributes := #[] }] 33 0 #[] #[])
  fields := #[]
  methods := #[k0m0, k0m1]
  instanceTypes := #[]
  staticTypes := #[]
  resolved := Array.replicate 124 none
  statics := none }

def pool1 : Array CpInfo := pool [(2, .class_ 4), (1, u "java/lang/Object"), (0, u "<init>"), (0, u "()V"), (0, .methodref 8 9), (0, .class_ 10), (0, .nameAndType 11 12), (0, u "com/example/udfyld/udfyld/NormaliserQueryPinLaw"), (0, u "isLetter"), (0, u "(C)Z"), (0, .methodref 14 15), (0, .class_ 16), (0, .nameAndType 17 18), (0, u "java/lang/String"), (0, u "charAt"), (0, u "(I)C"), (0, .methodref 8 20), (0, .nameAndType 21 18), (0, u "draw"), (0, .methodref 14 23), (0, .nameAndType 5 24), (0, u "([C)V"), (0, .methodref 8 26), (0, .nameAndType 27 28), (0, u "step"), (0, u "([C[ICI)V"), (0, .methodref 30 31), (0, .class_ 32), (0, .nameAndType 33 34), (0, u "com/example/udfyld/udfyld/Normaliser"), (0, u "query"), (0, u "(Ljava/lang/String;)Ljava/util/Optional;"), (0, .methodref 36 37), (0, .class_ 38), (0, .nameAndType 39 40), (0, u "java/util/Optional"), (0, u "isPresent"), (0, u "()Z"), (0, .methodref 36 42), (0, .nameAndType 43 44), (0, u "get"), (0, u "()Ljava/lang/Object;"), (0, .methodref 14 46), (0, .nameAndType 47 48), (0, u "length"), (0, u "()I"), (0, .methodref 8 50), (0, .nameAndType 51 52), (0, u "at"), (0, u "(Ljava/lang/String;[CIII)Z"), (3, u "law"), (0, u "(III)Z")] 6

def k1m0 : Method := { name := "<init>", desc := "()V", sig := { parameters := [], returnType := none }, accessFlags := 2, code := none }
def k1c1 : Code := { maxStack := 3, maxLocals := 3, code := method_2_code, exceptionTable := #[], attributes := #[] }
def k1m1 : Method := { name := "draw", desc := "(I)C", sig := { parameters := [.int], returnType := some .char }, accessFlags := 10, code := some k1c1 }
def k1c2 : Code := { maxStack := 2, maxLocals := 2, code := method_3_code, exceptionTable := #[], attributes := #[] }
def k1m2 : Method := { name := "isLetter", desc := "(C)Z", sig := { parameters := [.char], returnType := some .boolean }, accessFlags := 10, code := some k1c2 }
def k1c3 : Code := { maxStack := 4, maxLocals := 4, code := method_4_code, exceptionTable := #[], attributes := #[] }
def k1m3 : Method := { name := "step", desc := "([C[ICI)V", sig := { parameters := [(.array .char), (.array .int), .char, .int], returnType := none }, accessFlags := 10, code := some k1c3 }
def k1c4 : Code := { maxStack := 3, maxLocals := 5, code := method_5_code, exceptionTable := #[], attributes := #[] }
def k1m4 : Method := { name := "at", desc := "(Ljava/lang/String;[CIII)Z", sig := { parameters := [(.object "java/lang/String"), (.array .char), .int, .int, .int], returnType := some .boolean }, accessFlags := 10, code := some k1c4 }
def k1c5 : Code := { maxStack := 5, maxLocals := 14, code := code, exceptionTable := #[], attributes := #[] }
def k1m5 : Method := { name := "law", desc := "(III)Z", sig := { parameters := [.int, .int, .int], returnType := some .boolean }, accessFlags := 9, code := some k1c5 }
/-- com/example/udfyld/udfyld/NormaliserQueryPinLaw -/
def k1 : Class := { plain "com/example/udfyld/udfyld/NormaliserQueryPinLaw" (some 0) with
  accessFlags := 49
  interfaces := #[]
  cf := some (fileOf pool1 8 #[] #[{ accessFlags := 2, nameIndex := 5, descriptorIndex := 6, attributes := #[] }, { accessFlags := 10, nameIndex := 21, descriptorIndex := 18, attributes := #[] }, { accessFlags := 10, nameIndex := 11, descriptorIndex := 12, attributes := #[] }, { accessFlags := 10, nameIndex := 27, descriptorIndex := 28, attributes := #[] }, { accessFlags := 10, nameIndex := 51, descriptorIndex := 52, attributes := #[] }, { accessFlags := 9, nameIndex := 56, descriptorIndex := 57, attributes := #[] }] 49 2 #[] #[])
  fields := #[]
  methods := #[k1m0, k1m1, k1m2, k1m3, k1m4, k1m5]
  instanceTypes := #[]
  staticTypes := #[]
  resolved := Array.replicate 64 none
  statics := none }

def pool2 : Array CpInfo := pool [(1, .class_ 2), (0, u "java/io/Serializable"), (0, .class_ 4), (0, u "java/lang/Object")] 2

/-- java/io/Serializable -/
def k2 : Class := { plain "java/io/Serializable" (some 0) with
  accessFlags := 1537
  interfaces := #[]
  cf := some (fileOf pool2 1 #[] #[] 1537 3 #[] #[])
  fields := #[]
  methods := #[]
  instanceTypes := #[]
  staticTypes := #[]
  resolved := Array.replicate 7 none
  statics := none }

def pool3 : Array CpInfo := pool [(1, .class_ 2), (0, u "java/lang/Comparable"), (0, .class_ 4), (0, u "java/lang/Object")] 7

/-- java/lang/Comparable -/
def k3 : Class := { plain "java/lang/Comparable" (some 0) with
  accessFlags := 1537
  interfaces := #[]
  cf := some (fileOf pool3 1 #[] #[] 1537 3 #[] #[])
  fields := #[]
  methods := #[]
  instanceTypes := #[]
  staticTypes := #[]
  resolved := Array.replicate 12 none
  statics := none }

def pool4 : Array CpInfo := pool [(2, .class_ 4), (1, u "java/lang/CharSequence"), (42, .class_ 48), (0, u "java/lang/CharSequence$1CodePointIterator"), (10, .class_ 60), (0, u "java/lang/CharSequence$1CharIterator"), (5, .class_ 67), (0, u "java/lang/Object")] 63

/-- java/lang/CharSequence -/
def k4 : Class := { plain "java/lang/CharSequence" (some 0) with
  accessFlags := 1537
  interfaces := #[]
  cf := some (fileOf pool4 2 #[.nestMembers #[47, 59]] #[] 1537 66 #[] #[])
  fields := #[]
  methods := #[]
  instanceTypes := #[]
  staticTypes := #[]
  resolved := Array.replicate 131 none
  statics := none }

def pool5 : Array CpInfo := pool [(1, .class_ 2), (0, u "java/lang/constant/Constable"), (0, .class_ 4), (0, u "java/lang/Object")] 6

/-- java/lang/constant/Constable -/
def k5 : Class := { plain "java/lang/constant/Constable" (some 0) with
  accessFlags := 1537
  interfaces := #[]
  cf := some (fileOf pool5 1 #[] #[] 1537 3 #[] #[])
  fields := #[]
  methods := #[]
  instanceTypes := #[]
  staticTypes := #[]
  resolved := Array.replicate 11 none
  statics := none }

def pool6 : Array CpInfo := pool [(1, .class_ 2), (0, u "java/lang/constant/ConstantDesc"), (0, .class_ 4), (0, u "java/lang/Object")] 32

/-- java/lang/constant/ConstantDesc -/
def k6 : Class := { plain "java/lang/constant/ConstantDesc" (some 0) with
  accessFlags := 1537
  interfaces := #[]
  cf := some (fileOf pool6 1 #[] #[] 1537 3 #[] #[])
  fields := #[]
  methods := #[]
  instanceTypes := #[]
  staticTypes := #[]
  resolved := Array.replicate 37 none
  statics := none }

def pool7 : Array CpInfo := pool [(1, .methodref 2 3), (0, .class_ 4), (0, .nameAndType 5 6), (0, u "java/lang/Object"), (0, u "<init>"), (0, u "()V"), (2, .fieldref 10 11), (0, .class_ 12), (0, .nameAndType 13 14), (0, u "java/lang/String"), (0, u "value"), (0, u "[B"), (0, .fieldref 10 16), (0, .nameAndType 17 18), (0, u "coder"), (0, u "B"), (2, u "hash"), (0, u "I"), (2, u "hashIsZero"), (0, u "Z"), (0, .methodref 10 28), (0, .nameAndType 5 29), (0, u "([CIILjava/lang/Void;)V"), (8, .fieldref 10 39), (0, .nameAndType 40 26), (0, u "COMPACT_STRINGS"), (1, .class_ 44), (1, u "java/lang/StringUTF16"), (0, u "compress"), (1, .methodref 42 48), (0, .nameAndType 49 50), (0, u "coderFromArrayLen"), (0, u "([BI)B"), (3, .methodref 55 56), (0, .class_ 57), (0, .nameAndType 58 59), (0, u "java/util/Arrays"), (0, u "copyOfRange"), (0, u "([BII)[B"), (47, .class_ 109), (1, u "java/lang/StringLatin1"), (32, u "()Z"), (34, .methodref 42 178), (0, .nameAndType 45 179), (0, u "([CII)[B"), (154, u "()I"), (0, .methodref 10 336), (0, .nameAndType 17 337), (0, u "()B"), (2, u "()[B"), (22, u "([BI)C"), (27, u "(II)V"), (35, u "(I)C"), (61, .methodref 10 490), (0, .nameAndType 5 491), (0, u "(Ljava/lang/AbstractStringBuilder;Ljava/lang/Void;)V"), (0, .methodref 10 493), (0, .nameAndType 494 142), (0, u "isLatin1"), (0, .methodref 107 496), (0, .nameAndType 497 363), (0, u "charAt"), (3, u "checkIndex"), (4, .nameAndType 507 334), (0, u "length"), (41, .methodref 550 506), (0, .class_ 551), (0, u "java/lang/AbstractStringBuilder"), (0, .methodref 550 553), (0, .nameAndType 554 340), (0, u "getValue"), (20, .class_ 576), (0, u "java/lang/CharSequence"), (22, u "CASE_INSENSITIVE_ORDER"), (0, u "Ljava/util/Comparator;"), (91, u "isEmpty"), (317, u "([C)V"), (36, .methodref 550 493), (5, .fieldref 1054 1055), (0, .class_ 1056), (0, .nameAndType 1057 1058), (0, u "jdk/internal/util/Preconditions"), (0, u "SIOOBE_FORMATTER"), (0, u "Ljava/util/function/BiFunction;"), (0, .methodref 1054 1060), (0, .nameAndType 501 1061), (0, u "(IILjava/util/function/BiFunction;)I"), (39, u "serialPersistentFields"), (0, u "[Ljava/io/ObjectStreamField;"), (0, .class_ 1104), (0, u "java/lang/String$CaseInsensitiveComparator"), (1, .class_ 1107), (0, u "java/io/Serializable"), (0, .class_ 1109), (0, u "java/lang/Comparable"), (0, .class_ 1111), (0, u "java/lang/constant/Constable"), (0, .class_ 1113), (0, u "java/lang/constant/ConstantDesc"), (2, u "serialVersionUID"), (0, u "J"), (3, u "REPL"), (0, u "C"), (2, u "LATIN1"), (1, u "UTF16"), (105, u "(Ljava/lang/StringBuilder;)V")] 217

def k7m0 : Method := { name := "<init>", desc := "()V", sig := { parameters := [], returnType := none }, accessFlags := 1, code := none }
def k7c1 : Code := { maxStack := 5, maxLocals := 2, code := jdk_42_method_3_code, exceptionTable := #[], attributes := #[] }
def k7m1 : Method := { name := "<init>", desc := "([C)V", sig := { parameters := [(.array .char)], returnType := none }, accessFlags := 1, code := some k7c1 }
def k7c2 : Code := { maxStack := 3, maxLocals := 2, code := jdk_42_method_53_code, exceptionTable := #[], attributes := #[] }
def k7m2 : Method := { name := "<init>", desc := "(Ljava/lang/StringBuilder;)V", sig := { parameters := [(.object "java/lang/StringBuilder")], returnType := none }, accessFlags := 1, code := some k7c2 }
def k7c3 : Code := { maxStack := 2, maxLocals := 1, code := jdk_42_method_54_code, exceptionTable := #[], attributes := #[] }
def k7m3 : Method := { name := "length", desc := "()I", sig := { parameters := [], returnType := some .int }, accessFlags := 1, code := some k7c3 }
def k7c4 : Code := { maxStack := 1, maxLocals := 1, code := jdk_42_method_55_code, exceptionTable := #[], attributes := #[] }
def k7m4 : Method := { name := "isEmpty", desc := "()Z", sig := { parameters := [], returnType := some .boolean }, accessFlags := 1, code := some k7c4 }
def k7c5 : Code := { maxStack := 2, maxLocals := 2, code := jdk_42_method_56_code, exceptionTable := #[], attributes := #[] }
def k7m5 : Method := { name := "charAt", desc := "(I)C", sig := { parameters := [.int], returnType := some .char }, accessFlags := 1, code := some k7c5 }
def k7c6 : Code := { maxStack := 4, maxLocals := 6, code := jdk_42_method_149_code, exceptionTable := #[], attributes := #[] }
def k7m6 : Method := { name := "<init>", desc := "([CIILjava/lang/Void;)V", sig := { parameters := [(.array .char), .int, .int, (.object "java/lang/Void")], returnType := none }, accessFlags := 2, code := some k7c6 }
def k7c7 : Code := { maxStack := 5, maxLocals := 5, code := jdk_42_method_150_code, exceptionTable := #[], attributes := #[] }
def k7m7 : Method := { name := "<init>", desc := "(Ljava/lang/AbstractStringBuilder;Ljava/lang/Void;)V", sig := { parameters := [(.object "java/lang/AbstractStringBuilder"), (.object "java/lang/Void")], returnType := none }, accessFlags := 0, code := some k7c7 }
def k7c8 : Code := { maxStack := 1, maxLocals := 1, code := jdk_42_method_152_code, exceptionTable := #[], attributes := #[] }
def k7m8 : Method := { name := "coder", desc := "()B", sig := { parameters := [], returnType := some .byte }, accessFlags := 0, code := some k7c8 }
def k7c9 : Code := { maxStack := 1, maxLocals := 1, code := jdk_42_method_154_code, exceptionTable := #[], attributes := #[] }
def k7m9 : Method := { name := "isLatin1", desc := "()Z", sig := { parameters := [], returnType := some .boolean }, accessFlags := 0, code := some k7c9 }
def k7c10 : Code := { maxStack := 3, maxLocals := 2, code := jdk_42_method_155_code, exceptionTable := #[], attributes := #[] }
def k7m10 : Method := { name := "checkIndex", desc := "(II)V", sig := { parameters := [.int, .int], returnType := none }, accessFlags := 8, code := some k7c10 }
/-- java/lang/String -/
def k7 : Class := { plain "java/lang/String" (some 0) with
  accessFlags := 49
  interfaces := #[2, 3, 4, 5, 6]
  cf := some (fileOf pool7 10 #[.nestMembers #[1103]] #[{ accessFlags := 1, nameIndex := 5, descriptorIndex := 6, attributes := #[] }, { accessFlags := 1, nameIndex := 5, descriptorIndex := 1010, attributes := #[] }, { accessFlags := 1, nameIndex := 5, descriptorIndex := 1233, attributes := #[] }, { accessFlags := 1, nameIndex := 507, descriptorIndex := 334, attributes := #[] }, { accessFlags := 1, nameIndex := 692, descriptorIndex := 142, attributes := #[] }, { accessFlags := 1, nameIndex := 497, descriptorIndex := 427, attributes := #[] }, { accessFlags := 2, nameIndex := 5, descriptorIndex := 29, attributes := #[] }, { accessFlags := 0, nameIndex := 5, descriptorIndex := 491, attributes := #[] }, { accessFlags := 0, nameIndex := 17, descriptorIndex := 337, attributes := #[] }, { accessFlags := 0, nameIndex := 494, descriptorIndex := 142, attributes := #[] }, { accessFlags := 8, nameIndex := 501, descriptorIndex := 391, attributes := #[] }] 49 2 #[1106, 1108, 575, 1110, 1112] #[{ accessFlags := 18, nameIndex := 13, descriptorIndex := 14, attributes := #[] }, { accessFlags := 18, nameIndex := 17, descriptorIndex := 18, attributes := #[] }, { accessFlags := 2, nameIndex := 21, descriptorIndex := 22, attributes := #[] }, { accessFlags := 2, nameIndex := 25, descriptorIndex := 26, attributes := #[] }, { accessFlags := 26, nameIndex := 1116, descriptorIndex := 1117, attributes := #[] }, { accessFlags := 24, nameIndex := 40, descriptorIndex := 26, attributes := #[] }, { accessFlags := 26, nameIndex := 1101, descriptorIndex := 1102, attributes := #[] }, { accessFlags := 26, nameIndex := 1121, descriptorIndex := 1122, attributes := #[] }, { accessFlags := 25, nameIndex := 599, descriptorIndex := 600, attributes := #[] }, { accessFlags := 24, nameIndex := 1125, descriptorIndex := 18, attributes := #[] }, { accessFlags := 24, nameIndex := 1127, descriptorIndex := 18, attributes := #[] }])
  fields := #[{ name := "value", type := (.array .byte), accessFlags := 18, slot := 0, constantValue := 0 }, { name := "coder", type := .byte, accessFlags := 18, slot := 1, constantValue := 0 }, { name := "hash", type := .int, accessFlags := 2, slot := 2, constantValue := 0 }, { name := "hashIsZero", type := .boolean, accessFlags := 2, slot := 3, constantValue := 0 }, { name := "serialVersionUID", type := .long, accessFlags := 26, slot := 0, constantValue := 0 }, { name := "COMPACT_STRINGS", type := .boolean, accessFlags := 24, slot := 1, constantValue := 0 }, { name := "serialPersistentFields", type := (.array (.object "java/io/ObjectStreamField")), accessFlags := 26, slot := 2, constantValue := 0 }, { name := "REPL", type := .char, accessFlags := 26, slot := 3, constantValue := 0 }, { name := "CASE_INSENSITIVE_ORDER", type := (.object "java/util/Comparator"), accessFlags := 25, slot := 4, constantValue := 0 }, { name := "LATIN1", type := .byte, accessFlags := 24, slot := 5, constantValue := 0 }, { name := "UTF16", type := .byte, accessFlags := 24, slot := 6, constantValue := 0 }]
  methods := #[k7m0, k7m1, k7m2, k7m3, k7m4, k7m5, k7m6, k7m7, k7m8, k7m9, k7m10]
  instanceTypes := #[(.array .byte), .byte, .int, .boolean]
  staticTypes := #[.long, .boolean, (.array (.object "java/io/ObjectStreamField")), .char, (.object "java/util/Comparator"), .byte, .byte]
  resolved := Array.replicate 1451 none
  statics := some 0 }

def pool8 : Array CpInfo := pool [(6, .class_ 8), (1, u "java/lang/Object"), (0, u "<init>"), (0, u "()V"), (1, .class_ 14), (1, u "java/lang/StringUTF16"), (31, u "$assertionsDisabled"), (0, u "Z"), (13, u "HI_BYTE_SHIFT"), (0, u "I"), (2, u "LO_BYTE_SHIFT"), (49, .methodref 12 116), (0, .nameAndType 117 118), (0, u "compress"), (0, u "([CI[BII)I"), (3, u "([CII)[B"), (138, u "coderFromArrayLen"), (0, u "([BI)B"), (106, .class_ 371), (1, u "java/lang/StringUTF16$LinesSpliterator"), (58, u "MAX_LENGTH"), (196, .class_ 628), (0, u "java/lang/StringUTF16$CodePointsSpliterator"), (0, .class_ 630), (0, u "java/lang/StringUTF16$CharsSpliterator")] 4

def k8m0 : Method := { name := "<init>", desc := "()V", sig := { parameters := [], returnType := none }, accessFlags := 0, code := none }
def k8c1 : Code := { maxStack := 2, maxLocals := 2, code := jdk_52_method_15_code, exceptionTable := #[], attributes := #[] }
def k8m1 : Method := { name := "coderFromArrayLen", desc := "([BI)B", sig := { parameters := [(.array .byte), .int], returnType := some .byte }, accessFlags := 8, code := some k8c1 }
def k8c2 : Code := { maxStack := 5, maxLocals := 6, code := jdk_52_method_16_code, exceptionTable := #[], attributes := #[] }
def k8m2 : Method := { name := "compress", desc := "([CII)[B", sig := { parameters := [(.array .char), .int, .int], returnType := some (.array .byte) }, accessFlags := 9, code := some k8c2 }
def k8c3 : Code := { maxStack := 3, maxLocals := 7, code := jdk_52_method_21_code, exceptionTable := #[], attributes := #[] }
def k8m3 : Method := { name := "compress", desc := "([CI[BII)I", sig := { parameters := [(.array .char), .int, (.array .byte), .int, .int], returnType := some .int }, accessFlags := 9, code := some k8c3 }
/-- java/lang/StringUTF16 -/
def k8 : Class := { plain "java/lang/StringUTF16" (some 0) with
  accessFlags := 48
  interfaces := #[]
  cf := some (fileOf pool8 12 #[.nestMembers #[627, 629, 369]] #[{ accessFlags := 0, nameIndex := 9, descriptorIndex := 10, attributes := #[] }, { accessFlags := 8, nameIndex := 261, descriptorIndex := 262, attributes := #[] }, { accessFlags := 9, nameIndex := 117, descriptorIndex := 122, attributes := #[] }, { accessFlags := 9, nameIndex := 117, descriptorIndex := 118, attributes := #[] }] 48 6 #[] #[{ accessFlags := 26, nameIndex := 61, descriptorIndex := 62, attributes := #[] }, { accessFlags := 26, nameIndex := 65, descriptorIndex := 62, attributes := #[] }, { accessFlags := 24, nameIndex := 430, descriptorIndex := 62, attributes := #[] }, { accessFlags := 4120, nameIndex := 46, descriptorIndex := 47, attributes := #[] }])
  fields := #[{ name := "HI_BYTE_SHIFT", type := .int, accessFlags := 26, slot := 0, constantValue := 0 }, { name := "LO_BYTE_SHIFT", type := .int, accessFlags := 26, slot := 1, constantValue := 0 }, { name := "MAX_LENGTH", type := .int, accessFlags := 24, slot := 2, constantValue := 0 }, { name := "$assertionsDisabled", type := .boolean, accessFlags := 4120, slot := 3, constantValue := 0 }]
  methods := #[k8m0, k8m1, k8m2, k8m3]
  instanceTypes := #[]
  staticTypes := #[.int, .int, .int, .boolean]
  resolved := Array.replicate 635 none
  statics := none }

def pool9 : Array CpInfo := pool [(2, .class_ 4), (1, u "java/lang/Object"), (0, u "<init>"), (0, u "()V"), (0, .methodref 8 9), (0, .class_ 10), (0, .nameAndType 11 12), (0, u "com/example/udfyld/udfyld/Normaliser"), (0, u "normalise"), (0, u "(Ljava/lang/String;Z)Ljava/lang/String;"), (0, .methodref 14 15), (0, .class_ 16), (0, .nameAndType 17 18), (0, u "java/lang/String"), (0, u "isEmpty"), (0, u "()Z"), (0, .methodref 20 21), (0, .class_ 22), (0, .nameAndType 23 24), (0, u "java/util/Optional"), (0, u "empty"), (0, u "()Ljava/util/Optional;"), (0, .methodref 20 26), (0, .nameAndType 27 28), (0, u "of"), (0, u "(Ljava/lang/Object;)Ljava/util/Optional;"), (3, .class_ 33), (0, u "java/lang/StringBuilder"), (0, .methodref 14 35), (0, .nameAndType 36 37), (0, u "length"), (0, u "()I"), (0, .methodref 39 40), (0, .class_ 41), (0, .nameAndType 42 43), (0, u "java/lang/Math"), (0, u "min"), (0, u "(II)I"), (0, .methodref 32 45), (0, .nameAndType 5 46), (0, u "(I)V"), (0, .methodref 14 48), (0, .nameAndType 49 50), (0, u "charAt"), (0, u "(I)C"), (0, .methodref 32 35), (0, .methodref 32 53), (0, .nameAndType 54 55), (0, u "append"), (0, u "(C)Ljava/lang/StringBuilder;"), (0, .methodref 8 57), (0, .nameAndType 54 58), (0, u "(Ljava/lang/StringBuilder;C)Z"), (0, .methodref 32 60), (0, .nameAndType 61 62), (0, u "toString"), (0, u "()Ljava/lang/String;"), (0, u "MAX_LENGTH"), (0, u "I"), (4, u "query"), (0, u "(Ljava/lang/String;)Ljava/util/Optional;")] 6

def k9m0 : Method := { name := "<init>", desc := "()V", sig := { parameters := [], returnType := none }, accessFlags := 2, code := none }
def k9c1 : Code := { maxStack := 2, maxLocals := 2, code := prog_12_method_2_code, exceptionTable := #[], attributes := #[] }
def k9m1 : Method := { name := "query", desc := "(Ljava/lang/String;)Ljava/util/Optional;", sig := { parameters := [(.object "java/lang/String")], returnType := some (.object "java/util/Optional") }, accessFlags := 9, code := some k9c1 }
def k9c2 : Code := { maxStack := 4, maxLocals := 7, code := prog_12_method_4_code, exceptionTable := #[], attributes := #[] }
def k9m2 : Method := { name := "normalise", desc := "(Ljava/lang/String;Z)Ljava/lang/String;", sig := { parameters := [(.object "java/lang/String"), .boolean], returnType := some (.object "java/lang/String") }, accessFlags := 10, code := some k9c2 }
def k9c3 : Code := { maxStack := 2, maxLocals := 2, code := prog_12_method_5_code, exceptionTable := #[], attributes := #[] }
def k9m3 : Method := { name := "append", desc := "(Ljava/lang/StringBuilder;C)Z", sig := { parameters := [(.object "java/lang/StringBuilder"), .char], returnType := some .boolean }, accessFlags := 10, code := some k9c3 }
/-- com/example/udfyld/udfyld/Normaliser -/
def k9 : Class := { plain "com/example/udfyld/udfyld/Normaliser" (some 0) with
  accessFlags := 49
  interfaces := #[]
  cf := some (fileOf pool9 8 #[] #[{ accessFlags := 2, nameIndex := 5, descriptorIndex := 6, attributes := #[] }, { accessFlags := 9, nameIndex := 69, descriptorIndex := 70, attributes := #[] }, { accessFlags := 10, nameIndex := 11, descriptorIndex := 12, attributes := #[] }, { accessFlags := 10, nameIndex := 54, descriptorIndex := 58, attributes := #[] }] 49 2 #[] #[{ accessFlags := 25, nameIndex := 63, descriptorIndex := 64, attributes := #[] }])
  fields := #[{ name := "MAX_LENGTH", type := .int, accessFlags := 25, slot := 0, constantValue := 0 }]
  methods := #[k9m0, k9m1, k9m2, k9m3]
  instanceTypes := #[]
  staticTypes := #[.int]
  resolved := Array.replicate 77 none
  statics := none }

def pool10 : Array CpInfo := pool [(1, .class_ 2), (0, u "java/lang/Appendable"), (0, .class_ 4), (0, u "java/lang/Object")] 9

/-- java/lang/Appendable -/
def k10 : Class := { plain "java/lang/Appendable" (some 0) with
  accessFlags := 1537
  interfaces := #[]
  cf := some (fileOf pool10 1 #[] #[] 1537 3 #[] #[])
  fields := #[]
  methods := #[]
  instanceTypes := #[]
  staticTypes := #[]
  resolved := Array.replicate 14 none
  statics := none }

def pool11 : Array CpInfo := pool [(1, .class_ 2), (0, u "java/lang/String"), (0, .methodref 4 5), (0, .class_ 6), (0, .nameAndType 7 8), (0, u "java/lang/Object"), (0, u "<init>"), (0, u "()V"), (1, .class_ 12), (1, u "java/lang/AbstractStringBuilder"), (0, u "EMPTYVALUE"), (0, u "[B"), (0, .fieldref 10 16), (0, .nameAndType 17 14), (0, u "value"), (0, .fieldref 1 19), (0, .nameAndType 20 21), (0, u "COMPACT_STRINGS"), (0, u "Z"), (0, .fieldref 10 23), (0, .nameAndType 24 25), (0, u "coder"), (0, u "B"), (8, u "length"), (0, u "()I"), (9, u "append"), (2, .class_ 49), (0, u "java/lang/CharSequence"), (25, u "maybeLatin1"), (3, .fieldref 10 80), (0, .nameAndType 81 82), (0, u "count"), (0, u "I"), (0, .methodref 10 84), (0, .nameAndType 85 86), (0, u "isLatin1"), (0, u "()Z"), (1, .class_ 90), (1, u "java/lang/StringLatin1"), (9, .methodref 10 101), (0, .nameAndType 102 103), (0, u "ensureCapacityInternal"), (0, u "(I)V"), (87, .methodref 88 192), (0, .nameAndType 193 194), (0, u "canEncode"), (0, u "(C)Z"), (97, u "(C)Ljava/lang/AbstractStringBuilder;"), (110, u "()[B"), (40, .class_ 445), (0, u "java/lang/Appendable"), (106, u "getValue")] 56

def k11m0 : Method := { name := "<init>", desc := "()V", sig := { parameters := [], returnType := none }, accessFlags := 0, code := none }
def k11c1 : Code := { maxStack := 2, maxLocals := 2, code := jdk_68_method_2_code, exceptionTable := #[], attributes := #[] }
def k11m1 : Method := { name := "<init>", desc := "(I)V", sig := { parameters := [.int], returnType := none }, accessFlags := 0, code := some k11c1 }
def k11c2 : Code := { maxStack := 1, maxLocals := 1, code := jdk_68_method_6_code, exceptionTable := #[], attributes := #[] }
def k11m2 : Method := { name := "length", desc := "()I", sig := { parameters := [], returnType := some .int }, accessFlags := 1, code := some k11c2 }
def k11c3 : Code := { maxStack := 4, maxLocals := 3, code := jdk_68_method_9_code, exceptionTable := #[], attributes := #[] }
def k11m3 : Method := { name := "ensureCapacityInternal", desc := "(I)V", sig := { parameters := [.int], returnType := none }, accessFlags := 2, code := some k11c3 }
def k11c4 : Code := { maxStack := 5, maxLocals := 2, code := jdk_68_method_31_code, exceptionTable := #[], attributes := #[] }
def k11m4 : Method := { name := "append", desc := "(C)Ljava/lang/AbstractStringBuilder;", sig := { parameters := [.char], returnType := some (.object "java/lang/AbstractStringBuilder") }, accessFlags := 1, code := some k11c4 }
def k11c5 : Code := { maxStack := 1, maxLocals := 1, code := jdk_68_method_64_code, exceptionTable := #[], attributes := #[] }
def k11m5 : Method := { name := "getValue", desc := "()[B", sig := { parameters := [], returnType := some (.array .byte) }, accessFlags := 16, code := some k11c5 }
def k11c6 : Code := { maxStack := 1, maxLocals := 1, code := jdk_68_method_68_code, exceptionTable := #[], attributes := #[] }
def k11m6 : Method := { name := "isLatin1", desc := "()Z", sig := { parameters := [], returnType := some .boolean }, accessFlags := 16, code := some k11c6 }
/-- java/lang/AbstractStringBuilder -/
def k11 : Class := { plain "java/lang/AbstractStringBuilder" (some 0) with
  accessFlags := 1056
  interfaces := #[10, 4]
  cf := some (fileOf pool11 10 #[] #[{ accessFlags := 0, nameIndex := 7, descriptorIndex := 8, attributes := #[] }, { accessFlags := 0, nameIndex := 7, descriptorIndex := 103, attributes := #[] }, { accessFlags := 1, nameIndex := 34, descriptorIndex := 35, attributes := #[] }, { accessFlags := 2, nameIndex := 102, descriptorIndex := 103, attributes := #[] }, { accessFlags := 1, nameIndex := 45, descriptorIndex := 292, attributes := #[] }, { accessFlags := 16, nameIndex := 552, descriptorIndex := 403, attributes := #[] }, { accessFlags := 16, nameIndex := 85, descriptorIndex := 86, attributes := #[] }] 1056 4 #[444, 48] #[{ accessFlags := 0, nameIndex := 17, descriptorIndex := 14, attributes := #[] }, { accessFlags := 0, nameIndex := 24, descriptorIndex := 25, attributes := #[] }, { accessFlags := 0, nameIndex := 75, descriptorIndex := 21, attributes := #[] }, { accessFlags := 0, nameIndex := 81, descriptorIndex := 82, attributes := #[] }, { accessFlags := 26, nameIndex := 13, descriptorIndex := 14, attributes := #[] }])
  fields := #[{ name := "value", type := (.array .byte), accessFlags := 0, slot := 0, constantValue := 0 }, { name := "coder", type := .byte, accessFlags := 0, slot := 1, constantValue := 0 }, { name := "maybeLatin1", type := .boolean, accessFlags := 0, slot := 2, constantValue := 0 }, { name := "count", type := .int, accessFlags := 0, slot := 3, constantValue := 0 }, { name := "EMPTYVALUE", type := (.array .byte), accessFlags := 26, slot := 0, constantValue := 0 }]
  methods := #[k11m0, k11m1, k11m2, k11m3, k11m4, k11m5, k11m6]
  instanceTypes := #[(.array .byte), .byte, .boolean, .int]
  staticTypes := #[(.array .byte)]
  resolved := Array.replicate 609 none
  statics := none }

def pool12 : Array CpInfo := pool [(1, .methodref 2 3), (0, .class_ 4), (0, .nameAndType 5 6), (0, u "java/lang/AbstractStringBuilder"), (0, u "<init>"), (0, u "(I)V"), (11, .class_ 20), (1, u "java/lang/String"), (3, .class_ 26), (1, u "java/lang/StringBuilder"), (0, u "append"), (22, .methodref 2 51), (0, .nameAndType 27 52), (0, u "(C)Ljava/lang/AbstractStringBuilder;"), (84, .methodref 18 138), (0, .nameAndType 5 139), (0, u "(Ljava/lang/StringBuilder;)V"), (5, u "()V"), (10, u "()I"), (129, u "(C)Ljava/lang/StringBuilder;"), (56, .methodref 2 344), (0, .nameAndType 345 156), (0, u "length"), (3, .class_ 350), (0, u "java/lang/Appendable"), (0, .class_ 352), (0, u "java/io/Serializable"), (0, .class_ 354), (0, u "java/lang/Comparable"), (0, .class_ 356), (0, u "java/lang/CharSequence"), (0, u "serialVersionUID"), (0, u "J"), (40, u "toString"), (0, u "()Ljava/lang/String;")] 21

def k12m0 : Method := { name := "<init>", desc := "()V", sig := { parameters := [], returnType := none }, accessFlags := 1, code := none }
def k12c1 : Code := { maxStack := 2, maxLocals := 2, code := jdk_67_method_2_code, exceptionTable := #[], attributes := #[] }
def k12m1 : Method := { name := "<init>", desc := "(I)V", sig := { parameters := [.int], returnType := none }, accessFlags := 1, code := some k12c1 }
def k12c2 : Code := { maxStack := 2, maxLocals := 2, code := jdk_67_method_14_code, exceptionTable := #[], attributes := #[] }
def k12m2 : Method := { name := "append", desc := "(C)Ljava/lang/StringBuilder;", sig := { parameters := [.char], returnType := some (.object "java/lang/StringBuilder") }, accessFlags := 1, code := some k12c2 }
def k12c3 : Code := { maxStack := 3, maxLocals := 1, code := jdk_67_method_42_code, exceptionTable := #[], attributes := #[] }
def k12m3 : Method := { name := "toString", desc := "()Ljava/lang/String;", sig := { parameters := [], returnType := some (.object "java/lang/String") }, accessFlags := 1, code := some k12c3 }
def k12c4 : Code := { maxStack := 1, maxLocals := 1, code := jdk_67_method_93_code, exceptionTable := #[], attributes := #[] }
def k12m4 : Method := { name := "length", desc := "()I", sig := { parameters := [], returnType := some .int }, accessFlags := 4161, code := some k12c4 }
/-- java/lang/StringBuilder -/
def k12 : Class := { plain "java/lang/StringBuilder" (some 11) with
  accessFlags := 49
  interfaces := #[10, 2, 3, 4]
  cf := some (fileOf pool12 24 #[] #[{ accessFlags := 1, nameIndex := 5, descriptorIndex := 145, attributes := #[] }, { accessFlags := 1, nameIndex := 5, descriptorIndex := 6, attributes := #[] }, { accessFlags := 1, nameIndex := 27, descriptorIndex := 286, attributes := #[] }, { accessFlags := 1, nameIndex := 399, descriptorIndex := 400, attributes := #[] }, { accessFlags := 4161, nameIndex := 345, descriptorIndex := 156, attributes := #[] }] 49 2 #[349, 351, 353, 355] #[{ accessFlags := 24, nameIndex := 357, descriptorIndex := 358, attributes := #[] }])
  fields := #[{ name := "serialVersionUID", type := .long, accessFlags := 24, slot := 0, constantValue := 0 }]
  methods := #[k12m0, k12m1, k12m2, k12m3, k12m4]
  instanceTypes := #[(.array .byte), .byte, .boolean, .int]
  staticTypes := #[.long]
  resolved := Array.replicate 422 none
  statics := none }

def pool13 : Array CpInfo := pool [(1, .class_ 2), (0, u "java/lang/Math"), (1, .class_ 6), (1, u "java/lang/Object"), (0, u "<init>"), (0, u "()V"), (89, .class_ 100), (1, u "java/lang/Math$RandomNumberGeneratorHolder"), (71, u "negativeZeroFloatBits"), (0, u "J"), (2, u "negativeZeroDoubleBits"), (24, u "min"), (43, u "$assertionsDisabled"), (0, u "Z"), (88, u "(II)I"), (2, u "twoToTheDoubleScaleDown"), (0, u "D"), (4, u "twoToTheDoubleScaleUp"), (9, u "E"), (3, u "PI"), (2, u "TAU"), (2, u "DEGREES_TO_RADIANS"), (0, u "RADIANS_TO_DEGREES")] 94

def k13m0 : Method := { name := "<init>", desc := "()V", sig := { parameters := [], returnType := none }, accessFlags := 2, code := none }
def k13c1 : Code := { maxStack := 2, maxLocals := 2, code := jdk_29_method_69_code, exceptionTable := #[], attributes := #[] }
def k13m1 : Method := { name := "min", desc := "(II)I", sig := { parameters := [.int, .int], returnType := some .int }, accessFlags := 9, code := some k13c1 }
/-- java/lang/Math -/
def k13 : Class := { plain "java/lang/Math" (some 0) with
  accessFlags := 49
  interfaces := #[]
  cf := some (fileOf pool13 1 #[.nestMembers #[98]] #[{ accessFlags := 2, nameIndex := 7, descriptorIndex := 8, attributes := #[] }, { accessFlags := 9, nameIndex := 201, descriptorIndex := 335, attributes := #[] }] 49 4 #[] #[{ accessFlags := 25, nameIndex := 354, descriptorIndex := 339, attributes := #[] }, { accessFlags := 25, nameIndex := 358, descriptorIndex := 339, attributes := #[] }, { accessFlags := 25, nameIndex := 361, descriptorIndex := 339, attributes := #[] }, { accessFlags := 26, nameIndex := 364, descriptorIndex := 339, attributes := #[] }, { accessFlags := 26, nameIndex := 365, descriptorIndex := 339, attributes := #[] }, { accessFlags := 26, nameIndex := 172, descriptorIndex := 173, attributes := #[] }, { accessFlags := 26, nameIndex := 176, descriptorIndex := 173, attributes := #[] }, { accessFlags := 8, nameIndex := 344, descriptorIndex := 339, attributes := #[] }, { accessFlags := 8, nameIndex := 338, descriptorIndex := 339, attributes := #[] }, { accessFlags := 4120, nameIndex := 245, descriptorIndex := 246, attributes := #[] }])
  fields := #[{ name := "E", type := .double, accessFlags := 25, slot := 0, constantValue := 0 }, { name := "PI", type := .double, accessFlags := 25, slot := 1, constantValue := 0 }, { name := "TAU", type := .double, accessFlags := 25, slot := 2, constantValue := 0 }, { name := "DEGREES_TO_RADIANS", type := .double, accessFlags := 26, slot := 3, constantValue := 0 }, { name := "RADIANS_TO_DEGREES", type := .double, accessFlags := 26, slot := 4, constantValue := 0 }, { name := "negativeZeroFloatBits", type := .long, accessFlags := 26, slot := 5, constantValue := 0 }, { name := "negativeZeroDoubleBits", type := .long, accessFlags := 26, slot := 6, constantValue := 0 }, { name := "twoToTheDoubleScaleUp", type := .double, accessFlags := 8, slot := 7, constantValue := 0 }, { name := "twoToTheDoubleScaleDown", type := .double, accessFlags := 8, slot := 8, constantValue := 0 }, { name := "$assertionsDisabled", type := .boolean, accessFlags := 4120, slot := 9, constantValue := 0 }]
  methods := #[k13m0, k13m1]
  instanceTypes := #[]
  staticTypes := #[.double, .double, .double, .double, .double, .long, .long, .double, .double, .boolean]
  resolved := Array.replicate 460 none
  statics := none }

def pool14 : Array CpInfo := pool [(1, .class_ 2), (0, u "java/lang/String"), (1, .class_ 6), (1, u "java/lang/Object"), (0, u "<init>"), (0, u "()V"), (0, .methodref 1 10), (0, .nameAndType 11 12), (0, u "checkIndex"), (0, u "(II)V"), (1, .class_ 16), (1, u "java/lang/StringLatin1"), (36, u "([BI)C"), (36, u "canEncode"), (14, u "(C)Z"), (15, u "$assertionsDisabled"), (0, u "Z"), (98, .class_ 223), (1, u "java/lang/StringLatin1$LinesSpliterator"), (28, u "charAt"), (137, .class_ 391), (0, u "java/lang/StringLatin1$CharsSpliterator")] 3

def k14m0 : Method := { name := "<init>", desc := "()V", sig := { parameters := [], returnType := none }, accessFlags := 0, code := none }
def k14c1 : Code := { maxStack := 2, maxLocals := 2, code := jdk_43_method_2_code, exceptionTable := #[], attributes := #[] }
def k14m1 : Method := { name := "charAt", desc := "([BI)C", sig := { parameters := [(.array .byte), .int], returnType := some .char }, accessFlags := 9, code := some k14c1 }
def k14c2 : Code := { maxStack := 2, maxLocals := 1, code := jdk_43_method_3_code, exceptionTable := #[], attributes := #[] }
def k14m2 : Method := { name := "canEncode", desc := "(C)Z", sig := { parameters := [.char], returnType := some .boolean }, accessFlags := 9, code := some k14c2 }
/-- java/lang/StringLatin1 -/
def k14 : Class := { plain "java/lang/StringLatin1" (some 0) with
  accessFlags := 48
  interfaces := #[]
  cf := some (fileOf pool14 14 #[.nestMembers #[390, 221]] #[{ accessFlags := 0, nameIndex := 7, descriptorIndex := 8, attributes := #[] }, { accessFlags := 9, nameIndex := 252, descriptorIndex := 53, attributes := #[] }, { accessFlags := 9, nameIndex := 90, descriptorIndex := 105, attributes := #[] }] 48 4 #[] #[{ accessFlags := 4120, nameIndex := 121, descriptorIndex := 122, attributes := #[] }])
  fields := #[{ name := "$assertionsDisabled", type := .boolean, accessFlags := 4120, slot := 0, constantValue := 0 }]
  methods := #[k14m0, k14m1, k14m2]
  instanceTypes := #[]
  staticTypes := #[.boolean]
  resolved := Array.replicate 395 none
  statics := none }

def pool15 : Array CpInfo := pool [(2, .class_ 4), (1, u "java/lang/Object"), (0, u "<init>"), (0, u "()V"), (17, .class_ 26), (1, u "jdk/internal/util/Preconditions"), (6, u "checkIndex"), (21, .class_ 56), (0, u "jdk/internal/util/Preconditions$4"), (57, .class_ 115), (0, u "jdk/internal/util/Preconditions$1"), (7, u "SIOOBE_FORMATTER"), (0, u "Ljava/util/function/BiFunction;"), (0, .class_ 126), (0, u "jdk/internal/util/Preconditions$2"), (3, u "AIOOBE_FORMATTER"), (0, .class_ 132), (0, u "jdk/internal/util/Preconditions$3"), (3, u "IOOBE_FORMATTER"), (41, u "(IILjava/util/function/BiFunction;)I")] 15

def k15m0 : Method := { name := "<init>", desc := "()V", sig := { parameters := [], returnType := none }, accessFlags := 1, code := none }
def k15c1 : Code := { maxStack := 3, maxLocals := 3, code := jdk_41_method_11_code, exceptionTable := #[], attributes := #[] }
def k15m1 : Method := { name := "checkIndex", desc := "(IILjava/util/function/BiFunction;)I", sig := { parameters := [.int, .int, (.object "java/util/function/BiFunction")], returnType := some .int }, accessFlags := 9, code := some k15c1 }
/-- jdk/internal/util/Preconditions -/
def k15 : Class := { plain "jdk/internal/util/Preconditions" (some 0) with
  accessFlags := 33
  interfaces := #[]
  cf := some (fileOf pool15 24 #[.nestMembers #[55, 131, 125, 114]] #[{ accessFlags := 1, nameIndex := 5, descriptorIndex := 6, attributes := #[] }, { accessFlags := 9, nameIndex := 33, descriptorIndex := 178, attributes := #[] }] 33 2 #[] #[{ accessFlags := 25, nameIndex := 123, descriptorIndex := 124, attributes := #[] }, { accessFlags := 25, nameIndex := 130, descriptorIndex := 124, attributes := #[] }, { accessFlags := 25, nameIndex := 136, descriptorIndex := 124, attributes := #[] }])
  fields := #[{ name := "SIOOBE_FORMATTER", type := (.object "java/util/function/BiFunction"), accessFlags := 25, slot := 0, constantValue := 0 }, { name := "AIOOBE_FORMATTER", type := (.object "java/util/function/BiFunction"), accessFlags := 25, slot := 1, constantValue := 0 }, { name := "IOOBE_FORMATTER", type := (.object "java/util/function/BiFunction"), accessFlags := 25, slot := 2, constantValue := 0 }]
  methods := #[k15m0, k15m1]
  instanceTypes := #[]
  staticTypes := #[(.object "java/util/function/BiFunction"), (.object "java/util/function/BiFunction"), (.object "java/util/function/BiFunction")]
  resolved := Array.replicate 194 none
  statics := some 1 }

def pool16 : Array CpInfo := pool [(1, .fieldref 2 3), (0, .class_ 4), (0, .nameAndType 5 6), (0, u "java/util/Optional"), (0, u "EMPTY"), (0, u "Ljava/util/Optional;"), (0, .methodref 8 9), (0, .class_ 10), (0, .nameAndType 11 12), (0, u "java/lang/Object"), (0, u "<init>"), (0, u "()V"), (0, .fieldref 2 14), (0, .nameAndType 15 16), (0, u "value"), (0, u "Ljava/lang/Object;"), (0, .methodref 18 19), (0, .class_ 20), (0, .nameAndType 21 22), (0, u "java/util/Objects"), (0, u "requireNonNull"), (0, u "(Ljava/lang/Object;)Ljava/lang/Object;"), (0, .methodref 2 24), (0, .nameAndType 11 25), (0, u "(Ljava/lang/Object;)V"), (20, u "()Z"), (8, u "empty"), (0, u "()Ljava/util/Optional;"), (8, u "(Ljava/lang/Object;)Ljava/util/Optional;"), (2, u "isPresent"), (4, u "get"), (0, u "()Ljava/lang/Object;"), (7, u "of")] 104

def k16c0 : Code := { maxStack := 1, maxLocals := 1, code := jdk_32_method_1_code, exceptionTable := #[], attributes := #[] }
def k16m0 : Method := { name := "empty", desc := "()Ljava/util/Optional;", sig := { parameters := [], returnType := some (.object "java/util/Optional") }, accessFlags := 9, code := some k16c0 }
def k16c1 : Code := { maxStack := 2, maxLocals := 2, code := jdk_32_method_2_code, exceptionTable := #[], attributes := #[] }
def k16m1 : Method := { name := "<init>", desc := "(Ljava/lang/Object;)V", sig := { parameters := [(.object "java/lang/Object")], returnType := none }, accessFlags := 2, code := some k16c1 }
def k16c2 : Code := { maxStack := 3, maxLocals := 1, code := jdk_32_method_3_code, exceptionTable := #[], attributes := #[] }
def k16m2 : Method := { name := "of", desc := "(Ljava/lang/Object;)Ljava/util/Optional;", sig := { parameters := [(.object "java/lang/Object")], returnType := some (.object "java/util/Optional") }, accessFlags := 9, code := some k16c2 }
def k16c3 : Code := { maxStack := 3, maxLocals := 1, code := jdk_32_method_5_code, exceptionTable := #[], attributes := #[] }
def k16m3 : Method := { name := "get", desc := "()Ljava/lang/Object;", sig := { parameters := [], returnType := some (.object "java/lang/Object") }, accessFlags := 1, code := some k16c3 }
def k16c4 : Code := { maxStack := 1, maxLocals := 1, code := jdk_32_method_6_code, exceptionTable := #[], attributes := #[] }
def k16m4 : Method := { name := "isPresent", desc := "()Z", sig := { parameters := [], returnType := some .boolean }, accessFlags := 1, code := some k16c4 }
/-- java/util/Optional -/
def k16 : Class := { plain "java/util/Optional" (some 0) with
  accessFlags := 49
  interfaces := #[]
  cf := some (fileOf pool16 2 #[] #[{ accessFlags := 9, nameIndex := 55, descriptorIndex := 56, attributes := #[] }, { accessFlags := 2, nameIndex := 11, descriptorIndex := 25, attributes := #[] }, { accessFlags := 9, nameIndex := 82, descriptorIndex := 65, attributes := #[] }, { accessFlags := 1, nameIndex := 73, descriptorIndex := 74, attributes := #[] }, { accessFlags := 1, nameIndex := 68, descriptorIndex := 46, attributes := #[] }] 49 8 #[] #[{ accessFlags := 26, nameIndex := 5, descriptorIndex := 6, attributes := #[] }, { accessFlags := 18, nameIndex := 15, descriptorIndex := 16, attributes := #[] }])
  fields := #[{ name := "EMPTY", type := (.object "java/util/Optional"), accessFlags := 26, slot := 0, constantValue := 0 }, { name := "value", type := (.object "java/lang/Object"), accessFlags := 18, slot := 0, constantValue := 0 }]
  methods := #[k16m0, k16m1, k16m2, k16m3, k16m4]
  instanceTypes := #[(.object "java/lang/Object")]
  staticTypes := #[(.object "java/util/Optional")]
  resolved := Array.replicate 187 none
  statics := some 2 }

def pool17 : Array CpInfo := pool [(2, .class_ 4), (1, u "java/lang/Object"), (0, u "<init>"), (0, u "()V"), (7, .class_ 16), (1, u "java/util/Arrays"), (57, .class_ 76), (1, u "java/util/Arrays$NaturalOrder"), (32, u "()Ljava/lang/Object;"), (3, .class_ 115), (1, u "java/util/Arrays$LegacyMergeSort"), (1, u "Z"), (10, .nameAndType 129 109), (0, u "clone"), (9, u "copyOfRange"), (10, .methodref 151 152), (0, .class_ 153), (0, .nameAndType 154 155), (0, u "java/lang/System"), (0, u "arraycopy"), (0, u "(Ljava/lang/Object;ILjava/lang/Object;II)V"), (148, .methodref 305 306), (0, .class_ 307), (0, .nameAndType 308 309), (0, u "java/lang/Math"), (0, u "min"), (0, u "(II)I"), (0, .methodref 311 128), (0, .class_ 312), (0, u "[B"), (26, .methodref 14 340), (0, .nameAndType 341 342), (0, u "copyOfRangeByte"), (0, u "([BII)[B"), (0, .methodref 14 344), (0, .nameAndType 345 346), (0, u "checkLength"), (0, u "(II)V"), (28, .class_ 376), (0, u "java/util/Arrays$ArrayList"), (68, u "$assertionsDisabled"), (269, u "MIN_ARRAY_SORT_GRAN"), (0, u "I"), (2, u "INSERTIONSORT_THRESHOLD"), (255, .class_ 976), (0, u "java/util/Arrays$ArrayItr")] 52

def k17m0 : Method := { name := "<init>", desc := "()V", sig := { parameters := [], returnType := none }, accessFlags := 2, code := none }
def k17c1 : Code := { maxStack := 4, maxLocals := 2, code := jdk_65_method_131_code, exceptionTable := #[], attributes := #[] }
def k17m1 : Method := { name := "checkLength", desc := "(II)V", sig := { parameters := [.int, .int], returnType := none }, accessFlags := 10, code := some k17c1 }
def k17c2 : Code := { maxStack := 3, maxLocals := 3, code := jdk_65_method_132_code, exceptionTable := #[], attributes := #[] }
def k17m2 : Method := { name := "copyOfRange", desc := "([BII)[B", sig := { parameters := [(.array .byte), .int, .int], returnType := some (.array .byte) }, accessFlags := 9, code := some k17c2 }
def k17c3 : Code := { maxStack := 6, maxLocals := 5, code := jdk_65_method_133_code, exceptionTable := #[], attributes := #[] }
def k17m3 : Method := { name := "copyOfRangeByte", desc := "([BII)[B", sig := { parameters := [(.array .byte), .int, .int], returnType := some (.array .byte) }, accessFlags := 10, code := some k17c3 }
/-- java/util/Arrays -/
def k17 : Class := { plain "java/util/Arrays" (some 0) with
  accessFlags := 49
  interfaces := #[]
  cf := some (fileOf pool17 14 #[.nestMembers #[975, 375, 113, 74]] #[{ accessFlags := 2, nameIndex := 5, descriptorIndex := 6, attributes := #[] }, { accessFlags := 10, nameIndex := 345, descriptorIndex := 346, attributes := #[] }, { accessFlags := 9, nameIndex := 139, descriptorIndex := 342, attributes := #[] }, { accessFlags := 10, nameIndex := 341, descriptorIndex := 342, attributes := #[] }] 49 2 #[] #[{ accessFlags := 26, nameIndex := 715, descriptorIndex := 716, attributes := #[] }, { accessFlags := 26, nameIndex := 719, descriptorIndex := 716, attributes := #[] }, { accessFlags := 4120, nameIndex := 445, descriptorIndex := 117, attributes := #[] }])
  fields := #[{ name := "MIN_ARRAY_SORT_GRAN", type := .int, accessFlags := 26, slot := 0, constantValue := 0 }, { name := "INSERTIONSORT_THRESHOLD", type := .int, accessFlags := 26, slot := 1, constantValue := 0 }, { name := "$assertionsDisabled", type := .boolean, accessFlags := 4120, slot := 2, constantValue := 0 }]
  methods := #[k17m0, k17m1, k17m2, k17m3]
  instanceTypes := #[]
  staticTypes := #[.int, .int, .boolean]
  resolved := Array.replicate 1029 none
  statics := none }

def pool18 : Array CpInfo := pool [(2, .class_ 4), (1, u "java/lang/Object"), (0, u "<init>"), (0, u "()V"), (1, .class_ 10), (1, u "java/lang/System"), (0, u "allowSecurityManager"), (0, u "I"), (16, u "cons"), (0, u "Ljava/io/Console;"), (77, .class_ 110), (1, u "java/lang/System$CallersHolder"), (43, u "initialErrStream"), (0, u "Ljava/io/PrintStream;"), (19, u "security"), (0, u "Ljava/lang/SecurityManager;"), (31, .class_ 209), (0, u "java/lang/System$1"), (7, u "props"), (0, u "Ljava/util/Properties;"), (2, u "lineSeparator"), (0, u "Ljava/lang/String;"), (96, .class_ 321), (1, u "java/lang/System$LoggerFinder"), (5, .class_ 328), (0, u "java/lang/System$Logger"), (67, u "err"), (2, u "out"), (91, u "notSupportedJnuEncoding"), (15, u "in"), (17, u "initialIn"), (0, u "Ljava/io/InputStream;"), (35, u "bootLayer"), (0, u "Ljava/lang/ModuleLayer;"), (99, .class_ 664), (0, u "java/lang/System$2"), (9, u "NEVER"), (2, u "MAYBE"), (49, u "arraycopy"), (0, u "(Ljava/lang/Object;ILjava/lang/Object;II)V"), (72, .class_ 802), (0, u "java/lang/System$Logger$Level")] 31

def k18m0 : Method := { name := "<init>", desc := "()V", sig := { parameters := [], returnType := none }, accessFlags := 2, code := none }
def k18m1 : Method := { name := "arraycopy", desc := "(Ljava/lang/Object;ILjava/lang/Object;II)V", sig := { parameters := [(.object "java/lang/Object"), .int, (.object "java/lang/Object"), .int, .int], returnType := none }, accessFlags := 265, code := none }
/-- java/lang/System -/
def k18 : Class := { plain "java/lang/System" (some 0) with
  accessFlags := 49
  interfaces := #[]
  cf := some (fileOf pool18 8 #[.nestMembers #[319, 327, 801, 108, 663, 208]] #[{ accessFlags := 2, nameIndex := 5, descriptorIndex := 6, attributes := #[] }, { accessFlags := 265, nameIndex := 727, descriptorIndex := 728, attributes := #[] }] 49 2 #[] #[{ accessFlags := 25, nameIndex := 507, descriptorIndex := 526, attributes := #[] }, { accessFlags := 25, nameIndex := 399, descriptorIndex := 155, attributes := #[] }, { accessFlags := 25, nameIndex := 396, descriptorIndex := 155, attributes := #[] }, { accessFlags := 10, nameIndex := 525, descriptorIndex := 526, attributes := #[] }, { accessFlags := 26, nameIndex := 674, descriptorIndex := 12, attributes := #[] }, { accessFlags := 26, nameIndex := 677, descriptorIndex := 12, attributes := #[] }, { accessFlags := 10, nameIndex := 11, descriptorIndex := 12, attributes := #[] }, { accessFlags := 74, nameIndex := 175, descriptorIndex := 176, attributes := #[] }, { accessFlags := 10, nameIndex := 491, descriptorIndex := 222, attributes := #[] }, { accessFlags := 74, nameIndex := 29, descriptorIndex := 30, attributes := #[] }, { accessFlags := 74, nameIndex := 154, descriptorIndex := 155, attributes := #[] }, { accessFlags := 10, nameIndex := 217, descriptorIndex := 218, attributes := #[] }, { accessFlags := 10, nameIndex := 221, descriptorIndex := 222, attributes := #[] }, { accessFlags := 8, nameIndex := 562, descriptorIndex := 563, attributes := #[] }])
  fields := #[{ name := "in", type := (.object "java/io/InputStream"), accessFlags := 25, slot := 0, constantValue := 0 }, { name := "out", type := (.object "java/io/PrintStream"), accessFlags := 25, slot := 1, constantValue := 0 }, { name := "err", type := (.object "java/io/PrintStream"), accessFlags := 25, slot := 2, constantValue := 0 }, { name := "initialIn", type := (.object "java/io/InputStream"), accessFlags := 10, slot := 3, constantValue := 0 }, { name := "NEVER", type := .int, accessFlags := 26, slot := 4, constantValue := 0 }, { name := "MAYBE", type := .int, accessFlags := 26, slot := 5, constantValue := 0 }, { name := "allowSecurityManager", type := .int, accessFlags := 10, slot := 6, constantValue := 0 }, { name := "security", type := (.object "java/lang/SecurityManager"), accessFlags := 74, slot := 7, constantValue := 0 }, { name := "notSupportedJnuEncoding", type := (.object "java/lang/String"), accessFlags := 10, slot := 8, constantValue := 0 }, { name := "cons", type := (.object "java/io/Console"), accessFlags := 74, slot := 9, constantValue := 0 }, { name := "initialErrStream", type := (.object "java/io/PrintStream"), accessFlags := 74, slot := 10, constantValue := 0 }, { name := "props", type := (.object "java/util/Properties"), accessFlags := 10, slot := 11, constantValue := 0 }, { name := "lineSeparator", type := (.object "java/lang/String"), accessFlags := 10, slot := 12, constantValue := 0 }, { name := "bootLayer", type := (.object "java/lang/ModuleLayer"), accessFlags := 8, slot := 13, constantValue := 0 }]
  methods := #[k18m0, k18m1]
  instanceTypes := #[]
  staticTypes := #[(.object "java/io/InputStream"), (.object "java/io/PrintStream"), (.object "java/io/PrintStream"), (.object "java/io/InputStream"), .int, .int, .int, (.object "java/lang/SecurityManager"), (.object "java/lang/String"), (.object "java/io/Console"), (.object "java/io/PrintStream"), (.object "java/util/Properties"), (.object "java/lang/String"), (.object "java/lang/ModuleLayer")]
  resolved := Array.replicate 834 none
  statics := none }

def pool19 : Array CpInfo := pool [(2, .class_ 4), (1, u "java/lang/Object"), (0, u "<init>"), (0, u "()V"), (35, .class_ 44), (1, u "java/util/Objects"), (0, u "requireNonNull"), (0, u "(Ljava/lang/Object;)Ljava/lang/Object;")] 137

def k19m0 : Method := { name := "<init>", desc := "()V", sig := { parameters := [], returnType := none }, accessFlags := 2, code := none }
def k19c1 : Code := { maxStack := 2, maxLocals := 1, code := jdk_31_method_10_code, exceptionTable := #[], attributes := #[] }
def k19m1 : Method := { name := "requireNonNull", desc := "(Ljava/lang/Object;)Ljava/lang/Object;", sig := { parameters := [(.object "java/lang/Object")], returnType := some (.object "java/lang/Object") }, accessFlags := 9, code := some k19c1 }
/-- java/util/Objects -/
def k19 : Class := { plain "java/util/Objects" (some 0) with
  accessFlags := 49
  interfaces := #[]
  cf := some (fileOf pool19 42 #[] #[{ accessFlags := 2, nameIndex := 5, descriptorIndex := 6, attributes := #[] }, { accessFlags := 9, nameIndex := 45, descriptorIndex := 46, attributes := #[] }] 49 2 #[] #[])
  fields := #[]
  methods := #[k19m0, k19m1]
  instanceTypes := #[]
  staticTypes := #[]
  resolved := Array.replicate 184 none
  statics := none }

def pool20 : Array CpInfo := pool [(1, .class_ 2), (0, u "java/lang/Cloneable"), (0, .class_ 4), (0, u "java/lang/Object")] 2

/-- java/lang/Cloneable -/
def k20 : Class := { plain "java/lang/Cloneable" (some 0) with
  accessFlags := 1537
  interfaces := #[]
  cf := some (fileOf pool20 1 #[] #[] 1537 3 #[] #[])
  fields := #[]
  methods := #[]
  instanceTypes := #[]
  staticTypes := #[]
  resolved := Array.replicate 7 none
  statics := none }

def pool21 : Array CpInfo := pool [(9, u "<init>"), (6, .class_ 18), (1, u "java/lang/Object"), (0, u "()V"), (1, .class_ 23), (1, u "jdk/internal/util/ArraysSupport"), (0, u "LOG2_ARRAY_LONG_INDEX_SCALE"), (0, u "I"), (2, u "U"), (0, u "Ljdk/internal/misc/Unsafe;"), (8, u "BIG_ENDIAN"), (0, u "Z"), (8, u "LOG2_BYTE_BIT_SIZE"), (4, u "LOG2_ARRAY_INT_INDEX_SCALE"), (54, u "JLA"), (0, u "Ljdk/internal/access/JavaLangAccess;"), (11, u "LOG2_ARRAY_BOOLEAN_INDEX_SCALE"), (9, u "LOG2_ARRAY_BYTE_INDEX_SCALE"), (5, u "LOG2_ARRAY_CHAR_INDEX_SCALE"), (5, u "LOG2_ARRAY_SHORT_INDEX_SCALE"), (18, u "LOG2_ARRAY_FLOAT_INDEX_SCALE"), (24, u "LOG2_ARRAY_DOUBLE_INDEX_SCALE"), (89, u "T_BOOLEAN"), (2, u "T_CHAR"), (1, u "T_FLOAT"), (1, u "T_DOUBLE"), (1, u "T_BYTE"), (1, u "T_SHORT"), (1, u "T_INT"), (1, u "T_LONG"), (1, u "SOFT_MAX_ARRAY_LENGTH")] 83

def k21m0 : Method := { name := "<init>", desc := "()V", sig := { parameters := [], returnType := none }, accessFlags := 2, code := none }
/-- jdk/internal/util/ArraysSupport -/
def k21 : Class := { plain "jdk/internal/util/ArraysSupport" (some 0) with
  accessFlags := 33
  interfaces := #[]
  cf := some (fileOf pool21 21 #[] #[{ accessFlags := 2, nameIndex := 9, descriptorIndex := 19, attributes := #[] }] 33 16 #[] #[{ accessFlags := 24, nameIndex := 28, descriptorIndex := 29, attributes := #[] }, { accessFlags := 26, nameIndex := 38, descriptorIndex := 39, attributes := #[] }, { accessFlags := 25, nameIndex := 121, descriptorIndex := 25, attributes := #[] }, { accessFlags := 25, nameIndex := 131, descriptorIndex := 25, attributes := #[] }, { accessFlags := 25, nameIndex := 137, descriptorIndex := 25, attributes := #[] }, { accessFlags := 25, nameIndex := 143, descriptorIndex := 25, attributes := #[] }, { accessFlags := 25, nameIndex := 53, descriptorIndex := 25, attributes := #[] }, { accessFlags := 25, nameIndex := 24, descriptorIndex := 25, attributes := #[] }, { accessFlags := 25, nameIndex := 162, descriptorIndex := 25, attributes := #[] }, { accessFlags := 25, nameIndex := 187, descriptorIndex := 25, attributes := #[] }, { accessFlags := 26, nameIndex := 48, descriptorIndex := 25, attributes := #[] }, { accessFlags := 25, nameIndex := 277, descriptorIndex := 25, attributes := #[] }, { accessFlags := 25, nameIndex := 280, descriptorIndex := 25, attributes := #[] }, { accessFlags := 25, nameIndex := 282, descriptorIndex := 25, attributes := #[] }, { accessFlags := 25, nameIndex := 284, descriptorIndex := 25, attributes := #[] }, { accessFlags := 25, nameIndex := 286, descriptorIndex := 25, attributes := #[] }, { accessFlags := 25, nameIndex := 288, descriptorIndex := 25, attributes := #[] }, { accessFlags := 25, nameIndex := 290, descriptorIndex := 25, attributes := #[] }, { accessFlags := 25, nameIndex := 292, descriptorIndex := 25, attributes := #[] }, { accessFlags := 26, nameIndex := 108, descriptorIndex := 109, attributes := #[] }, { accessFlags := 25, nameIndex := 294, descriptorIndex := 25, attributes := #[] }])
  fields := #[{ name := "U", type := (.object "jdk/internal/misc/Unsafe"), accessFlags := 24, slot := 0, constantValue := 0 }, { name := "BIG_ENDIAN", type := .boolean, accessFlags := 26, slot := 1, constantValue := 0 }, { name := "LOG2_ARRAY_BOOLEAN_INDEX_SCALE", type := .int, accessFlags := 25, slot := 2, constantValue := 0 }, { name := "LOG2_ARRAY_BYTE_INDEX_SCALE", type := .int, accessFlags := 25, slot := 3, constantValue := 0 }, { name := "LOG2_ARRAY_CHAR_INDEX_SCALE", type := .int, accessFlags := 25, slot := 4, constantValue := 0 }, { name := "LOG2_ARRAY_SHORT_INDEX_SCALE", type := .int, accessFlags := 25, slot := 5, constantValue := 0 }, { name := "LOG2_ARRAY_INT_INDEX_SCALE", type := .int, accessFlags := 25, slot := 6, constantValue := 0 }, { name := "LOG2_ARRAY_LONG_INDEX_SCALE", type := .int, accessFlags := 25, slot := 7, constantValue := 0 }, { name := "LOG2_ARRAY_FLOAT_INDEX_SCALE", type := .int, accessFlags := 25, slot := 8, constantValue := 0 }, { name := "LOG2_ARRAY_DOUBLE_INDEX_SCALE", type := .int, accessFlags := 25, slot := 9, constantValue := 0 }, { name := "LOG2_BYTE_BIT_SIZE", type := .int, accessFlags := 26, slot := 10, constantValue := 0 }, { name := "T_BOOLEAN", type := .int, accessFlags := 25, slot := 11, constantValue := 0 }, { name := "T_CHAR", type := .int, accessFlags := 25, slot := 12, constantValue := 0 }, { name := "T_FLOAT", type := .int, accessFlags := 25, slot := 13, constantValue := 0 }, { name := "T_DOUBLE", type := .int, accessFlags := 25, slot := 14, constantValue := 0 }, { name := "T_BYTE", type := .int, accessFlags := 25, slot := 15, constantValue := 0 }, { name := "T_SHORT", type := .int, accessFlags := 25, slot := 16, constantValue := 0 }, { name := "T_INT", type := .int, accessFlags := 25, slot := 17, constantValue := 0 }, { name := "T_LONG", type := .int, accessFlags := 25, slot := 18, constantValue := 0 }, { name := "JLA", type := (.object "jdk/internal/access/JavaLangAccess"), accessFlags := 26, slot := 19, constantValue := 0 }, { name := "SOFT_MAX_ARRAY_LENGTH", type := .int, accessFlags := 25, slot := 20, constantValue := 0 }]
  methods := #[k21m0]
  instanceTypes := #[]
  staticTypes := #[(.object "jdk/internal/misc/Unsafe"), .boolean, .int, .int, .int, .int, .int, .int, .int, .int, .int, .int, .int, .int, .int, .int, .int, .int, .int, (.object "jdk/internal/access/JavaLangAccess"), .int]
  resolved := Array.replicate 378 none
  statics := none }

/-- the primitive byte -/
def k22 : Class := { plain "byte" none with kind := .primitive 'B', accessFlags := 0x411 }
/-- [B -/
def k23 : Class := { plain "[B" (some 0) with kind := .array 22 .byte, interfaces := #[20, 2], accessFlags := 1041 }

/-- the primitive char -/
def k24 : Class := { plain "char" none with kind := .primitive 'C', accessFlags := 0x411 }
/-- [C -/
def k25 : Class := { plain "[C" (some 0) with kind := .array 24 .char, interfaces := #[20, 2], accessFlags := 1041 }

/-- the primitive int -/
def k26 : Class := { plain "int" none with kind := .primitive 'I', accessFlags := 0x411 }
/-- [I -/
def k27 : Class := { plain "[I" (some 0) with kind := .array 26 .int, interfaces := #[20, 2], accessFlags := 1041 }

def heap : Heap := #[{ cls := 7, slots := #[.long 0, .int 1, .null, .int 0, .null, .int 0, .int 0], vm := .statics 7 },
  { cls := 15, slots := #[.null, .null, .null], vm := .statics 15 },
  { cls := 16, slots := #[.ref 3], vm := .statics 16 },
  { cls := 16, slots := #[.null], vm := .none }]
def classes : Array Class := #[k0, k1, k2, k3, k4, k5, k6, k7, k8, k9, k10, k11, k12, k13, k14, k15, k16, k17, k18, k19, k20, k21, k22, k23, k24, k25, k26, k27]
def interned : List (Array UInt16 × Addr) := []
def slotsUsed : Nat := 12
def theMethod : MethodId := ⟨1, 5⟩
def args0 : Array Value := #[.int 5, .int 5, .int 5]
def aboutOver (below : List Frame) : State where
  vm := { classes := classes, interned := interned.toArray }
  heap := heap
  slotsUsed := slotsUsed
  threads := #[{ frames := .invoking theMethod args0 :: below }]
def below0 : List Frame := [.native { method := ⟨0, 0⟩, args := #[] }]
def about1 : State := aboutOver below0
def p0 : Program := .bare "" "" ""
def e0 : Env := launch0.env 0 0 0
theorem w_frames : about1.frames = Frame.invoking theMethod args0 :: below0 := rfl
set_option maxRecDepth 65536 in
theorem w_args : argsFit about1.vm theMethod args0 = true := by decide +kernel
set_option maxRecDepth 65536 in
theorem w_heap : heapFits about1 = true := by decide +kernel
set_option maxRecDepth 65536 in
theorem w_runnable : about1.curStatus? = some .runnable := by decide +kernel
set_option maxRecDepth 65536 in
theorem w_alone : about1.alone = true := by decide +kernel
set_option maxRecDepth 65536 in
theorem w_named : about1.methodNamed? x = some theMethod := by decide +kernel
set_option maxRecDepth 65536 in
theorem w_hears : about1.hears theMethod below0 = true := by decide +kernel
set_option maxRecDepth 65536 in
theorem w_ripe : about1.ripe theMethod args0 below0 = true := by decide +kernel
theorem w_running : about1.status = .running := rfl
set_option maxRecDepth 65536 in
theorem w_room : about1.hasRoom e0.platform room_1 = true :=
  launch0.hasRoom_least _ room_1 (by decide +kernel) (by decide +kernel) (by decide +kernel) (by decide +kernel) (by decide +kernel) (by decide +kernel)
theorem allAtoms_all (ts : List Jvm.Cond) (a : Array Jvm.Value) (st : Jvm.State) : (allAtoms ts).before a st = ts.all (fun c => c.before a st) := by
  induction ts with
  | nil => rfl
  | cons c t ih =>
    show (Jvm.Cond.and c (allAtoms t)).before a st = _
    rw [Jvm.Cond.before_and, ih, List.all_cons]
def words1 : List Jvm.Cond := Jvm.Cond.code x code maxLocals ret :: tables_1
/-- a 'code' word, met by the world's own term for the bytes: nothing is compared byte by byte -/
theorem code_word {y : MethodName} {bytes : ByteArray} {mx : Nat} {rt : Option FieldType} {a : Array Value} {s : State} {m : MethodId} {meth : Method} {c : Code} (h1 : s.methodNamed? y = some m) (h2 : s.vm.method? m = some meth) (h3 : meth.code = some c) (h4 : c.code = bytes)
    (h5 : (c.maxLocals == mx && c.exceptionTable.isEmpty && decide (c.maxStack ≤ mostOperands) && decide (meth.sig.returnType = rt) && !meth.locks && decide (parseMethodDescriptor y.desc = some meth.sig)) = true) : (Jvm.Cond.code y bytes mx rt).before a s = true := by
  simp only [Bool.and_eq_true, beq_iff_eq, Bool.not_eq_true', decide_eq_true_eq] at h5
  obtain ⟨⟨⟨⟨⟨g1, g2⟩, g3⟩, g4⟩, g5⟩, g6⟩ := h5
  simp [Cond.before, Cond.holds, Cond.value, h1, h2, h3, h4, g1, g2, g3, g4, g5, g6]
def isCode : Jvm.Cond → Bool
  | .code _ _ _ _ => true
  | _ => false
theorem all_split {L : List Jvm.Cond} {P : Jvm.Cond → Bool} (h1 : L.all (fun c => isCode c || P c) = true) (h2 : ∀ c ∈ L.filter isCode, P c = true) : L.all P = true := by
  refine List.all_eq_true.mpr fun c hc => ?_
  have h := List.all_eq_true.mp h1 c hc
  rcases Bool.eq_false_or_eq_true (isCode c) with hi | hi
  · exact h2 c (List.mem_filter.mpr ⟨hc, hi⟩)
  · simpa [hi] using h
set_option maxRecDepth 65536 in
theorem w_c0 : (Jvm.Cond.code x code maxLocals ret).before args0 about1 = true := code_word (m := ⟨1, 5⟩) (meth := k1m5) (c := k1c5) (by decide +kernel) rfl rfl rfl (by decide +kernel)
set_option maxRecDepth 65536 in
theorem w_c1 : (Jvm.Cond.code ({ cls := "com/example/udfyld/udfyld/NormaliserQueryPinLaw", name := "draw", desc := "(I)C" } : Jvm.MethodName) method_2_code (3 : Nat) (Option.some Jvm.ClassFile.FieldType.char)).before args0 about1 = true := code_word (m := ⟨1, 1⟩) (meth := k1m1) (c := k1c1) (by decide +kernel) rfl rfl rfl (by decide +kernel)
set_option maxRecDepth 65536 in
theorem w_c2 : (Jvm.Cond.code ({ cls := "java/lang/String", name := "<init>", desc := "([C)V" } : Jvm.MethodName) jdk_42_method_3_code (2 : Nat) (Option.none : Option Jvm.ClassFile.FieldType)).before args0 about1 = true := code_word (m := ⟨7, 1⟩) (meth := k7m1) (c := k7c1) (by decide +kernel) rfl rfl rfl (by decide +kernel)
set_option maxRecDepth 65536 in
theorem w_c3 : (Jvm.Cond.code ({ cls := "java/lang/String", name := "<init>", desc := "([CIILjava/lang/Void;)V" } : Jvm.MethodName) jdk_42_method_149_code (6 : Nat) (Option.none : Option Jvm.ClassFile.FieldType)).before args0 about1 = true := code_word (m := ⟨7, 6⟩) (meth := k7m6) (c := k7c6) (by decide +kernel) rfl rfl rfl (by decide +kernel)
set_option maxRecDepth 65536 in
theorem w_c4 : (Jvm.Cond.code ({ cls := "java/lang/Object", name := "<init>", desc := "()V" } : Jvm.MethodName) object_method_1_code (1 : Nat) (Option.none : Option Jvm.ClassFile.FieldType)).before args0 about1 = true := code_word (m := ⟨0, 0⟩) (meth := k0m0) (c := k0c0) (by decide +kernel) rfl rfl rfl (by decide +kernel)
set_option maxRecDepth 65536 in
theorem w_c5 : (Jvm.Cond.code ({ cls := "java/lang/StringUTF16", name := "compress", desc := "([CII)[B" } : Jvm.MethodName) jdk_52_method_16_code (6 : Nat) (Option.some (Jvm.ClassFile.FieldType.array Jvm.ClassFile.FieldType.byte))).before args0 about1 = true := code_word (m := ⟨8, 2⟩) (meth := k8m2) (c := k8c2) (by decide +kernel) rfl rfl rfl (by decide +kernel)
set_option maxRecDepth 65536 in
theorem w_c6 : (Jvm.Cond.code ({ cls := "java/lang/StringUTF16", name := "compress", desc := "([CI[BII)I" } : Jvm.MethodName) jdk_52_method_21_code (7 : Nat) (Option.some Jvm.ClassFile.FieldType.int)).before args0 about1 = true := code_word (m := ⟨8, 3⟩) (meth := k8m3) (c := k8c3) (by decide +kernel) rfl rfl rfl (by decide +kernel)
set_option maxRecDepth 65536 in
theorem w_c7 : (Jvm.Cond.code ({ cls := "java/lang/StringUTF16", name := "coderFromArrayLen", desc := "([BI)B" } : Jvm.MethodName) jdk_52_method_15_code (2 : Nat) (Option.some Jvm.ClassFile.FieldType.byte)).before args0 about1 = true := code_word (m := ⟨8, 1⟩) (meth := k8m1) (c := k8c1) (by decide +kernel) rfl rfl rfl (by decide +kernel)
set_option maxRecDepth 65536 in
theorem w_c8 : (Jvm.Cond.code ({ cls := "com/example/udfyld/udfyld/NormaliserQueryPinLaw", name := "step", desc := "([C[ICI)V" } : Jvm.MethodName) method_4_code (4 : Nat) (Option.none : Option Jvm.ClassFile.FieldType)).before args0 about1 = true := code_word (m := ⟨1, 3⟩) (meth := k1m3) (c := k1c3) (by decide +kernel) rfl rfl rfl (by decide +kernel)
set_option maxRecDepth 65536 in
theorem w_c9 : (Jvm.Cond.code ({ cls := "com/example/udfyld/udfyld/NormaliserQueryPinLaw", name := "isLetter", desc := "(C)Z" } : Jvm.MethodName) method_3_code (2 : Nat) (Option.some Jvm.ClassFile.FieldType.boolean)).before args0 about1 = true := code_word (m := ⟨1, 2⟩) (meth := k1m2) (c := k1c2) (by decide +kernel) rfl rfl rfl (by decide +kernel)
set_option maxRecDepth 65536 in
theorem w_c10 : (Jvm.Cond.code ({ cls := "com/example/udfyld/udfyld/Normaliser", name := "query", desc := "(Ljava/lang/String;)Ljava/util/Optional;" } : Jvm.MethodName) prog_12_method_2_code (2 : Nat) (Option.some (Jvm.ClassFile.FieldType.object "java/util/Optional"))).before args0 about1 = true := code_word (m := ⟨9, 1⟩) (meth := k9m1) (c := k9c1) (by decide +kernel) rfl rfl rfl (by decide +kernel)
set_option maxRecDepth 65536 in
theorem w_c11 : (Jvm.Cond.code ({ cls := "com/example/udfyld/udfyld/Normaliser", name := "normalise", desc := "(Ljava/lang/String;Z)Ljava/lang/String;" } : Jvm.MethodName) prog_12_method_4_code (7 : Nat) (Option.some (Jvm.ClassFile.FieldType.object "java/lang/String"))).before args0 about1 = true := code_word (m := ⟨9, 2⟩) (meth := k9m2) (c := k9c2) (by decide +kernel) rfl rfl rfl (by decide +kernel)
set_option maxRecDepth 65536 in
theorem w_c12 : (Jvm.Cond.code ({ cls := "java/lang/String", name := "length", desc := "()I" } : Jvm.MethodName) jdk_42_method_54_code (1 : Nat) (Option.some Jvm.ClassFile.FieldType.int)).before args0 about1 = true := code_word (m := ⟨7, 3⟩) (meth := k7m3) (c := k7c3) (by decide +kernel) rfl rfl rfl (by decide +kernel)
set_option maxRecDepth 65536 in
theorem w_c13 : (Jvm.Cond.code ({ cls := "java/lang/String", name := "coder", desc := "()B" } : Jvm.MethodName) jdk_42_method_152_code (1 : Nat) (Option.some Jvm.ClassFile.FieldType.byte)).before args0 about1 = true := code_word (m := ⟨7, 8⟩) (meth := k7m8) (c := k7c8) (by decide +kernel) rfl rfl rfl (by decide +kernel)
set_option maxRecDepth 65536 in
theorem w_c14 : (Jvm.Cond.code ({ cls := "java/lang/Math", name := "min", desc := "(II)I" } : Jvm.MethodName) jdk_29_method_69_code (2 : Nat) (Option.some Jvm.ClassFile.FieldType.int)).before args0 about1 = true := code_word (m := ⟨13, 1⟩) (meth := k13m1) (c := k13c1) (by decide +kernel) rfl rfl rfl (by decide +kernel)
set_option maxRecDepth 65536 in
theorem w_c15 : (Jvm.Cond.code ({ cls := "java/lang/StringBuilder", name := "<init>", desc := "(I)V" } : Jvm.MethodName) jdk_67_method_2_code (2 : Nat) (Option.none : Option Jvm.ClassFile.FieldType)).before args0 about1 = true := code_word (m := ⟨12, 1⟩) (meth := k12m1) (c := k12c1) (by decide +kernel) rfl rfl rfl (by decide +kernel)
set_option maxRecDepth 65536 in
theorem w_c16 : (Jvm.Cond.code ({ cls := "java/lang/AbstractStringBuilder", name := "<init>", desc := "(I)V" } : Jvm.MethodName) jdk_68_method_2_code (2 : Nat) (Option.none : Option Jvm.ClassFile.FieldType)).before args0 about1 = true := code_word (m := ⟨11, 1⟩) (meth := k11m1) (c := k11c1) (by decide +kernel) rfl rfl rfl (by decide +kernel)
set_option maxRecDepth 65536 in
theorem w_c17 : (Jvm.Cond.code ({ cls := "java/lang/String", name := "charAt", desc := "(I)C" } : Jvm.MethodName) jdk_42_method_56_code (2 : Nat) (Option.some Jvm.ClassFile.FieldType.char)).before args0 about1 = true := code_word (m := ⟨7, 5⟩) (meth := k7m5) (c := k7c5) (by decide +kernel) rfl rfl rfl (by decide +kernel)
set_option maxRecDepth 65536 in
theorem w_c18 : (Jvm.Cond.code ({ cls := "java/lang/String", name := "isLatin1", desc := "()Z" } : Jvm.MethodName) jdk_42_method_154_code (1 : Nat) (Option.some Jvm.ClassFile.FieldType.boolean)).before args0 about1 = true := code_word (m := ⟨7, 9⟩) (meth := k7m9) (c := k7c9) (by decide +kernel) rfl rfl rfl (by decide +kernel)
set_option maxRecDepth 65536 in
theorem w_c19 : (Jvm.Cond.code ({ cls := "java/lang/StringLatin1", name := "charAt", desc := "([BI)C" } : Jvm.MethodName) jdk_43_method_2_code (2 : Nat) (Option.some Jvm.ClassFile.FieldType.char)).before args0 about1 = true := code_word (m := ⟨14, 1⟩) (meth := k14m1) (c := k14c1) (by decide +kernel) rfl rfl rfl (by decide +kernel)
set_option maxRecDepth 65536 in
theorem w_c20 : (Jvm.Cond.code ({ cls := "java/lang/String", name := "checkIndex", desc := "(II)V" } : Jvm.MethodName) jdk_42_method_155_code (2 : Nat) (Option.none : Option Jvm.ClassFile.FieldType)).before args0 about1 = true := code_word (m := ⟨7, 10⟩) (meth := k7m10) (c := k7c10) (by decide +kernel) rfl rfl rfl (by decide +kernel)
set_option maxRecDepth 65536 in
theorem w_c21 : (Jvm.Cond.code ({ cls := "jdk/internal/util/Preconditions", name := "checkIndex", desc := "(IILjava/util/function/BiFunction;)I" } : Jvm.MethodName) jdk_41_method_11_code (3 : Nat) (Option.some Jvm.ClassFile.FieldType.int)).before args0 about1 = true := code_word (m := ⟨15, 1⟩) (meth := k15m1) (c := k15c1) (by decide +kernel) rfl rfl rfl (by decide +kernel)
set_option maxRecDepth 65536 in
theorem w_c22 : (Jvm.Cond.code ({ cls := "java/lang/StringBuilder", name := "length", desc := "()I" } : Jvm.MethodName) jdk_67_method_93_code (1 : Nat) (Option.some Jvm.ClassFile.FieldType.int)).before args0 about1 = true := code_word (m := ⟨12, 4⟩) (meth := k12m4) (c := k12c4) (by decide +kernel) rfl rfl rfl (by decide +kernel)
set_option maxRecDepth 65536 in
theorem w_c23 : (Jvm.Cond.code ({ cls := "java/lang/AbstractStringBuilder", name := "length", desc := "()I" } : Jvm.MethodName) jdk_68_method_6_code (1 : Nat) (Option.some Jvm.ClassFile.FieldType.int)).before args0 about1 = true := code_word (m := ⟨11, 2⟩) (meth := k11m2) (c := k11c2) (by decide +kernel) rfl rfl rfl (by decide +kernel)
set_option maxRecDepth 65536 in
theorem w_c24 : (Jvm.Cond.code ({ cls := "java/util/Optional", name := "empty", desc := "()Ljava/util/Optional;" } : Jvm.MethodName) jdk_32_method_1_code (1 : Nat) (Option.some (Jvm.ClassFile.FieldType.object "java/util/Optional"))).before args0 about1 = true := code_word (m := ⟨16, 0⟩) (meth := k16m0) (c := k16c0) (by decide +kernel) rfl rfl rfl (by decide +kernel)
set_option maxRecDepth 65536 in
theorem w_c25 : (Jvm.Cond.code ({ cls := "java/util/Optional", name := "isPresent", desc := "()Z" } : Jvm.MethodName) jdk_32_method_6_code (1 : Nat) (Option.some Jvm.ClassFile.FieldType.boolean)).before args0 about1 = true := code_word (m := ⟨16, 4⟩) (meth := k16m4) (c := k16c4) (by decide +kernel) rfl rfl rfl (by decide +kernel)
set_option maxRecDepth 65536 in
theorem w_c26 : (Jvm.Cond.code ({ cls := "com/example/udfyld/udfyld/Normaliser", name := "append", desc := "(Ljava/lang/StringBuilder;C)Z" } : Jvm.MethodName) prog_12_method_5_code (2 : Nat) (Option.some Jvm.ClassFile.FieldType.boolean)).before args0 about1 = true := code_word (m := ⟨9, 3⟩) (meth := k9m3) (c := k9c3) (by decide +kernel) rfl rfl rfl (by decide +kernel)
set_option maxRecDepth 65536 in
theorem w_c27 : (Jvm.Cond.code ({ cls := "java/lang/StringBuilder", name := "append", desc := "(C)Ljava/lang/StringBuilder;" } : Jvm.MethodName) jdk_67_method_14_code (2 : Nat) (Option.some (Jvm.ClassFile.FieldType.object "java/lang/StringBuilder"))).before args0 about1 = true := code_word (m := ⟨12, 2⟩) (meth := k12m2) (c := k12c2) (by decide +kernel) rfl rfl rfl (by decide +kernel)
set_option maxRecDepth 65536 in
theorem w_c28 : (Jvm.Cond.code ({ cls := "java/lang/AbstractStringBuilder", name := "append", desc := "(C)Ljava/lang/AbstractStringBuilder;" } : Jvm.MethodName) jdk_68_method_31_code (2 : Nat) (Option.some (Jvm.ClassFile.FieldType.object "java/lang/AbstractStringBuilder"))).before args0 about1 = true := code_word (m := ⟨11, 4⟩) (meth := k11m4) (c := k11c4) (by decide +kernel) rfl rfl rfl (by decide +kernel)
set_option maxRecDepth 65536 in
theorem w_c29 : (Jvm.Cond.code ({ cls := "java/lang/AbstractStringBuilder", name := "ensureCapacityInternal", desc := "(I)V" } : Jvm.MethodName) jdk_68_method_9_code (3 : Nat) (Option.none : Option Jvm.ClassFile.FieldType)).before args0 about1 = true := code_word (m := ⟨11, 3⟩) (meth := k11m3) (c := k11c3) (by decide +kernel) rfl rfl rfl (by decide +kernel)
set_option maxRecDepth 65536 in
theorem w_c30 : (Jvm.Cond.code ({ cls := "java/lang/AbstractStringBuilder", name := "isLatin1", desc := "()Z" } : Jvm.MethodName) jdk_68_method_68_code (1 : Nat) (Option.some Jvm.ClassFile.FieldType.boolean)).before args0 about1 = true := code_word (m := ⟨11, 6⟩) (meth := k11m6) (c := k11c6) (by decide +kernel) rfl rfl rfl (by decide +kernel)
set_option maxRecDepth 65536 in
theorem w_c31 : (Jvm.Cond.code ({ cls := "java/lang/StringLatin1", name := "canEncode", desc := "(C)Z" } : Jvm.MethodName) jdk_43_method_3_code (1 : Nat) (Option.some Jvm.ClassFile.FieldType.boolean)).before args0 about1 = true := code_word (m := ⟨14, 2⟩) (meth := k14m2) (c := k14c2) (by decide +kernel) rfl rfl rfl (by decide +kernel)
set_option maxRecDepth 65536 in
theorem w_c32 : (Jvm.Cond.code ({ cls := "java/lang/StringBuilder", name := "toString", desc := "()Ljava/lang/String;" } : Jvm.MethodName) jdk_67_method_42_code (1 : Nat) (Option.some (Jvm.ClassFile.FieldType.object "java/lang/String"))).before args0 about1 = true := code_word (m := ⟨12, 3⟩) (meth := k12m3) (c := k12c3) (by decide +kernel) rfl rfl rfl (by decide +kernel)
set_option maxRecDepth 65536 in
theorem w_c33 : (Jvm.Cond.code ({ cls := "java/lang/String", name := "<init>", desc := "(Ljava/lang/StringBuilder;)V" } : Jvm.MethodName) jdk_42_method_53_code (2 : Nat) (Option.none : Option Jvm.ClassFile.FieldType)).before args0 about1 = true := code_word (m := ⟨7, 2⟩) (meth := k7m2) (c := k7c2) (by decide +kernel) rfl rfl rfl (by decide +kernel)
set_option maxRecDepth 65536 in
theorem w_c34 : (Jvm.Cond.code ({ cls := "java/lang/String", name := "<init>", desc := "(Ljava/lang/AbstractStringBuilder;Ljava/lang/Void;)V" } : Jvm.MethodName) jdk_42_method_150_code (5 : Nat) (Option.none : Option Jvm.ClassFile.FieldType)).before args0 about1 = true := code_word (m := ⟨7, 7⟩) (meth := k7m7) (c := k7c7) (by decide +kernel) rfl rfl rfl (by decide +kernel)
set_option maxRecDepth 65536 in
theorem w_c35 : (Jvm.Cond.code ({ cls := "java/lang/AbstractStringBuilder", name := "getValue", desc := "()[B" } : Jvm.MethodName) jdk_68_method_64_code (1 : Nat) (Option.some (Jvm.ClassFile.FieldType.array Jvm.ClassFile.FieldType.byte))).before args0 about1 = true := code_word (m := ⟨11, 5⟩) (meth := k11m5) (c := k11c5) (by decide +kernel) rfl rfl rfl (by decide +kernel)
set_option maxRecDepth 65536 in
theorem w_c36 : (Jvm.Cond.code ({ cls := "java/util/Arrays", name := "copyOfRange", desc := "([BII)[B" } : Jvm.MethodName) jdk_65_method_132_code (3 : Nat) (Option.some (Jvm.ClassFile.FieldType.array Jvm.ClassFile.FieldType.byte))).before args0 about1 = true := code_word (m := ⟨17, 2⟩) (meth := k17m2) (c := k17c2) (by decide +kernel) rfl rfl rfl (by decide +kernel)
set_option maxRecDepth 65536 in
theorem w_c37 : (Jvm.Cond.code ({ cls := "java/util/Arrays", name := "copyOfRangeByte", desc := "([BII)[B" } : Jvm.MethodName) jdk_65_method_133_code (5 : Nat) (Option.some (Jvm.ClassFile.FieldType.array Jvm.ClassFile.FieldType.byte))).before args0 about1 = true := code_word (m := ⟨17, 3⟩) (meth := k17m3) (c := k17c3) (by decide +kernel) rfl rfl rfl (by decide +kernel)
set_option maxRecDepth 65536 in
theorem w_c38 : (Jvm.Cond.code ({ cls := "java/util/Arrays", name := "checkLength", desc := "(II)V" } : Jvm.MethodName) jdk_65_method_131_code (2 : Nat) (Option.none : Option Jvm.ClassFile.FieldType)).before args0 about1 = true := code_word (m := ⟨17, 1⟩) (meth := k17m1) (c := k17c1) (by decide +kernel) rfl rfl rfl (by decide +kernel)
set_option maxRecDepth 65536 in
theorem w_c39 : (Jvm.Cond.code ({ cls := "java/lang/String", name := "isEmpty", desc := "()Z" } : Jvm.MethodName) jdk_42_method_55_code (1 : Nat) (Option.some Jvm.ClassFile.FieldType.boolean)).before args0 about1 = true := code_word (m := ⟨7, 4⟩) (meth := k7m4) (c := k7c4) (by decide +kernel) rfl rfl rfl (by decide +kernel)
set_option maxRecDepth 65536 in
theorem w_c40 : (Jvm.Cond.code ({ cls := "java/util/Optional", name := "of", desc := "(Ljava/lang/Object;)Ljava/util/Optional;" } : Jvm.MethodName) jdk_32_method_3_code (1 : Nat) (Option.some (Jvm.ClassFile.FieldType.object "java/util/Optional"))).before args0 about1 = true := code_word (m := ⟨16, 2⟩) (meth := k16m2) (c := k16c2) (by decide +kernel) rfl rfl rfl (by decide +kernel)
set_option maxRecDepth 65536 in
theorem w_c41 : (Jvm.Cond.code ({ cls := "java/util/Objects", name := "requireNonNull", desc := "(Ljava/lang/Object;)Ljava/lang/Object;" } : Jvm.MethodName) jdk_31_method_10_code (1 : Nat) (Option.some (Jvm.ClassFile.FieldType.object "java/lang/Object"))).before args0 about1 = true := code_word (m := ⟨19, 1⟩) (meth := k19m1) (c := k19c1) (by decide +kernel) rfl rfl rfl (by decide +kernel)
set_option maxRecDepth 65536 in
theorem w_c42 : (Jvm.Cond.code ({ cls := "java/util/Optional", name := "<init>", desc := "(Ljava/lang/Object;)V" } : Jvm.MethodName) jdk_32_method_2_code (2 : Nat) (Option.none : Option Jvm.ClassFile.FieldType)).before args0 about1 = true := code_word (m := ⟨16, 1⟩) (meth := k16m1) (c := k16c1) (by decide +kernel) rfl rfl rfl (by decide +kernel)
set_option maxRecDepth 65536 in
theorem w_c43 : (Jvm.Cond.code ({ cls := "java/util/Optional", name := "get", desc := "()Ljava/lang/Object;" } : Jvm.MethodName) jdk_32_method_5_code (1 : Nat) (Option.some (Jvm.ClassFile.FieldType.object "java/lang/Object"))).before args0 about1 = true := code_word (m := ⟨16, 3⟩) (meth := k16m3) (c := k16c3) (by decide +kernel) rfl rfl rfl (by decide +kernel)
set_option maxRecDepth 65536 in
theorem w_c44 : (Jvm.Cond.code ({ cls := "com/example/udfyld/udfyld/NormaliserQueryPinLaw", name := "at", desc := "(Ljava/lang/String;[CIII)Z" } : Jvm.MethodName) method_5_code (5 : Nat) (Option.some Jvm.ClassFile.FieldType.boolean)).before args0 about1 = true := code_word (m := ⟨1, 4⟩) (meth := k1m4) (c := k1c4) (by decide +kernel) rfl rfl rfl (by decide +kernel)
def codes1 : List Jvm.Cond := [Jvm.Cond.code x code maxLocals ret, Jvm.Cond.code ({ cls := "com/example/udfyld/udfyld/NormaliserQueryPinLaw", name := "draw", desc := "(I)C" } : Jvm.MethodName) method_2_code (3 : Nat) (Option.some Jvm.ClassFile.FieldType.char), Jvm.Cond.code ({ cls := "java/lang/String", name := "<init>", desc := "([C)V" } : Jvm.MethodName) jdk_42_method_3_code (2 : Nat) (Option.none : Option Jvm.ClassFile.FieldType), Jvm.Cond.code ({ cls := "java/lang/String", name := "<init>", desc := "([CIILjava/lang/Void;)V" } : Jvm.MethodName) jdk_42_method_149_code (6 : Nat) (Option.none : Option Jvm.ClassFile.FieldType), Jvm.Cond.code ({ cls := "java/lang/Object", name := "<init>", desc := "()V" } : Jvm.MethodName) object_method_1_code (1 : Nat) (Option.none : Option Jvm.ClassFile.FieldType), Jvm.Cond.code ({ cls := "java/lang/StringUTF16", name := "compress", desc := "([CII)[B" } : Jvm.MethodName) jdk_52_method_16_code (6 : Nat) (Option.some (Jvm.ClassFile.FieldType.array Jvm.ClassFile.FieldType.byte)), Jvm.Cond.code ({ cls := "java/lang/StringUTF16", name := "compress", desc := "([CI[BII)I" } : Jvm.MethodName) jdk_52_method_21_code (7 : Nat) (Option.some Jvm.ClassFile.FieldType.int), Jvm.Cond.code ({ cls := "java/lang/StringUTF16", name := "coderFromArrayLen", desc := "([BI)B" } : Jvm.MethodName) jdk_52_method_15_code (2 : Nat) (Option.some Jvm.ClassFile.FieldType.byte), Jvm.Cond.code ({ cls := "com/example/udfyld/udfyld/NormaliserQueryPinLaw", name := "step", desc := "([C[ICI)V" } : Jvm.MethodName) method_4_code (4 : Nat) (Option.none : Option Jvm.ClassFile.FieldType), Jvm.Cond.code ({ cls := "com/example/udfyld/udfyld/NormaliserQueryPinLaw", name := "isLetter", desc := "(C)Z" } : Jvm.MethodName) method_3_code (2 : Nat) (Option.some Jvm.ClassFile.FieldType.boolean), Jvm.Cond.code ({ cls := "com/example/udfyld/udfyld/Normaliser", name := "query", desc := "(Ljava/lang/String;)Ljava/util/Optional;" } : Jvm.MethodName) prog_12_method_2_code (2 : Nat) (Option.some (Jvm.ClassFile.FieldType.object "java/util/Optional")), Jvm.Cond.code ({ cls := "com/example/udfyld/udfyld/Normaliser", name := "normalise", desc := "(Ljava/lang/String;Z)Ljava/lang/String;" } : Jvm.MethodName) prog_12_method_4_code (7 : Nat) (Option.some (Jvm.ClassFile.FieldType.object "java/lang/String")), Jvm.Cond.code ({ cls := "java/lang/String", name := "length", desc := "()I" } : Jvm.MethodName) jdk_42_method_54_code (1 : Nat) (Option.some Jvm.ClassFile.FieldType.int), Jvm.Cond.code ({ cls := "java/lang/String", name := "coder", desc := "()B" } : Jvm.MethodName) jdk_42_method_152_code (1 : Nat) (Option.some Jvm.ClassFile.FieldType.byte), Jvm.Cond.code ({ cls := "java/lang/Math", name := "min", desc := "(II)I" } : Jvm.MethodName) jdk_29_method_69_code (2 : Nat) (Option.some Jvm.ClassFile.FieldType.int), Jvm.Cond.code ({ cls := "java/lang/StringBuilder", name := "<init>", desc := "(I)V" } : Jvm.MethodName) jdk_67_method_2_code (2 : Nat) (Option.none : Option Jvm.ClassFile.FieldType), Jvm.Cond.code ({ cls := "java/lang/AbstractStringBuilder", name := "<init>", desc := "(I)V" } : Jvm.MethodName) jdk_68_method_2_code (2 : Nat) (Option.none : Option Jvm.ClassFile.FieldType), Jvm.Cond.code ({ cls := "java/lang/String", name := "charAt", desc := "(I)C" } : Jvm.MethodName) jdk_42_method_56_code (2 : Nat) (Option.some Jvm.ClassFile.FieldType.char), Jvm.Cond.code ({ cls := "java/lang/String", name := "isLatin1", desc := "()Z" } : Jvm.MethodName) jdk_42_method_154_code (1 : Nat) (Option.some Jvm.ClassFile.FieldType.boolean), Jvm.Cond.code ({ cls := "java/lang/StringLatin1", name := "charAt", desc := "([BI)C" } : Jvm.MethodName) jdk_43_method_2_code (2 : Nat) (Option.some Jvm.ClassFile.FieldType.char), Jvm.Cond.code ({ cls := "java/lang/String", name := "checkIndex", desc := "(II)V" } : Jvm.MethodName) jdk_42_method_155_code (2 : Nat) (Option.none : Option Jvm.ClassFile.FieldType), Jvm.Cond.code ({ cls := "jdk/internal/util/Preconditions", name := "checkIndex", desc := "(IILjava/util/function/BiFunction;)I" } : Jvm.MethodName) jdk_41_method_11_code (3 : Nat) (Option.some Jvm.ClassFile.FieldType.int), Jvm.Cond.code ({ cls := "java/lang/StringBuilder", name := "length", desc := "()I" } : Jvm.MethodName) jdk_67_method_93_code (1 : Nat) (Option.some Jvm.ClassFile.FieldType.int), Jvm.Cond.code ({ cls := "java/lang/AbstractStringBuilder", name := "length", desc := "()I" } : Jvm.MethodName) jdk_68_method_6_code (1 : Nat) (Option.some Jvm.ClassFile.FieldType.int), Jvm.Cond.code ({ cls := "java/util/Optional", name := "empty", desc := "()Ljava/util/Optional;" } : Jvm.MethodName) jdk_32_method_1_code (1 : Nat) (Option.some (Jvm.ClassFile.FieldType.object "java/util/Optional")), Jvm.Cond.code ({ cls := "java/util/Optional", name := "isPresent", desc := "()Z" } : Jvm.MethodName) jdk_32_method_6_code (1 : Nat) (Option.some Jvm.ClassFile.FieldType.boolean), Jvm.Cond.code ({ cls := "com/example/udfyld/udfyld/Normaliser", name := "append", desc := "(Ljava/lang/StringBuilder;C)Z" } : Jvm.MethodName) prog_12_method_5_code (2 : Nat) (Option.some Jvm.ClassFile.FieldType.boolean), Jvm.Cond.code ({ cls := "java/lang/StringBuilder", name := "append", desc := "(C)Ljava/lang/StringBuilder;" } : Jvm.MethodName) jdk_67_method_14_code (2 : Nat) (Option.some (Jvm.ClassFile.FieldType.object "java/lang/StringBuilder")), Jvm.Cond.code ({ cls := "java/lang/AbstractStringBuilder", name := "append", desc := "(C)Ljava/lang/AbstractStringBuilder;" } : Jvm.MethodName) jdk_68_method_31_code (2 : Nat) (Option.some (Jvm.ClassFile.FieldType.object "java/lang/AbstractStringBuilder")), Jvm.Cond.code ({ cls := "java/lang/AbstractStringBuilder", name := "ensureCapacityInternal", desc := "(I)V" } : Jvm.MethodName) jdk_68_method_9_code (3 : Nat) (Option.none : Option Jvm.ClassFile.FieldType), Jvm.Cond.code ({ cls := "java/lang/AbstractStringBuilder", name := "isLatin1", desc := "()Z" } : Jvm.MethodName) jdk_68_method_68_code (1 : Nat) (Option.some Jvm.ClassFile.FieldType.boolean), Jvm.Cond.code ({ cls := "java/lang/StringLatin1", name := "canEncode", desc := "(C)Z" } : Jvm.MethodName) jdk_43_method_3_code (1 : Nat) (Option.some Jvm.ClassFile.FieldType.boolean), Jvm.Cond.code ({ cls := "java/lang/StringBuilder", name := "toString", desc := "()Ljava/lang/String;" } : Jvm.MethodName) jdk_67_method_42_code (1 : Nat) (Option.some (Jvm.ClassFile.FieldType.object "java/lang/String")), Jvm.Cond.code ({ cls := "java/lang/String", name := "<init>", desc := "(Ljava/lang/StringBuilder;)V" } : Jvm.MethodName) jdk_42_method_53_code (2 : Nat) (Option.none : Option Jvm.ClassFile.FieldType), Jvm.Cond.code ({ cls := "java/lang/String", name := "<init>", desc := "(Ljava/lang/AbstractStringBuilder;Ljava/lang/Void;)V" } : Jvm.MethodName) jdk_42_method_150_code (5 : Nat) (Option.none : Option Jvm.ClassFile.FieldType), Jvm.Cond.code ({ cls := "java/lang/AbstractStringBuilder", name := "getValue", desc := "()[B" } : Jvm.MethodName) jdk_68_method_64_code (1 : Nat) (Option.some (Jvm.ClassFile.FieldType.array Jvm.ClassFile.FieldType.byte)), Jvm.Cond.code ({ cls := "java/util/Arrays", name := "copyOfRange", desc := "([BII)[B" } : Jvm.MethodName) jdk_65_method_132_code (3 : Nat) (Option.some (Jvm.ClassFile.FieldType.array Jvm.ClassFile.FieldType.byte)), Jvm.Cond.code ({ cls := "java/util/Arrays", name := "copyOfRangeByte", desc := "([BII)[B" } : Jvm.MethodName) jdk_65_method_133_code (5 : Nat) (Option.some (Jvm.ClassFile.FieldType.array Jvm.ClassFile.FieldType.byte)), Jvm.Cond.code ({ cls := "java/util/Arrays", name := "checkLength", desc := "(II)V" } : Jvm.MethodName) jdk_65_method_131_code (2 : Nat) (Option.none : Option Jvm.ClassFile.FieldType), Jvm.Cond.code ({ cls := "java/lang/String", name := "isEmpty", desc := "()Z" } : Jvm.MethodName) jdk_42_method_55_code (1 : Nat) (Option.some Jvm.ClassFile.FieldType.boolean), Jvm.Cond.code ({ cls := "java/util/Optional", name := "of", desc := "(Ljava/lang/Object;)Ljava/util/Optional;" } : Jvm.MethodName) jdk_32_method_3_code (1 : Nat) (Option.some (Jvm.ClassFile.FieldType.object "java/util/Optional")), Jvm.Cond.code ({ cls := "java/util/Objects", name := "requireNonNull", desc := "(Ljava/lang/Object;)Ljava/lang/Object;" } : Jvm.MethodName) jdk_31_method_10_code (1 : Nat) (Option.some (Jvm.ClassFile.FieldType.object "java/lang/Object")), Jvm.Cond.code ({ cls := "java/util/Optional", name := "<init>", desc := "(Ljava/lang/Object;)V" } : Jvm.MethodName) jdk_32_method_2_code (2 : Nat) (Option.none : Option Jvm.ClassFile.FieldType), Jvm.Cond.code ({ cls := "java/util/Optional", name := "get", desc := "()Ljava/lang/Object;" } : Jvm.MethodName) jdk_32_method_5_code (1 : Nat) (Option.some (Jvm.ClassFile.FieldType.object "java/lang/Object")), Jvm.Cond.code ({ cls := "com/example/udfyld/udfyld/NormaliserQueryPinLaw", name := "at", desc := "(Ljava/lang/String;[CIII)Z" } : Jvm.MethodName) method_5_code (5 : Nat) (Option.some Jvm.ClassFile.FieldType.boolean)]
set_option maxRecDepth 65536 in
theorem codes_eq : words1.filter isCode = codes1 := rfl
theorem w_codes : ∀ c ∈ words1.filter isCode, c.before args0 about1 = true := by
  rw [codes_eq]
  intro c hc
  simp only [codes1, List.mem_cons, List.not_mem_nil, or_false] at hc
  rcases hc with rfl | rfl | rfl | rfl | rfl | rfl | rfl | rfl | rfl | rfl | rfl | rfl | rfl | rfl | rfl | rfl | rfl | rfl | rfl | rfl | rfl | rfl | rfl | rfl | rfl | rfl | rfl | rfl | rfl | rfl | rfl | rfl | rfl | rfl | rfl | rfl | rfl | rfl | rfl | rfl | rfl | rfl | rfl | rfl | rfl
  · exact w_c0
  · exact w_c1
  · exact w_c2
  · exact w_c3
  · exact w_c4
  · exact w_c5
  · exact w_c6
  · exact w_c7
  · exact w_c8
  · exact w_c9
  · exact w_c10
  · exact w_c11
  · exact w_c12
  · exact w_c13
  · exact w_c14
  · exact w_c15
  · exact w_c16
  · exact w_c17
  · exact w_c18
  · exact w_c19
  · exact w_c20
  · exact w_c21
  · exact w_c22
  · exact w_c23
  · exact w_c24
  · exact w_c25
  · exact w_c26
  · exact w_c27
  · exact w_c28
  · exact w_c29
  · exact w_c30
  · exact w_c31
  · exact w_c32
  · exact w_c33
  · exact w_c34
  · exact w_c35
  · exact w_c36
  · exact w_c37
  · exact w_c38
  · exact w_c39
  · exact w_c40
  · exact w_c41
  · exact w_c42
  · exact w_c43
  · exact w_c44
set_option maxRecDepth 65536 in
theorem w_t1 : (words1.take 24).all (fun c => isCode c || c.before args0 about1) = true := by decide +kernel
set_option maxRecDepth 65536 in
theorem w_t2 : ((words1.drop 24).take 24).all (fun c => isCode c || c.before args0 about1) = true := by decide +kernel
set_option maxRecDepth 65536 in
theorem w_t3 : (((words1.drop 24).drop 24).take 24).all (fun c => isCode c || c.before args0 about1) = true := by decide +kernel
set_option maxRecDepth 65536 in
theorem w_t4 : ((((words1.drop 24).drop 24).drop 24).take 24).all (fun c => isCode c || c.before args0 about1) = true := by decide +kernel
set_option maxRecDepth 65536 in
theorem w_t5 : (((((words1.drop 24).drop 24).drop 24).drop 24).take 24).all (fun c => isCode c || c.before args0 about1) = true := by decide +kernel
set_option maxRecDepth 65536 in
theorem w_t6 : ((((((words1.drop 24).drop 24).drop 24).drop 24).drop 24).take 24).all (fun c => isCode c || c.before args0 about1) = true := by decide +kernel
set_option maxRecDepth 65536 in
theorem w_t7 : (((((((words1.drop 24).drop 24).drop 24).drop 24).drop 24).drop 24).take 24).all (fun c => isCode c || c.before args0 about1) = true := by decide +kernel
set_option maxRecDepth 65536 in
theorem w_t8 : ((((((((words1.drop 24).drop 24).drop 24).drop 24).drop 24).drop 24).drop 24).take 24).all (fun c => isCode c || c.before args0 about1) = true := by decide +kernel
set_option maxRecDepth 65536 in
theorem w_t9 : (((((((((words1.drop 24).drop 24).drop 24).drop 24).drop 24).drop 24).drop 24).drop 24).take 24).all (fun c => isCode c || c.before args0 about1) = true := by decide +kernel
set_option maxRecDepth 65536 in
theorem w_t10 : (((((((((words1.drop 24).drop 24).drop 24).drop 24).drop 24).drop 24).drop 24).drop 24).drop 24).all (fun c => isCode c || c.before args0 about1) = true := by decide +kernel
theorem w_tables : (allAtoms (Jvm.Cond.code x code maxLocals ret :: tables_1)).before args0 about1 = true := by
  rw [allAtoms_all]
  show words1.all (fun c => c.before args0 about1) = true
  refine all_split ?_ w_codes
  rw [← List.take_append_drop 24 words1, List.all_append, w_t1, ← List.take_append_drop 24 (words1.drop 24), List.all_append, w_t2, ← List.take_append_drop 24 ((words1.drop 24).drop 24), List.all_append, w_t3, ← List.take_append_drop 24 (((words1.drop 24).drop 24).drop 24), List.all_append, w_t4, ← List.take_append_drop 24 ((((words1.drop 24).drop 24).drop 24).drop 24), List.all_append, w_t5, ← List.take_append_drop 24 (((((words1.drop 24).drop 24).drop 24).drop 24).drop 24), List.all_append, w_t6, ← List.take_append_drop 24 ((((((words1.drop 24).drop 24).drop 24).drop 24).drop 24).drop 24), List.all_append, w_t7, ← List.take_append_drop 24 (((((((words1.drop 24).drop 24).drop 24).drop 24).drop 24).drop 24).drop 24), List.all_append, w_t8, ← List.take_append_drop 24 ((((((((words1.drop 24).drop 24).drop 24).drop 24).drop 24).drop 24).drop 24).drop 24), List.all_append, w_t9, w_t10]
  rfl
set_option maxRecDepth 65536 in
theorem w_rest : rest_1_c.before args0 about1 = true := by decide +kernel
set_option maxRecDepth 65536 in
theorem w_case : (Jvm.Cond.and given_1 narrow_1).before args0 about1 = true := by decide +kernel
theorem w_applies : (headSpec (Jvm.Cond.code x code maxLocals ret :: tables_1) room_1).applies x e0.platform about1 = true :=
  (Spec.applies_iff w_frames).mpr ⟨w_running, w_runnable, w_alone, w_named, w_hears, w_ripe, w_room, w_tables⟩
theorem atStart : AtStart classFile x code maxLocals ret World_1 tables_1 room_1 Calls_1 rest_1 Pre_1 launch0 p0 e0 about1 theMethod args0 below0 :=
  ⟨lists_1, trivial, launch0.admits_env _ _ _, launch0.least_env, fairChoices_fair.cas, fairChoices_fair.clock, w_frames, w_args, w_heap, w_applies, trivial, w_rest, w_case⟩
end start1
theorem witness_1 : WitnessClaimed_1 := ⟨start1.p0, start1.e0, start1.about1, start1.theMethod, start1.args0, start1.below0, start1.atStart⟩
end Jvm.Pilot.@@N@@
