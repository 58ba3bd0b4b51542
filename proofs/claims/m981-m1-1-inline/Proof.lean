import JvmDerived
import JvmDerived.Pilot.@@N@@Statement
import JvmDerived.Pilot.@@N@@Code
set_option linter.unusedVariables false
set_option linter.unusedSimpArgs false

namespace Jvm.OwnK
open Sem ClassFile Op Lib Bundle Jvm.Free Jvm.Stand Jvm.LawKit Jvm.RoadKit
/-- is nothing ever interned? -/
def NW : Bool := false
/-- the tables since the start; where nothing is ever interned, the narrow word too -/
def Sn (EL : List (String × Nat)) (s : State) (vm0 : Vm) (k0 : Nat) : Prop := s.Since vm0 k0 ∧ (NW = true → s.WarmedH vm0)
/-- the end of an invocation, likewise -/
def RE (EL : List (String × Nat)) (s : State) (o : Outcome) (t : State) (L : List Loc) (k n : Nat) : Prop := ReturnedEndW s o t L k n ∧ (NW = true → s.WarmedH t.vm)
/-- where a walk stands: its Stand over the start with the tables at hand, what is known of the tables and the heap, and the fixed facts of the body -/
def Wk (p : Program) (l : Launch) (e : Env) (R : Room) (s : State) (m : MethodId) (args : Array Value) (below : List Frame) (meth : Method) (c : Code) (Z : State) (a0 : Array Value) (EL : List (String × Nat)) (n0 : Nat) (own nm : String) (bytes : ByteArray) (maxL : Nat) (ret : Option FieldType) (T : State) (vm0 : Vm) (h : Heap) (cells slots : Nat) : Prop :=
  (∃ (k0 : Nat) (locs : List Loc), Stand p l e R (s.setVm vm0) m args below meth c T locs cells slots ∧ Sn EL s vm0 k0 ∧ k0 ≤ h.size ∧ Fr n0 locs) ∧
  (T.heap = h ∧ Z.Warmed39 vm0 ∧ vm0.findClass own = some m.cls ∧ CHr Z EL s.vm s.heap vm0 h) ∧
  (Old Z n0 s.heap ∧ p.tables.exec = Jvm.exec ∧ c.code = bytes ∧ c.maxLocals = maxL ∧ meth.sig.returnType = ret ∧ meth.locks = false ∧ meth.name = nm ∧ EW Z a0 EL)
/-- from U the invocation comes to its end, returns, and Q holds there -/
def Go (p : Program) (e : Env) (below : List Frame) (s : State) (R : Room) (Z : State) (EL : List (String × Nat)) (n0 : Nat) (Q : Option Value → Vm → Heap → Prop) (U : State) : Prop :=
  ∃ s₂ o, Steps p.tables e below U s₂ ∧ s₂.status = .running ∧ Ended s₂ below o ∧ ∃ v L, o = .returned v ∧ Q v s₂.vm s₂.heap ∧ Fr n0 L ∧ CHr Z EL s.vm s.heap s₂.vm s₂.heap ∧ RE EL s o s₂ L R.cells R.slots
/-- a callee's contract -/
def Con (l : Launch) (Z : State) (EL : List (String × Nat)) (n0 : Nat) (y : MethodName) (bytes : ByteArray) (maxL : Nat) (ret : Option FieldType) (ws : List Cond) (rm : Room) (as' : Array Value) (h : Heap) (S : List Addr) (Q : Option Value → Vm → Heap → Prop) : Prop :=
  MetFree l y (head1 (Cond.code y bytes maxL ret :: ws) rm) (fun a U => a = as' ∧ Z.Warmed39 U.vm ∧ U.heap = h ∧ CHv Z EL U.vm h ∧ ∀ x ∈ S, Safe Z EL U.vm h x) (fun _ _ _ _ _ => True)
    (fun _ U o U' => ∃ v L, o = .returned v ∧ Q v U'.vm U'.heap ∧ Fr n0 L ∧ CHr Z EL U.vm U.heap U'.vm U'.heap ∧ RE EL U o U' L rm.cells rm.slots)
/-- a cell that this law made and that no booked literal is -/
def Mine (Z : State) (EL : List (String × Nat)) (n0 : Nat) (vm : Vm) (h : Heap) (a : Addr) : Prop := n0 ≤ a ∧ a < h.size ∧ Safe Z EL vm h a
section
variable {p : Program} {l : Launch} {e : Env} {R : Room} {s : State} {m : MethodId} {args : Array Value} {below : List Frame} {meth : Method} {c : Code} {Z : State} {a0 : Array Value} {EL : List (String × Nat)} {n0 : Nat} {own nm : String} {bytes : ByteArray} {maxL : Nat} {ret : Option FieldType} {T : State} {vm0 : Vm} {h : Heap} {cells slots : Nat} {Q : Option Value → Vm → Heap → Prop} {pc pc' : Nat} {Ls : Array Slot} {st : List Value}
theorem bl {a b : Nat} (h : Nat.ble a b = true) : a ≤ b := Nat.le_of_ble_eq_true h
theorem le {a b : Nat} (h : a = b) : a ≤ b := Nat.le_of_eq h
theorem bt {a b : Nat} (h : Nat.ble (a + 1) b = true) : a < b := Nat.le_of_ble_eq_true h
theorem nlt {a : Addr} {n : Nat} (h : a < n) : @LT.lt Nat instLTNat a n := h
theorem Mine.mv {vm vm' : Vm} {h h' : Heap} {a : Addr} (M : Mine Z EL n0 vm h a) (C : CHr Z EL vm h vm' h') : Mine Z EL n0 vm' h' a := ⟨M.1, Nat.lt_of_lt_of_le M.2.1 C.2.1, C.safe M.2.1 M.2.2⟩
theorem Go.up {U U' : State} (f : ∀ t, Steps p.tables e below U' t → Steps p.tables e below U t) (g : Go p e below s R Z EL n0 Q U') : Go p e below s R Z EL n0 Q U := by
  obtain ⟨s2, o, a, b⟩ := g
  exact ⟨s2, o, f _ a, b⟩
theorem Go.imp {U : State} {Q' : Option Value → Vm → Heap → Prop} (f : ∀ v vm h, Q v vm h → Q' v vm h) (g : Go p e below s R Z EL n0 Q U) : Go p e below s R Z EL n0 Q' U := by
  obtain ⟨s2, o, a, b, d, v, L, h1, h2, h3⟩ := g
  exact ⟨s2, o, a, b, d, v, L, h1, f _ _ _ h2, h3⟩
theorem Wk.here (W : Wk p l e R s m args below meth c Z a0 EL n0 own nm bytes maxL ret T vm0 h cells slots) : At T m c below := by obtain ⟨⟨_, _, X, _⟩, _⟩ := W; exact X.here
theorem Wk.ex (W : Wk p l e R s m args below meth c Z a0 EL n0 own nm bytes maxL ret T vm0 h cells slots) : p.tables.exec = Jvm.exec := W.2.2.2.1
theorem Wk.dec (W : Wk p l e R s m args below meth c Z a0 EL n0 own nm bytes maxL ret T vm0 h cells slots) {r : Except DecodeError (Instr × Nat)} (hd : decode bytes pc = r) : decode c.code pc = r := hb W.2.2.2.2.1 hd
theorem Wk.eh (W : Wk p l e R s m args below meth c Z a0 EL n0 own nm bytes maxL ret T vm0 h cells slots) : T.heap = h := W.2.1.1
theorem Wk.hz (W : Wk p l e R s m args below meth c Z a0 EL n0 own nm bytes maxL ret T vm0 h cells slots) : Z.Warmed39 vm0 := W.2.1.2.1
theorem Wk.hown (W : Wk p l e R s m args below meth c Z a0 EL n0 own nm bytes maxL ret T vm0 h cells slots) : vm0.findClass own = some m.cls := W.2.1.2.2.1
theorem Wk.chr (W : Wk p l e R s m args below meth c Z a0 EL n0 own nm bytes maxL ret T vm0 h cells slots) : CHr Z EL s.vm s.heap vm0 h := W.2.1.2.2.2
theorem Wk.chv (W : Wk p l e R s m args below meth c Z a0 EL n0 own nm bytes maxL ret T vm0 h cells slots) : CHv Z EL vm0 h := W.2.1.2.2.2.1
theorem Wk.el (W : Wk p l e R s m args below meth c Z a0 EL n0 own nm bytes maxL ret T vm0 h cells slots) : EW Z a0 EL := W.2.2.2.2.2.2.2.2.2
theorem Wk.ml (W : Wk p l e R s m args below meth c Z a0 EL n0 own nm bytes maxL ret T vm0 h cells slots) : c.maxLocals = maxL := W.2.2.2.2.2.1
theorem Wk.rt (W : Wk p l e R s m args below meth c Z a0 EL n0 own nm bytes maxL ret T vm0 h cells slots) : meth.sig.returnType = ret := W.2.2.2.2.2.2.1
theorem Wk.lk (W : Wk p l e R s m args below meth c Z a0 EL n0 own nm bytes maxL ret T vm0 h cells slots) : meth.locks = false := W.2.2.2.2.2.2.2.1
theorem Wk.name (W : Wk p l e R s m args below meth c Z a0 EL n0 own nm bytes maxL ret T vm0 h cells slots) : meth.name = nm := W.2.2.2.2.2.2.2.2.1
theorem Wk.grew (W : Wk p l e R s m args below meth c Z a0 EL n0 own nm bytes maxL ret T vm0 h cells slots) : s.heap.size ≤ h.size := W.chr.2.1
theorem Wk.old (W : Wk p l e R s m args below meth c Z a0 EL n0 own nm bytes maxL ret T vm0 h cells slots) : Old Z n0 h := by
  obtain ⟨⟨k0, locs, X, -, -, N⟩, ⟨rfl, -⟩, ⟨O, -⟩⟩ := W
  refine ⟨O.1, Nat.le_trans O.2.1 X.same.2.1, fun b cl hcl => ?_⟩
  have hs := O.2.2 b cl hcl
  obtain ⟨c', h1, h2, -, h4⟩ := X.same.2.2.2.2.2 b cl hs
  have hb := (Array.getElem?_eq_some_iff.mp hcl).1
  rw [O.1] at hb
  have hsl : c'.slots = cl.slots := Array.ext_getElem? fun i => h4 i fun hm => absurd (N _ hm) (Nat.not_le.mpr hb)
  have hcc : c' = cl := by rw [h2, hsl]
  rw [← hcc]; exact h1
theorem Wk.n0le (W : Wk p l e R s m args below meth c Z a0 EL n0 own nm bytes maxL ret T vm0 h cells slots) : n0 ≤ h.size := W.old.1 ▸ W.old.2.1
theorem Wk.more (W : Wk p l e R s m args below meth c Z a0 EL n0 own nm bytes maxL ret T vm0 h cells slots) {cells' slots' : Nat} (h1 : cells ≤ cells') (h2 : slots ≤ slots') : Wk p l e R s m args below meth c Z a0 EL n0 own nm bytes maxL ret T vm0 h cells' slots' := by
  obtain ⟨⟨k0, locs, X, r⟩, q⟩ := W
  exact ⟨⟨k0, locs, X.more h1 h2, r⟩, q⟩

theorem s_aload_n (W : Wk p l e R s m args below meth c Z a0 EL n0 own nm bytes maxL ret T vm0 h cells slots) {k : Fin 4} {v : Value} (hd : decode bytes pc = .ok (.aload_n k, 1)) (hl : Ls[k.val]? = some (.val v)) (hv : v.isRef = true) (hp : pc + 1 = pc') (k : Go p e below s R Z EL n0 Q (T.setTop (mkF m pc' Ls (v :: st)))) : Go p e below s R Z EL n0 Q (T.setTop (mkF m pc Ls st)) := by
  subst hp; exact Go.up (fun t q => Jvm.Free.XS.aloadN W.here W.ex rfl (W.dec hd) hl hv q) k
theorem s_aload (W : Wk p l e R s m args below meth c Z a0 EL n0 own nm bytes maxL ret T vm0 h cells slots) {k : Nat} {v : Value} (hd : decode bytes pc = .ok (.aload k, 2)) (hl : Ls[k]? = some (.val v)) (hv : v.isRef = true) (hp : pc + 2 = pc') (k : Go p e below s R Z EL n0 Q (T.setTop (mkF m pc' Ls (v :: st)))) : Go p e below s R Z EL n0 Q (T.setTop (mkF m pc Ls st)) := by
  subst hp; exact Go.up (fun t q => Jvm.Free.XS.aload W.here W.ex rfl (W.dec hd) hl hv q) k
theorem s_iload_n (W : Wk p l e R s m args below meth c Z a0 EL n0 own nm bytes maxL ret T vm0 h cells slots) {k : Fin 4} {v : Int32} (hd : decode bytes pc = .ok (.iload_n k, 1)) (hl : Ls[k.val]? = some (.val (.int v))) (hp : pc + 1 = pc') (k : Go p e below s R Z EL n0 Q (T.setTop (mkF m pc' Ls (.int v :: st)))) : Go p e below s R Z EL n0 Q (T.setTop (mkF m pc Ls st)) := by
  subst hp; exact Go.up (fun t q => Jvm.Free.XS.iloadN W.here W.ex rfl (W.dec hd) hl q) k
theorem s_iload (W : Wk p l e R s m args below meth c Z a0 EL n0 own nm bytes maxL ret T vm0 h cells slots) {k : Nat} {v : Int32} (hd : decode bytes pc = .ok (.iload k, 2)) (hl : Ls[k]? = some (.val (.int v))) (hp : pc + 2 = pc') (k : Go p e below s R Z EL n0 Q (T.setTop (mkF m pc' Ls (.int v :: st)))) : Go p e below s R Z EL n0 Q (T.setTop (mkF m pc Ls st)) := by
  subst hp; exact Go.up (fun t q => Jvm.Free.XS.iload W.here W.ex rfl (W.dec hd) hl q) k
theorem s_lload_n (W : Wk p l e R s m args below meth c Z a0 EL n0 own nm bytes maxL ret T vm0 h cells slots) {k : Fin 4} {v : Int64} (hd : decode bytes pc = .ok (.lload_n k, 1)) (hl : Ls[k.val]? = some (.val (.long v))) (hp : pc + 1 = pc') (k : Go p e below s R Z EL n0 Q (T.setTop (mkF m pc' Ls (.long v :: st)))) : Go p e below s R Z EL n0 Q (T.setTop (mkF m pc Ls st)) := by
  subst hp; exact Go.up (fun t q => Jvm.Free.XT.lloadN W.here W.ex rfl (W.dec hd) hl q) k
theorem s_lload (W : Wk p l e R s m args below meth c Z a0 EL n0 own nm bytes maxL ret T vm0 h cells slots) {k : Nat} {v : Int64} (hd : decode bytes pc = .ok (.lload k, 2)) (hl : Ls[k]? = some (.val (.long v))) (hp : pc + 2 = pc') (k : Go p e below s R Z EL n0 Q (T.setTop (mkF m pc' Ls (.long v :: st)))) : Go p e below s R Z EL n0 Q (T.setTop (mkF m pc Ls st)) := by
  subst hp; exact Go.up (fun t q => Jvm.Free.XT.lload W.here W.ex rfl (W.dec hd) hl q) k
theorem s_iconst (W : Wk p l e R s m args below meth c Z a0 EL n0 own nm bytes maxL ret T vm0 h cells slots) {i : Int} (v : Int32) (hd : decode bytes pc = .ok (.iconst i, 1)) (hv : Int32.ofInt i = v) (hp : pc + 1 = pc') (k : Go p e below s R Z EL n0 Q (T.setTop (mkF m pc' Ls (.int v :: st)))) : Go p e below s R Z EL n0 Q (T.setTop (mkF m pc Ls st)) := by
  subst hp; exact Go.up (fun t q => Jvm.Free.XT.iconstV W.here W.ex rfl v (W.dec hd) hv q) k
theorem s_bipush (W : Wk p l e R s m args below meth c Z a0 EL n0 own nm bytes maxL ret T vm0 h cells slots) {i : Int} (v : Int32) (hd : decode bytes pc = .ok (.bipush i, 2)) (hv : (Int8.ofInt i).toInt32 = v) (hp : pc + 2 = pc') (k : Go p e below s R Z EL n0 Q (T.setTop (mkF m pc' Ls (.int v :: st)))) : Go p e below s R Z EL n0 Q (T.setTop (mkF m pc Ls st)) := by
  subst hp; exact Go.up (fun t q => Jvm.Free.XT.bipushV W.here W.ex rfl v (W.dec hd) hv q) k
theorem s_sipush (W : Wk p l e R s m args below meth c Z a0 EL n0 own nm bytes maxL ret T vm0 h cells slots) {i : Int} (v : Int32) (hd : decode bytes pc = .ok (.sipush i, 3)) (hv : (Int16.ofInt i).toInt32 = v) (hp : pc + 3 = pc') (k : Go p e below s R Z EL n0 Q (T.setTop (mkF m pc' Ls (.int v :: st)))) : Go p e below s R Z EL n0 Q (T.setTop (mkF m pc Ls st)) := by
  subst hp; exact Go.up (fun t q => Jvm.Free.XT.sipushV W.here W.ex rfl v (W.dec hd) hv q) k
theorem s_lconst (W : Wk p l e R s m args below meth c Z a0 EL n0 own nm bytes maxL ret T vm0 h cells slots) {k : Fin 2} (v : Int64) (hd : decode bytes pc = .ok (.lconst k, 1)) (hv : Int64.ofNat k = v) (hp : pc + 1 = pc') (k : Go p e below s R Z EL n0 Q (T.setTop (mkF m pc' Ls (.long v :: st)))) : Go p e below s R Z EL n0 Q (T.setTop (mkF m pc Ls st)) := by
  subst hp; exact Go.up (fun t q => Jvm.Free.XT.lconstV W.here W.ex rfl v (W.dec hd) hv q) k
theorem s_aconst_null (W : Wk p l e R s m args below meth c Z a0 EL n0 own nm bytes maxL ret T vm0 h cells slots)  (hd : decode bytes pc = .ok (.aconst_null, 1))  (hp : pc + 1 = pc') (k : Go p e below s R Z EL n0 Q (T.setTop (mkF m pc' Ls (.null :: st)))) : Go p e below s R Z EL n0 Q (T.setTop (mkF m pc Ls st)) := by
  subst hp; exact Go.up (fun t q => Jvm.Free.XS.aconstNull W.here W.ex rfl (W.dec hd)  q) k
theorem s_iadd (W : Wk p l e R s m args below meth c Z a0 EL n0 own nm bytes maxL ret T vm0 h cells slots) {x y : Int32} (hd : decode bytes pc = .ok (.iadd, 1))  (hp : pc + 1 = pc') (k : Go p e below s R Z EL n0 Q (T.setTop (mkF m pc' Ls (.int (x + y) :: st)))) : Go p e below s R Z EL n0 Q (T.setTop (mkF m pc Ls (.int y :: .int x :: st))) := by
  subst hp; exact Go.up (fun t q => Jvm.Free.XS.iadd W.here W.ex rfl (W.dec hd) rfl q) k
theorem s_isub (W : Wk p l e R s m args below meth c Z a0 EL n0 own nm bytes maxL ret T vm0 h cells slots) {x y : Int32} (hd : decode bytes pc = .ok (.isub, 1))  (hp : pc + 1 = pc') (k : Go p e below s R Z EL n0 Q (T.setTop (mkF m pc' Ls (.int (x - y) :: st)))) : Go p e below s R Z EL n0 Q (T.setTop (mkF m pc Ls (.int y :: .int x :: st))) := by
  subst hp; exact Go.up (fun t q => Jvm.Free.XS.isub W.here W.ex rfl (W.dec hd) rfl q) k
theorem s_iand (W : Wk p l e R s m args below meth c Z a0 EL n0 own nm bytes maxL ret T vm0 h cells slots) {x y : Int32} (hd : decode bytes pc = .ok (.iand, 1))  (hp : pc + 1 = pc') (k : Go p e below s R Z EL n0 Q (T.setTop (mkF m pc' Ls (.int (x &&& y) :: st)))) : Go p e below s R Z EL n0 Q (T.setTop (mkF m pc Ls (.int y :: .int x :: st))) := by
  subst hp; exact Go.up (fun t q => Jvm.Free.XS.iand W.here W.ex rfl (W.dec hd) rfl q) k
theorem s_imul (W : Wk p l e R s m args below meth c Z a0 EL n0 own nm bytes maxL ret T vm0 h cells slots) {x y : Int32} (hd : decode bytes pc = .ok (.imul, 1))  (hp : pc + 1 = pc') (k : Go p e below s R Z EL n0 Q (T.setTop (mkF m pc' Ls (.int (x * y) :: st)))) : Go p e below s R Z EL n0 Q (T.setTop (mkF m pc Ls (.int y :: .int x :: st))) := by
  subst hp; exact Go.up (fun t q => Jvm.Free.XS.imul W.here W.ex rfl (W.dec hd) rfl q) k
theorem s_ixor (W : Wk p l e R s m args below meth c Z a0 EL n0 own nm bytes maxL ret T vm0 h cells slots) {x y : Int32} (hd : decode bytes pc = .ok (.ixor, 1))  (hp : pc + 1 = pc') (k : Go p e below s R Z EL n0 Q (T.setTop (mkF m pc' Ls (.int (x ^^^ y) :: st)))) : Go p e below s R Z EL n0 Q (T.setTop (mkF m pc Ls (.int y :: .int x :: st))) := by
  subst hp; exact Go.up (fun t q => Jvm.Free.XT.ixor W.here W.ex rfl (W.dec hd) rfl q) k
theorem s_ior (W : Wk p l e R s m args below meth c Z a0 EL n0 own nm bytes maxL ret T vm0 h cells slots) {x y : Int32} (hd : decode bytes pc = .ok (.ior, 1))  (hp : pc + 1 = pc') (k : Go p e below s R Z EL n0 Q (T.setTop (mkF m pc' Ls (.int (x ||| y) :: st)))) : Go p e below s R Z EL n0 Q (T.setTop (mkF m pc Ls (.int y :: .int x :: st))) := by
  subst hp; exact Go.up (fun t q => Jvm.Free.XT.ior W.here W.ex rfl (W.dec hd) rfl q) k
theorem s_ishl (W : Wk p l e R s m args below meth c Z a0 EL n0 own nm bytes maxL ret T vm0 h cells slots) {x y : Int32} (hd : decode bytes pc = .ok (.ishl, 1))  (hp : pc + 1 = pc') (k : Go p e below s R Z EL n0 Q (T.setTop (mkF m pc' Ls (.int (x <<< (y &&& 31)) :: st)))) : Go p e below s R Z EL n0 Q (T.setTop (mkF m pc Ls (.int y :: .int x :: st))) := by
  subst hp; exact Go.up (fun t q => Jvm.Free.XT.ishl W.here W.ex rfl (W.dec hd) rfl q) k
theorem s_ishr (W : Wk p l e R s m args below meth c Z a0 EL n0 own nm bytes maxL ret T vm0 h cells slots) {x y : Int32} (hd : decode bytes pc = .ok (.ishr, 1))  (hp : pc + 1 = pc') (k : Go p e below s R Z EL n0 Q (T.setTop (mkF m pc' Ls (.int (x >>> (y &&& 31)) :: st)))) : Go p e below s R Z EL n0 Q (T.setTop (mkF m pc Ls (.int y :: .int x :: st))) := by
  subst hp; exact Go.up (fun t q => Jvm.Free.XT.ishr W.here W.ex rfl (W.dec hd) rfl q) k
theorem s_iushr (W : Wk p l e R s m args below meth c Z a0 EL n0 own nm bytes maxL ret T vm0 h cells slots) {x y : Int32} (hd : decode bytes pc = .ok (.iushr, 1))  (hp : pc + 1 = pc') (k : Go p e below s R Z EL n0 Q (T.setTop (mkF m pc' Ls (.int (Jvm.Free.XT.ushr x y) :: st)))) : Go p e below s R Z EL n0 Q (T.setTop (mkF m pc Ls (.int y :: .int x :: st))) := by
  subst hp; exact Go.up (fun t q => Jvm.Free.XT.iushr W.here W.ex rfl (W.dec hd) rfl q) k
theorem s_ladd (W : Wk p l e R s m args below meth c Z a0 EL n0 own nm bytes maxL ret T vm0 h cells slots) {x y : Int64} (hd : decode bytes pc = .ok (.ladd, 1))  (hp : pc + 1 = pc') (k : Go p e below s R Z EL n0 Q (T.setTop (mkF m pc' Ls (.long (x + y) :: st)))) : Go p e below s R Z EL n0 Q (T.setTop (mkF m pc Ls (.long y :: .long x :: st))) := by
  subst hp; exact Go.up (fun t q => Jvm.Free.XT.ladd W.here W.ex rfl (W.dec hd) rfl q) k
theorem s_lsub (W : Wk p l e R s m args below meth c Z a0 EL n0 own nm bytes maxL ret T vm0 h cells slots) {x y : Int64} (hd : decode bytes pc = .ok (.lsub, 1))  (hp : pc + 1 = pc') (k : Go p e below s R Z EL n0 Q (T.setTop (mkF m pc' Ls (.long (x - y) :: st)))) : Go p e below s R Z EL n0 Q (T.setTop (mkF m pc Ls (.long y :: .long x :: st))) := by
  subst hp; exact Go.up (fun t q => Jvm.Free.XT.lsub W.here W.ex rfl (W.dec hd) rfl q) k
theorem s_lmul (W : Wk p l e R s m args below meth c Z a0 EL n0 own nm bytes maxL ret T vm0 h cells slots) {x y : Int64} (hd : decode bytes pc = .ok (.lmul, 1))  (hp : pc + 1 = pc') (k : Go p e below s R Z EL n0 Q (T.setTop (mkF m pc' Ls (.long (x * y) :: st)))) : Go p e below s R Z EL n0 Q (T.setTop (mkF m pc Ls (.long y :: .long x :: st))) := by
  subst hp; exact Go.up (fun t q => Jvm.Free.XT.lmul W.here W.ex rfl (W.dec hd) rfl q) k
theorem s_land (W : Wk p l e R s m args below meth c Z a0 EL n0 own nm bytes maxL ret T vm0 h cells slots) {x y : Int64} (hd : decode bytes pc = .ok (.land, 1))  (hp : pc + 1 = pc') (k : Go p e below s R Z EL n0 Q (T.setTop (mkF m pc' Ls (.long (x &&& y) :: st)))) : Go p e below s R Z EL n0 Q (T.setTop (mkF m pc Ls (.long y :: .long x :: st))) := by
  subst hp; exact Go.up (fun t q => Jvm.Free.XT.land W.here W.ex rfl (W.dec hd) rfl q) k
theorem s_lor (W : Wk p l e R s m args below meth c Z a0 EL n0 own nm bytes maxL ret T vm0 h cells slots) {x y : Int64} (hd : decode bytes pc = .ok (.lor, 1))  (hp : pc + 1 = pc') (k : Go p e below s R Z EL n0 Q (T.setTop (mkF m pc' Ls (.long (x ||| y) :: st)))) : Go p e below s R Z EL n0 Q (T.setTop (mkF m pc Ls (.long y :: .long x :: st))) := by
  subst hp; exact Go.up (fun t q => Jvm.Free.XT.lor W.here W.ex rfl (W.dec hd) rfl q) k
theorem s_lxor (W : Wk p l e R s m args below meth c Z a0 EL n0 own nm bytes maxL ret T vm0 h cells slots) {x y : Int64} (hd : decode bytes pc = .ok (.lxor, 1))  (hp : pc + 1 = pc') (k : Go p e below s R Z EL n0 Q (T.setTop (mkF m pc' Ls (.long (x ^^^ y) :: st)))) : Go p e below s R Z EL n0 Q (T.setTop (mkF m pc Ls (.long y :: .long x :: st))) := by
  subst hp; exact Go.up (fun t q => Jvm.Free.XT.lxor W.here W.ex rfl (W.dec hd) rfl q) k
theorem s_lshl (W : Wk p l e R s m args below meth c Z a0 EL n0 own nm bytes maxL ret T vm0 h cells slots) {x : Int64} {y : Int32} (hd : decode bytes pc = .ok (.lshl, 1))  (hp : pc + 1 = pc') (k : Go p e below s R Z EL n0 Q (T.setTop (mkF m pc' Ls (.long (x <<< (y.toInt64 &&& 63)) :: st)))) : Go p e below s R Z EL n0 Q (T.setTop (mkF m pc Ls (.int y :: .long x :: st))) := by
  subst hp; exact Go.up (fun t q => Jvm.Free.XT.lshl W.here W.ex rfl (W.dec hd) rfl q) k
theorem s_lshr (W : Wk p l e R s m args below meth c Z a0 EL n0 own nm bytes maxL ret T vm0 h cells slots) {x : Int64} {y : Int32} (hd : decode bytes pc = .ok (.lshr, 1))  (hp : pc + 1 = pc') (k : Go p e below s R Z EL n0 Q (T.setTop (mkF m pc' Ls (.long (x >>> (y.toInt64 &&& 63)) :: st)))) : Go p e below s R Z EL n0 Q (T.setTop (mkF m pc Ls (.int y :: .long x :: st))) := by
  subst hp; exact Go.up (fun t q => Jvm.Free.XT.lshr W.here W.ex rfl (W.dec hd) rfl q) k
theorem s_lushr (W : Wk p l e R s m args below meth c Z a0 EL n0 own nm bytes maxL ret T vm0 h cells slots) {x : Int64} {y : Int32} (hd : decode bytes pc = .ok (.lushr, 1))  (hp : pc + 1 = pc') (k : Go p e below s R Z EL n0 Q (T.setTop (mkF m pc' Ls (.long (Jvm.Free.XT.ushrL x y) :: st)))) : Go p e below s R Z EL n0 Q (T.setTop (mkF m pc Ls (.int y :: .long x :: st))) := by
  subst hp; exact Go.up (fun t q => Jvm.Free.XT.lushr W.here W.ex rfl (W.dec hd) rfl q) k
theorem s_ineg (W : Wk p l e R s m args below meth c Z a0 EL n0 own nm bytes maxL ret T vm0 h cells slots) {x : Int32} (hd : decode bytes pc = .ok (.ineg, 1))  (hp : pc + 1 = pc') (k : Go p e below s R Z EL n0 Q (T.setTop (mkF m pc' Ls (.int (-x) :: st)))) : Go p e below s R Z EL n0 Q (T.setTop (mkF m pc Ls (.int x :: st))) := by
  subst hp; exact Go.up (fun t q => Jvm.Free.XS.ineg W.here W.ex rfl (W.dec hd) rfl q) k
theorem s_lneg (W : Wk p l e R s m args below meth c Z a0 EL n0 own nm bytes maxL ret T vm0 h cells slots) {x : Int64} (hd : decode bytes pc = .ok (.lneg, 1))  (hp : pc + 1 = pc') (k : Go p e below s R Z EL n0 Q (T.setTop (mkF m pc' Ls (.long (-x) :: st)))) : Go p e below s R Z EL n0 Q (T.setTop (mkF m pc Ls (.long x :: st))) := by
  subst hp; exact Go.up (fun t q => Jvm.Free.XT.lneg W.here W.ex rfl (W.dec hd) rfl q) k
theorem s_i2l (W : Wk p l e R s m args below meth c Z a0 EL n0 own nm bytes maxL ret T vm0 h cells slots) {x : Int32} (hd : decode bytes pc = .ok (.i2l, 1))  (hp : pc + 1 = pc') (k : Go p e below s R Z EL n0 Q (T.setTop (mkF m pc' Ls (.long x.toInt64 :: st)))) : Go p e below s R Z EL n0 Q (T.setTop (mkF m pc Ls (.int x :: st))) := by
  subst hp; exact Go.up (fun t q => Jvm.Free.XT.i2l W.here W.ex rfl (W.dec hd) rfl q) k
theorem s_l2i (W : Wk p l e R s m args below meth c Z a0 EL n0 own nm bytes maxL ret T vm0 h cells slots) {x : Int64} (hd : decode bytes pc = .ok (.l2i, 1))  (hp : pc + 1 = pc') (k : Go p e below s R Z EL n0 Q (T.setTop (mkF m pc' Ls (.int x.toInt32 :: st)))) : Go p e below s R Z EL n0 Q (T.setTop (mkF m pc Ls (.long x :: st))) := by
  subst hp; exact Go.up (fun t q => Jvm.Free.XT.l2i W.here W.ex rfl (W.dec hd) rfl q) k
theorem s_i2b (W : Wk p l e R s m args below meth c Z a0 EL n0 own nm bytes maxL ret T vm0 h cells slots) {x : Int32} (hd : decode bytes pc = .ok (.i2b, 1))  (hp : pc + 1 = pc') (k : Go p e below s R Z EL n0 Q (T.setTop (mkF m pc' Ls (.int x.toInt8.toInt32 :: st)))) : Go p e below s R Z EL n0 Q (T.setTop (mkF m pc Ls (.int x :: st))) := by
  subst hp; exact Go.up (fun t q => Jvm.Free.XT.i2b W.here W.ex rfl (W.dec hd) rfl q) k
theorem s_i2c (W : Wk p l e R s m args below meth c Z a0 EL n0 own nm bytes maxL ret T vm0 h cells slots) {x : Int32} (hd : decode bytes pc = .ok (.i2c, 1))  (hp : pc + 1 = pc') (k : Go p e below s R Z EL n0 Q (T.setTop (mkF m pc' Ls (.int x.toUInt32.toUInt16.toUInt32.toInt32 :: st)))) : Go p e below s R Z EL n0 Q (T.setTop (mkF m pc Ls (.int x :: st))) := by
  subst hp; exact Go.up (fun t q => Jvm.Free.XT.i2c W.here W.ex rfl (W.dec hd) rfl q) k
theorem s_i2s (W : Wk p l e R s m args below meth c Z a0 EL n0 own nm bytes maxL ret T vm0 h cells slots) {x : Int32} (hd : decode bytes pc = .ok (.i2s, 1))  (hp : pc + 1 = pc') (k : Go p e below s R Z EL n0 Q (T.setTop (mkF m pc' Ls (.int x.toInt16.toInt32 :: st)))) : Go p e below s R Z EL n0 Q (T.setTop (mkF m pc Ls (.int x :: st))) := by
  subst hp; exact Go.up (fun t q => Jvm.Free.XT.i2s W.here W.ex rfl (W.dec hd) rfl q) k
theorem s_lcmp (W : Wk p l e R s m args below meth c Z a0 EL n0 own nm bytes maxL ret T vm0 h cells slots) {x y : Int64} (hd : decode bytes pc = .ok (.lcmp, 1))  (hp : pc + 1 = pc') (k : Go p e below s R Z EL n0 Q (T.setTop (mkF m pc' Ls (.int (Jvm.Free.XT.cmpL x y) :: st)))) : Go p e below s R Z EL n0 Q (T.setTop (mkF m pc Ls (.long y :: .long x :: st))) := by
  subst hp; exact Go.up (fun t q => Jvm.Free.XT.lcmp W.here W.ex rfl (W.dec hd) rfl q) k
theorem s_idiv (W : Wk p l e R s m args below meth c Z a0 EL n0 own nm bytes maxL ret T vm0 h cells slots) {x y : Int32} (hd : decode bytes pc = .ok (.idiv, 1)) (hy : y ≠ 0) (hp : pc + 1 = pc') (k : Go p e below s R Z EL n0 Q (T.setTop (mkF m pc' Ls (.int (x / y) :: st)))) : Go p e below s R Z EL n0 Q (T.setTop (mkF m pc Ls (.int y :: .int x :: st))) := by
  subst hp; exact Go.up (fun t q => Jvm.Free.XS.idiv W.here W.ex rfl (W.dec hd) rfl hy q) k
theorem s_ldiv (W : Wk p l e R s m args below meth c Z a0 EL n0 own nm bytes maxL ret T vm0 h cells slots) {x y : Int64} (hd : decode bytes pc = .ok (.ldiv, 1)) (hy : y ≠ 0) (hp : pc + 1 = pc') (k : Go p e below s R Z EL n0 Q (T.setTop (mkF m pc' Ls (.long (x / y) :: st)))) : Go p e below s R Z EL n0 Q (T.setTop (mkF m pc Ls (.long y :: .long x :: st))) := by
  subst hp; exact Go.up (fun t q => Jvm.Free.XT.ldiv W.here W.ex rfl (W.dec hd) rfl hy q) k
theorem s_irem (W : Wk p l e R s m args below meth c Z a0 EL n0 own nm bytes maxL ret T vm0 h cells slots) {x y : Int32} (hd : decode bytes pc = .ok (.irem, 1)) (hy : y ≠ 0) (hp : pc + 1 = pc') (k : Go p e below s R Z EL n0 Q (T.setTop (mkF m pc' Ls (.int (x % y) :: st)))) : Go p e below s R Z EL n0 Q (T.setTop (mkF m pc Ls (.int y :: .int x :: st))) := by
  subst hp; exact Go.up (fun t q => Jvm.Free.XS.irem W.here W.ex rfl (W.dec hd) rfl hy (by rw [show x - x / y * y = x % y from irem_eq_mod x y]; exact q)) k
theorem s_lrem (W : Wk p l e R s m args below meth c Z a0 EL n0 own nm bytes maxL ret T vm0 h cells slots) {x y : Int64} (hd : decode bytes pc = .ok (.lrem, 1)) (hy : y ≠ 0) (hp : pc + 1 = pc') (k : Go p e below s R Z EL n0 Q (T.setTop (mkF m pc' Ls (.long (x % y) :: st)))) : Go p e below s R Z EL n0 Q (T.setTop (mkF m pc Ls (.long y :: .long x :: st))) := by
  subst hp; exact Go.up (fun t q => Jvm.Free.XT.lrem W.here W.ex rfl (W.dec hd) rfl hy (by rw [show x - x / y * y = x % y from lrem_mod x y]; exact q)) k
theorem s_dup (W : Wk p l e R s m args below meth c Z a0 EL n0 own nm bytes maxL ret T vm0 h cells slots) {x : Value} (hd : decode bytes pc = .ok (.dup, 1)) (hc : x.category = 1) (hp : pc + 1 = pc') (k : Go p e below s R Z EL n0 Q (T.setTop (mkF m pc' Ls (x :: x :: st)))) : Go p e below s R Z EL n0 Q (T.setTop (mkF m pc Ls (x :: st))) := by
  subst hp; exact Go.up (fun t q => Jvm.Free.XS.dup W.here W.ex rfl (W.dec hd) rfl hc q) k
theorem s_pop (W : Wk p l e R s m args below meth c Z a0 EL n0 own nm bytes maxL ret T vm0 h cells slots) {x : Value} (hd : decode bytes pc = .ok (.pop, 1)) (hc : x.category = 1) (hp : pc + 1 = pc') (k : Go p e below s R Z EL n0 Q (T.setTop (mkF m pc' Ls st))) : Go p e below s R Z EL n0 Q (T.setTop (mkF m pc Ls (x :: st))) := by
  subst hp; exact Go.up (fun t q => Jvm.Free.XT.pop W.here W.ex rfl (W.dec hd) rfl hc q) k
theorem s_dup_x1 (W : Wk p l e R s m args below meth c Z a0 EL n0 own nm bytes maxL ret T vm0 h cells slots) {x y : Value} (hd : decode bytes pc = .ok (.dup_x1, 1)) (hc : x.category = 1) (hc' : y.category = 1) (hp : pc + 1 = pc') (k : Go p e below s R Z EL n0 Q (T.setTop (mkF m pc' Ls (x :: y :: x :: st)))) : Go p e below s R Z EL n0 Q (T.setTop (mkF m pc Ls (x :: y :: st))) := by
  subst hp; exact Go.up (fun t q => Jvm.Free.XT.dupX1 W.here W.ex rfl (W.dec hd) rfl hc hc' q) k
theorem s_dup2 (W : Wk p l e R s m args below meth c Z a0 EL n0 own nm bytes maxL ret T vm0 h cells slots) {x y : Value} (hd : decode bytes pc = .ok (.dup2, 1)) (hc : x.category = 1) (hc' : y.category = 1) (hp : pc + 1 = pc') (k : Go p e below s R Z EL n0 Q (T.setTop (mkF m pc' Ls (x :: y :: x :: y :: st)))) : Go p e below s R Z EL n0 Q (T.setTop (mkF m pc Ls (x :: y :: st))) := by
  subst hp; exact Go.up (fun t q => Jvm.Free.XT.dup2 W.here W.ex rfl (W.dec hd) rfl hc hc' q) k
theorem s_dup2L (W : Wk p l e R s m args below meth c Z a0 EL n0 own nm bytes maxL ret T vm0 h cells slots) {x : Int64} (hd : decode bytes pc = .ok (.dup2, 1))  (hp : pc + 1 = pc') (k : Go p e below s R Z EL n0 Q (T.setTop (mkF m pc' Ls (.long x :: .long x :: st)))) : Go p e below s R Z EL n0 Q (T.setTop (mkF m pc Ls (.long x :: st))) := by
  subst hp; exact Go.up (fun t q => Jvm.Free.XT.dup2L W.here W.ex rfl (W.dec hd) rfl q) k
theorem s_istore_n (W : Wk p l e R s m args below meth c Z a0 EL n0 own nm bytes maxL ret T vm0 h cells slots) {k : Fin 4} {x : Int32} (l' : Array Slot) (hd : decode bytes pc = .ok (.istore_n k, 1)) (hl : storeLocals Ls k.val (.int x) = some l') (hp : pc + 1 = pc') (k : Go p e below s R Z EL n0 Q (T.setTop (mkF m pc' l' st))) : Go p e below s R Z EL n0 Q (T.setTop (mkF m pc Ls (.int x :: st))) := by
  subst hp; exact Go.up (fun t q => Jvm.Free.XS.istoreN W.here W.ex rfl (W.dec hd) rfl hl q) k
theorem s_istore (W : Wk p l e R s m args below meth c Z a0 EL n0 own nm bytes maxL ret T vm0 h cells slots) {k : Nat} {x : Int32} (l' : Array Slot) (hd : decode bytes pc = .ok (.istore k, 2)) (hl : storeLocals Ls k (.int x) = some l') (hp : pc + 2 = pc') (k : Go p e below s R Z EL n0 Q (T.setTop (mkF m pc' l' st))) : Go p e below s R Z EL n0 Q (T.setTop (mkF m pc Ls (.int x :: st))) := by
  subst hp; exact Go.up (fun t q => Jvm.Free.XS.istore W.here W.ex rfl (W.dec hd) rfl hl q) k
theorem s_astore_n (W : Wk p l e R s m args below meth c Z a0 EL n0 own nm bytes maxL ret T vm0 h cells slots) {k : Fin 4} {x : Value} (l' : Array Slot) (hd : decode bytes pc = .ok (.astore_n k, 1)) (hv : x.isRef = true) (hl : storeLocals Ls k.val x = some l') (hp : pc + 1 = pc') (k : Go p e below s R Z EL n0 Q (T.setTop (mkF m pc' l' st))) : Go p e below s R Z EL n0 Q (T.setTop (mkF m pc Ls (x :: st))) := by
  subst hp; exact Go.up (fun t q => Jvm.Free.XS.astoreN W.here W.ex rfl (W.dec hd) rfl hv hl q) k
theorem s_astore (W : Wk p l e R s m args below meth c Z a0 EL n0 own nm bytes maxL ret T vm0 h cells slots) {k : Nat} {x : Value} (l' : Array Slot) (hd : decode bytes pc = .ok (.astore k, 2)) (hv : x.isRef = true) (hl : storeLocals Ls k x = some l') (hp : pc + 2 = pc') (k : Go p e below s R Z EL n0 Q (T.setTop (mkF m pc' l' st))) : Go p e below s R Z EL n0 Q (T.setTop (mkF m pc Ls (x :: st))) := by
  subst hp; exact Go.up (fun t q => Jvm.Free.XS.astore W.here W.ex rfl (W.dec hd) rfl hv hl q) k
theorem s_lstore_n (W : Wk p l e R s m args below meth c Z a0 EL n0 own nm bytes maxL ret T vm0 h cells slots) {k : Fin 4} {x : Int64} (l' : Array Slot) (hd : decode bytes pc = .ok (.lstore_n k, 1)) (hl : storeLocals Ls k.val (.long x) = some l') (hp : pc + 1 = pc') (k : Go p e below s R Z EL n0 Q (T.setTop (mkF m pc' l' st))) : Go p e below s R Z EL n0 Q (T.setTop (mkF m pc Ls (.long x :: st))) := by
  subst hp; exact Go.up (fun t q => Jvm.Free.XT.lstoreN W.here W.ex rfl (W.dec hd) rfl hl q) k
theorem s_lstore (W : Wk p l e R s m args below meth c Z a0 EL n0 own nm bytes maxL ret T vm0 h cells slots) {k : Nat} {x : Int64} (l' : Array Slot) (hd : decode bytes pc = .ok (.lstore k, 2)) (hl : storeLocals Ls k (.long x) = some l') (hp : pc + 2 = pc') (k : Go p e below s R Z EL n0 Q (T.setTop (mkF m pc' l' st))) : Go p e below s R Z EL n0 Q (T.setTop (mkF m pc Ls (.long x :: st))) := by
  subst hp; exact Go.up (fun t q => Jvm.Free.XT.lstore W.here W.ex rfl (W.dec hd) rfl hl q) k
theorem s_iinc (W : Wk p l e R s m args below meth c Z a0 EL n0 own nm bytes maxL ret T vm0 h cells slots) {k : Nat} {cst : Int} {x : Int32} (v : Int32) (l' : Array Slot) (hd : decode bytes pc = .ok (.iinc k cst, 3)) (hv : Int32.ofInt cst = v) (hl : Ls[k]? = some (.val (.int x))) (hl' : storeLocals Ls k (.int (x + v)) = some l') (hp : pc + 3 = pc') (k : Go p e below s R Z EL n0 Q (T.setTop (mkF m pc' l' st))) : Go p e below s R Z EL n0 Q (T.setTop (mkF m pc Ls st)) := by
  subst hp; exact Go.up (fun t q => Jvm.Free.XT.iincV W.here W.ex rfl v (W.dec hd) hv hl hl' q) k
theorem s_goto (W : Wk p l e R s m args below meth c Z a0 EL n0 own nm bytes maxL ret T vm0 h cells slots) {o : Int} (hd : decode bytes pc = .ok (.goto o, 3)) (ho : 0 ≤ (pc : Int) + o) (hp : ((pc : Int) + o).toNat = pc') (k : Go p e below s R Z EL n0 Q (T.setTop (mkF m pc' Ls st))) : Go p e below s R Z EL n0 Q (T.setTop (mkF m pc Ls st)) :=
  Go.up (fun t q => Jvm.Free.XS.goto W.here W.ex rfl rfl (W.dec hd) ho hp q) k
theorem s_ifeq (W : Wk p l e R s m args below meth c Z a0 EL n0 own nm bytes maxL ret T vm0 h cells slots) {x : Int32} {o : Int} {pcT : Nat} (hd : decode bytes pc = .ok (.ifCond .eq o, 3)) (ho : 0 ≤ (pc : Int) + o) (hpT : ((pc : Int) + o).toNat = pcT) (hp : pc + 3 = pc') (ky : x = 0 → Go p e below s R Z EL n0 Q (T.setTop (mkF m pcT Ls st))) (kn : ¬ x = 0 → Go p e below s R Z EL n0 Q (T.setTop (mkF m pc' Ls st))) : Go p e below s R Z EL n0 Q (T.setTop (mkF m pc Ls (.int x :: st))) := by
  by_cases hc : x = 0
  · exact Go.up (fun t q => Jvm.Free.XS.ifYes W.here W.ex rfl rfl (W.dec hd) rfl (Jvm.Free.XT.i0_eq_t hc) ho hpT q) (ky hc)
  · subst hp; exact Go.up (fun t q => Jvm.Free.XS.ifNo W.here W.ex rfl (W.dec hd) rfl (Jvm.Free.XT.i0_eq_f hc) q) (kn hc)
theorem s_icmpeq (W : Wk p l e R s m args below meth c Z a0 EL n0 own nm bytes maxL ret T vm0 h cells slots) {x y : Int32} {o : Int} {pcT : Nat} (hd : decode bytes pc = .ok (.if_icmp .eq o, 3)) (ho : 0 ≤ (pc : Int) + o) (hpT : ((pc : Int) + o).toNat = pcT) (hp : pc + 3 = pc') (ky : x = y → Go p e below s R Z EL n0 Q (T.setTop (mkF m pcT Ls st))) (kn : ¬ x = y → Go p e below s R Z EL n0 Q (T.setTop (mkF m pc' Ls st))) : Go p e below s R Z EL n0 Q (T.setTop (mkF m pc Ls (.int y :: .int x :: st))) := by
  by_cases hc : x = y
  · exact Go.up (fun t q => Jvm.Free.XS.icmpYes W.here W.ex rfl rfl (W.dec hd) rfl (Jvm.Free.XT.ii_eq_t hc) ho hpT q) (ky hc)
  · subst hp; exact Go.up (fun t q => Jvm.Free.XS.icmpNo W.here W.ex rfl (W.dec hd) rfl (Jvm.Free.XT.ii_eq_f hc) q) (kn hc)
theorem s_ifleq (W : Wk p l e R s m args below meth c Z a0 EL n0 own nm bytes maxL ret T vm0 h cells slots) {x y : Int64} {o : Int} {pcT : Nat} (hd : decode bytes pc = .ok (.ifCond .eq o, 3)) (ho : 0 ≤ (pc : Int) + o) (hpT : ((pc : Int) + o).toNat = pcT) (hp : pc + 3 = pc') (ky : x = y → Go p e below s R Z EL n0 Q (T.setTop (mkF m pcT Ls st))) (kn : ¬ x = y → Go p e below s R Z EL n0 Q (T.setTop (mkF m pc' Ls st))) : Go p e below s R Z EL n0 Q (T.setTop (mkF m pc Ls (.int (Jvm.Free.XT.cmpL x y) :: st))) := by
  by_cases hc : x = y
  · exact Go.up (fun t q => Jvm.Free.XS.ifYes W.here W.ex rfl rfl (W.dec hd) rfl (Jvm.Free.XT.ll_eq_t hc) ho hpT q) (ky hc)
  · subst hp; exact Go.up (fun t q => Jvm.Free.XS.ifNo W.here W.ex rfl (W.dec hd) rfl (Jvm.Free.XT.ll_eq_f hc) q) (kn hc)
theorem s_ifne (W : Wk p l e R s m args below meth c Z a0 EL n0 own nm bytes maxL ret T vm0 h cells slots) {x : Int32} {o : Int} {pcT : Nat} (hd : decode bytes pc = .ok (.ifCond .ne o, 3)) (ho : 0 ≤ (pc : Int) + o) (hpT : ((pc : Int) + o).toNat = pcT) (hp : pc + 3 = pc') (ky : ¬ x = 0 → Go p e below s R Z EL n0 Q (T.setTop (mkF m pcT Ls st))) (kn : x = 0 → Go p e below s R Z EL n0 Q (T.setTop (mkF m pc' Ls st))) : Go p e below s R Z EL n0 Q (T.setTop (mkF m pc Ls (.int x :: st))) := by
  by_cases hc : x = 0
  · subst hp; exact Go.up (fun t q => Jvm.Free.XS.ifNo W.here W.ex rfl (W.dec hd) rfl (Jvm.Free.XT.i0_ne_f hc) q) (kn hc)
  · exact Go.up (fun t q => Jvm.Free.XS.ifYes W.here W.ex rfl rfl (W.dec hd) rfl (Jvm.Free.XT.i0_ne_t hc) ho hpT q) (ky hc)
theorem s_icmpne (W : Wk p l e R s m args below meth c Z a0 EL n0 own nm bytes maxL ret T vm0 h cells slots) {x y : Int32} {o : Int} {pcT : Nat} (hd : decode bytes pc = .ok (.if_icmp .ne o, 3)) (ho : 0 ≤ (pc : Int) + o) (hpT : ((pc : Int) + o).toNat = pcT) (hp : pc + 3 = pc') (ky : ¬ x = y → Go p e below s R Z EL n0 Q (T.setTop (mkF m pcT Ls st))) (kn : x = y → Go p e below s R Z EL n0 Q (T.setTop (mkF m pc' Ls st))) : Go p e below s R Z EL n0 Q (T.setTop (mkF m pc Ls (.int y :: .int x :: st))) := by
  by_cases hc : x = y
  · subst hp; exact Go.up (fun t q => Jvm.Free.XS.icmpNo W.here W.ex rfl (W.dec hd) rfl (Jvm.Free.XT.ii_ne_f hc) q) (kn hc)
  · exact Go.up (fun t q => Jvm.Free.XS.icmpYes W.here W.ex rfl rfl (W.dec hd) rfl (Jvm.Free.XT.ii_ne_t hc) ho hpT q) (ky hc)
theorem s_iflne (W : Wk p l e R s m args below meth c Z a0 EL n0 own nm bytes maxL ret T vm0 h cells slots) {x y : Int64} {o : Int} {pcT : Nat} (hd : decode bytes pc = .ok (.ifCond .ne o, 3)) (ho : 0 ≤ (pc : Int) + o) (hpT : ((pc : Int) + o).toNat = pcT) (hp : pc + 3 = pc') (ky : ¬ x = y → Go p e below s R Z EL n0 Q (T.setTop (mkF m pcT Ls st))) (kn : x = y → Go p e below s R Z EL n0 Q (T.setTop (mkF m pc' Ls st))) : Go p e below s R Z EL n0 Q (T.setTop (mkF m pc Ls (.int (Jvm.Free.XT.cmpL x y) :: st))) := by
  by_cases hc : x = y
  · subst hp; exact Go.up (fun t q => Jvm.Free.XS.ifNo W.here W.ex rfl (W.dec hd) rfl (Jvm.Free.XT.ll_ne_f hc) q) (kn hc)
  · exact Go.up (fun t q => Jvm.Free.XS.ifYes W.here W.ex rfl rfl (W.dec hd) rfl (Jvm.Free.XT.ll_ne_t hc) ho hpT q) (ky hc)
theorem s_iflt (W : Wk p l e R s m args below meth c Z a0 EL n0 own nm bytes maxL ret T vm0 h cells slots) {x : Int32} {o : Int} {pcT : Nat} (hd : decode bytes pc = .ok (.ifCond .lt o, 3)) (ho : 0 ≤ (pc : Int) + o) (hpT : ((pc : Int) + o).toNat = pcT) (hp : pc + 3 = pc') (ky : x < 0 → Go p e below s R Z EL n0 Q (T.setTop (mkF m pcT Ls st))) (kn : ¬ x < 0 → Go p e below s R Z EL n0 Q (T.setTop (mkF m pc' Ls st))) : Go p e below s R Z EL n0 Q (T.setTop (mkF m pc Ls (.int x :: st))) := by
  by_cases hc : x < 0
  · exact Go.up (fun t q => Jvm.Free.XS.ifYes W.here W.ex rfl rfl (W.dec hd) rfl (Jvm.Free.XT.i0_lt_t hc) ho hpT q) (ky hc)
  · subst hp; exact Go.up (fun t q => Jvm.Free.XS.ifNo W.here W.ex rfl (W.dec hd) rfl (Jvm.Free.XT.i0_lt_f hc) q) (kn hc)
theorem s_icmplt (W : Wk p l e R s m args below meth c Z a0 EL n0 own nm bytes maxL ret T vm0 h cells slots) {x y : Int32} {o : Int} {pcT : Nat} (hd : decode bytes pc = .ok (.if_icmp .lt o, 3)) (ho : 0 ≤ (pc : Int) + o) (hpT : ((pc : Int) + o).toNat = pcT) (hp : pc + 3 = pc') (ky : x < y → Go p e below s R Z EL n0 Q (T.setTop (mkF m pcT Ls st))) (kn : ¬ x < y → Go p e below s R Z EL n0 Q (T.setTop (mkF m pc' Ls st))) : Go p e below s R Z EL n0 Q (T.setTop (mkF m pc Ls (.int y :: .int x :: st))) := by
  by_cases hc : x < y
  · exact Go.up (fun t q => Jvm.Free.XS.icmpYes W.here W.ex rfl rfl (W.dec hd) rfl (Jvm.Free.XT.ii_lt_t hc) ho hpT q) (ky hc)
  · subst hp; exact Go.up (fun t q => Jvm.Free.XS.icmpNo W.here W.ex rfl (W.dec hd) rfl (Jvm.Free.XT.ii_lt_f hc) q) (kn hc)
theorem s_ifllt (W : Wk p l e R s m args below meth c Z a0 EL n0 own nm bytes maxL ret T vm0 h cells slots) {x y : Int64} {o : Int} {pcT : Nat} (hd : decode bytes pc = .ok (.ifCond .lt o, 3)) (ho : 0 ≤ (pc : Int) + o) (hpT : ((pc : Int) + o).toNat = pcT) (hp : pc + 3 = pc') (ky : x < y → Go p e below s R Z EL n0 Q (T.setTop (mkF m pcT Ls st))) (kn : ¬ x < y → Go p e below s R Z EL n0 Q (T.setTop (mkF m pc' Ls st))) : Go p e below s R Z EL n0 Q (T.setTop (mkF m pc Ls (.int (Jvm.Free.XT.cmpL x y) :: st))) := by
  by_cases hc : x < y
  · exact Go.up (fun t q => Jvm.Free.XS.ifYes W.here W.ex rfl rfl (W.dec hd) rfl (Jvm.Free.XT.ll_lt_t hc) ho hpT q) (ky hc)
  · subst hp; exact Go.up (fun t q => Jvm.Free.XS.ifNo W.here W.ex rfl (W.dec hd) rfl (Jvm.Free.XT.ll_lt_f hc) q) (kn hc)
theorem s_ifge (W : Wk p l e R s m args below meth c Z a0 EL n0 own nm bytes maxL ret T vm0 h cells slots) {x : Int32} {o : Int} {pcT : Nat} (hd : decode bytes pc = .ok (.ifCond .ge o, 3)) (ho : 0 ≤ (pc : Int) + o) (hpT : ((pc : Int) + o).toNat = pcT) (hp : pc + 3 = pc') (ky : ¬ x < 0 → Go p e below s R Z EL n0 Q (T.setTop (mkF m pcT Ls st))) (kn : x < 0 → Go p e below s R Z EL n0 Q (T.setTop (mkF m pc' Ls st))) : Go p e below s R Z EL n0 Q (T.setTop (mkF m pc Ls (.int x :: st))) := by
  by_cases hc : x < 0
  · subst hp; exact Go.up (fun t q => Jvm.Free.XS.ifNo W.here W.ex rfl (W.dec hd) rfl (Jvm.Free.XT.i0_ge_f hc) q) (kn hc)
  · exact Go.up (fun t q => Jvm.Free.XS.ifYes W.here W.ex rfl rfl (W.dec hd) rfl (Jvm.Free.XT.i0_ge_t hc) ho hpT q) (ky hc)
theorem s_icmpge (W : Wk p l e R s m args below meth c Z a0 EL n0 own nm bytes maxL ret T vm0 h cells slots) {x y : Int32} {o : Int} {pcT : Nat} (hd : decode bytes pc = .ok (.if_icmp .ge o, 3)) (ho : 0 ≤ (pc : Int) + o) (hpT : ((pc : Int) + o).toNat = pcT) (hp : pc + 3 = pc') (ky : ¬ x < y → Go p e below s R Z EL n0 Q (T.setTop (mkF m pcT Ls st))) (kn : x < y → Go p e below s R Z EL n0 Q (T.setTop (mkF m pc' Ls st))) : Go p e below s R Z EL n0 Q (T.setTop (mkF m pc Ls (.int y :: .int x :: st))) := by
  by_cases hc : x < y
  · subst hp; exact Go.up (fun t q => Jvm.Free.XS.icmpNo W.here W.ex rfl (W.dec hd) rfl (Jvm.Free.XT.ii_ge_f hc) q) (kn hc)
  · exact Go.up (fun t q => Jvm.Free.XS.icmpYes W.here W.ex rfl rfl (W.dec hd) rfl (Jvm.Free.XT.ii_ge_t hc) ho hpT q) (ky hc)
theorem s_iflge (W : Wk p l e R s m args below meth c Z a0 EL n0 own nm bytes maxL ret T vm0 h cells slots) {x y : Int64} {o : Int} {pcT : Nat} (hd : decode bytes pc = .ok (.ifCond .ge o, 3)) (ho : 0 ≤ (pc : Int) + o) (hpT : ((pc : Int) + o).toNat = pcT) (hp : pc + 3 = pc') (ky : ¬ x < y → Go p e below s R Z EL n0 Q (T.setTop (mkF m pcT Ls st))) (kn : x < y → Go p e below s R Z EL n0 Q (T.setTop (mkF m pc' Ls st))) : Go p e below s R Z EL n0 Q (T.setTop (mkF m pc Ls (.int (Jvm.Free.XT.cmpL x y) :: st))) := by
  by_cases hc : x < y
  · subst hp; exact Go.up (fun t q => Jvm.Free.XS.ifNo W.here W.ex rfl (W.dec hd) rfl (Jvm.Free.XT.ll_ge_f hc) q) (kn hc)
  · exact Go.up (fun t q => Jvm.Free.XS.ifYes W.here W.ex rfl rfl (W.dec hd) rfl (Jvm.Free.XT.ll_ge_t hc) ho hpT q) (ky hc)
theorem s_ifgt (W : Wk p l e R s m args below meth c Z a0 EL n0 own nm bytes maxL ret T vm0 h cells slots) {x : Int32} {o : Int} {pcT : Nat} (hd : decode bytes pc = .ok (.ifCond .gt o, 3)) (ho : 0 ≤ (pc : Int) + o) (hpT : ((pc : Int) + o).toNat = pcT) (hp : pc + 3 = pc') (ky : 0 < x → Go p e below s R Z EL n0 Q (T.setTop (mkF m pcT Ls st))) (kn : ¬ 0 < x → Go p e below s R Z EL n0 Q (T.setTop (mkF m pc' Ls st))) : Go p e below s R Z EL n0 Q (T.setTop (mkF m pc Ls (.int x :: st))) := by
  by_cases hc : 0 < x
  · exact Go.up (fun t q => Jvm.Free.XS.ifYes W.here W.ex rfl rfl (W.dec hd) rfl (Jvm.Free.XT.i0_gt_t hc) ho hpT q) (ky hc)
  · subst hp; exact Go.up (fun t q => Jvm.Free.XS.ifNo W.here W.ex rfl (W.dec hd) rfl (Jvm.Free.XT.i0_gt_f hc) q) (kn hc)
theorem s_icmpgt (W : Wk p l e R s m args below meth c Z a0 EL n0 own nm bytes maxL ret T vm0 h cells slots) {x y : Int32} {o : Int} {pcT : Nat} (hd : decode bytes pc = .ok (.if_icmp .gt o, 3)) (ho : 0 ≤ (pc : Int) + o) (hpT : ((pc : Int) + o).toNat = pcT) (hp : pc + 3 = pc') (ky : y < x → Go p e below s R Z EL n0 Q (T.setTop (mkF m pcT Ls st))) (kn : ¬ y < x → Go p e below s R Z EL n0 Q (T.setTop (mkF m pc' Ls st))) : Go p e below s R Z EL n0 Q (T.setTop (mkF m pc Ls (.int y :: .int x :: st))) := by
  by_cases hc : y < x
  · exact Go.up (fun t q => Jvm.Free.XS.icmpYes W.here W.ex rfl rfl (W.dec hd) rfl (Jvm.Free.XT.ii_gt_t hc) ho hpT q) (ky hc)
  · subst hp; exact Go.up (fun t q => Jvm.Free.XS.icmpNo W.here W.ex rfl (W.dec hd) rfl (Jvm.Free.XT.ii_gt_f hc) q) (kn hc)
theorem s_iflgt (W : Wk p l e R s m args below meth c Z a0 EL n0 own nm bytes maxL ret T vm0 h cells slots) {x y : Int64} {o : Int} {pcT : Nat} (hd : decode bytes pc = .ok (.ifCond .gt o, 3)) (ho : 0 ≤ (pc : Int) + o) (hpT : ((pc : Int) + o).toNat = pcT) (hp : pc + 3 = pc') (ky : y < x → Go p e below s R Z EL n0 Q (T.setTop (mkF m pcT Ls st))) (kn : ¬ y < x → Go p e below s R Z EL n0 Q (T.setTop (mkF m pc' Ls st))) : Go p e below s R Z EL n0 Q (T.setTop (mkF m pc Ls (.int (Jvm.Free.XT.cmpL x y) :: st))) := by
  by_cases hc : y < x
  · exact Go.up (fun t q => Jvm.Free.XS.ifYes W.here W.ex rfl rfl (W.dec hd) rfl (Jvm.Free.XT.ll_gt_t hc) ho hpT q) (ky hc)
  · subst hp; exact Go.up (fun t q => Jvm.Free.XS.ifNo W.here W.ex rfl (W.dec hd) rfl (Jvm.Free.XT.ll_gt_f hc) q) (kn hc)
theorem s_ifle (W : Wk p l e R s m args below meth c Z a0 EL n0 own nm bytes maxL ret T vm0 h cells slots) {x : Int32} {o : Int} {pcT : Nat} (hd : decode bytes pc = .ok (.ifCond .le o, 3)) (ho : 0 ≤ (pc : Int) + o) (hpT : ((pc : Int) + o).toNat = pcT) (hp : pc + 3 = pc') (ky : ¬ 0 < x → Go p e below s R Z EL n0 Q (T.setTop (mkF m pcT Ls st))) (kn : 0 < x → Go p e below s R Z EL n0 Q (T.setTop (mkF m pc' Ls st))) : Go p e below s R Z EL n0 Q (T.setTop (mkF m pc Ls (.int x :: st))) := by
  by_cases hc : 0 < x
  · subst hp; exact Go.up (fun t q => Jvm.Free.XS.ifNo W.here W.ex rfl (W.dec hd) rfl (Jvm.Free.XT.i0_le_f hc) q) (kn hc)
  · exact Go.up (fun t q => Jvm.Free.XS.ifYes W.here W.ex rfl rfl (W.dec hd) rfl (Jvm.Free.XT.i0_le_t hc) ho hpT q) (ky hc)
theorem s_icmple (W : Wk p l e R s m args below meth c Z a0 EL n0 own nm bytes maxL ret T vm0 h cells slots) {x y : Int32} {o : Int} {pcT : Nat} (hd : decode bytes pc = .ok (.if_icmp .le o, 3)) (ho : 0 ≤ (pc : Int) + o) (hpT : ((pc : Int) + o).toNat = pcT) (hp : pc + 3 = pc') (ky : ¬ y < x → Go p e below s R Z EL n0 Q (T.setTop (mkF m pcT Ls st))) (kn : y < x → Go p e below s R Z EL n0 Q (T.setTop (mkF m pc' Ls st))) : Go p e below s R Z EL n0 Q (T.setTop (mkF m pc Ls (.int y :: .int x :: st))) := by
  by_cases hc : y < x
  · subst hp; exact Go.up (fun t q => Jvm.Free.XS.icmpNo W.here W.ex rfl (W.dec hd) rfl (Jvm.Free.XT.ii_le_f hc) q) (kn hc)
  · exact Go.up (fun t q => Jvm.Free.XS.icmpYes W.here W.ex rfl rfl (W.dec hd) rfl (Jvm.Free.XT.ii_le_t hc) ho hpT q) (ky hc)
theorem s_iflle (W : Wk p l e R s m args below meth c Z a0 EL n0 own nm bytes maxL ret T vm0 h cells slots) {x y : Int64} {o : Int} {pcT : Nat} (hd : decode bytes pc = .ok (.ifCond .le o, 3)) (ho : 0 ≤ (pc : Int) + o) (hpT : ((pc : Int) + o).toNat = pcT) (hp : pc + 3 = pc') (ky : ¬ y < x → Go p e below s R Z EL n0 Q (T.setTop (mkF m pcT Ls st))) (kn : y < x → Go p e below s R Z EL n0 Q (T.setTop (mkF m pc' Ls st))) : Go p e below s R Z EL n0 Q (T.setTop (mkF m pc Ls (.int (Jvm.Free.XT.cmpL x y) :: st))) := by
  by_cases hc : y < x
  · subst hp; exact Go.up (fun t q => Jvm.Free.XS.ifNo W.here W.ex rfl (W.dec hd) rfl (Jvm.Free.XT.ll_le_f hc) q) (kn hc)
  · exact Go.up (fun t q => Jvm.Free.XS.ifYes W.here W.ex rfl rfl (W.dec hd) rfl (Jvm.Free.XT.ll_le_t hc) ho hpT q) (ky hc)
theorem s_ifnullY (W : Wk p l e R s m args below meth c Z a0 EL n0 own nm bytes maxL ret T vm0 h cells slots) {o : Int} {pcT : Nat} (hd : decode bytes pc = .ok (.ifnull o, 3)) (ho : 0 ≤ (pc : Int) + o) (hpT : ((pc : Int) + o).toNat = pcT) (k : Go p e below s R Z EL n0 Q (T.setTop (mkF m pcT Ls st))) : Go p e below s R Z EL n0 Q (T.setTop (mkF m pc Ls (.null :: st))) := Go.up (fun t q => Jvm.Free.XS.ifnullYes W.here W.ex rfl rfl (W.dec hd) rfl ho hpT q) k
theorem s_ifnullN (W : Wk p l e R s m args below meth c Z a0 EL n0 own nm bytes maxL ret T vm0 h cells slots) {o : Int} {b : Addr} (hd : decode bytes pc = .ok (.ifnull o, 3)) (hp : pc + 3 = pc') (k : Go p e below s R Z EL n0 Q (T.setTop (mkF m pc' Ls st))) : Go p e below s R Z EL n0 Q (T.setTop (mkF m pc Ls (.ref b :: st))) := by subst hp; exact Go.up (fun t q => Jvm.Free.XS.ifnullNo W.here W.ex rfl (W.dec hd) rfl q) k
theorem s_ifnonnullY (W : Wk p l e R s m args below meth c Z a0 EL n0 own nm bytes maxL ret T vm0 h cells slots) {o : Int} {b : Addr} {pcT : Nat} (hd : decode bytes pc = .ok (.ifnonnull o, 3)) (ho : 0 ≤ (pc : Int) + o) (hpT : ((pc : Int) + o).toNat = pcT) (k : Go p e below s R Z EL n0 Q (T.setTop (mkF m pcT Ls st))) : Go p e below s R Z EL n0 Q (T.setTop (mkF m pc Ls (.ref b :: st))) := Go.up (fun t q => Jvm.Free.XT.ifnonnullYes W.here W.ex rfl rfl (W.dec hd) rfl ho hpT q) k
theorem s_ifnonnullN (W : Wk p l e R s m args below meth c Z a0 EL n0 own nm bytes maxL ret T vm0 h cells slots) {o : Int} (hd : decode bytes pc = .ok (.ifnonnull o, 3)) (hp : pc + 3 = pc') (k : Go p e below s R Z EL n0 Q (T.setTop (mkF m pc' Ls st))) : Go p e below s R Z EL n0 Q (T.setTop (mkF m pc Ls (.null :: st))) := by subst hp; exact Go.up (fun t q => Jvm.Free.XT.ifnonnullNo W.here W.ex rfl (W.dec hd) rfl q) k
theorem s_acmpY (W : Wk p l e R s m args below meth c Z a0 EL n0 own nm bytes maxL ret T vm0 h cells slots) {cd : ClassFile.ACond} {x y : Value} {o : Int} {pcT : Nat} (hd : decode bytes pc = .ok (.if_acmp cd o, 3)) (hx : x.isRef = true) (hy : y.isRef = true) (hc : Jvm.Free.XT.acmp cd x y = true) (ho : 0 ≤ (pc : Int) + o) (hpT : ((pc : Int) + o).toNat = pcT) (k : Go p e below s R Z EL n0 Q (T.setTop (mkF m pcT Ls st))) : Go p e below s R Z EL n0 Q (T.setTop (mkF m pc Ls (y :: x :: st))) := Go.up (fun t q => Jvm.Free.XT.acmpYes W.here W.ex rfl rfl (W.dec hd) rfl hx hy hc ho hpT q) k
theorem s_acmpN (W : Wk p l e R s m args below meth c Z a0 EL n0 own nm bytes maxL ret T vm0 h cells slots) {cd : ClassFile.ACond} {x y : Value} {o : Int} (hd : decode bytes pc = .ok (.if_acmp cd o, 3)) (hx : x.isRef = true) (hy : y.isRef = true) (hc : Jvm.Free.XT.acmp cd x y = false) (hp : pc + 3 = pc') (k : Go p e below s R Z EL n0 Q (T.setTop (mkF m pc' Ls st))) : Go p e below s R Z EL n0 Q (T.setTop (mkF m pc Ls (y :: x :: st))) := by subst hp; exact Go.up (fun t q => Jvm.Free.XT.acmpNo W.here W.ex rfl (W.dec hd) rfl hx hy hc q) k
theorem s_ldcI (W : Wk p l e R s m args below meth c Z a0 EL n0 own nm bytes maxL ret T vm0 h cells slots) {index : Nat} {v : Int32} (w : (Cond.constant own index v).before a0 Z = true) (hd : decode bytes pc = .ok (.ldc index, 2)) (hp : pc + 2 = pc') (k : Go p e below s R Z EL n0 Q (T.setTop (mkF m pc' Ls (.int v :: st)))) : Go p e below s R Z EL n0 Q (T.setTop (mkF m pc Ls st)) := by
  obtain ⟨⟨k0, locs, X, hS, hk, N⟩, ⟨eT, hZ, hown, C⟩, hh⟩ := W
  subst hp
  exact Go.up (fun t q => Jvm.Stand.ldcI X hh.2.1 (own := own) hown (mv (s := s.setVm vm0) hZ w) rfl (hb hh.2.2.1 hd) q) k
theorem s_ldcWI (W : Wk p l e R s m args below meth c Z a0 EL n0 own nm bytes maxL ret T vm0 h cells slots) {index : Nat} {v : Int32} (w : (Cond.constant own index v).before a0 Z = true) (hd : decode bytes pc = .ok (.ldc_w index, 3)) (hp : pc + 3 = pc') (k : Go p e below s R Z EL n0 Q (T.setTop (mkF m pc' Ls (.int v :: st)))) : Go p e below s R Z EL n0 Q (T.setTop (mkF m pc Ls st)) := by
  obtain ⟨⟨k0, locs, X, hS, hk, N⟩, ⟨eT, hZ, hown, C⟩, hh⟩ := W
  subst hp
  exact Go.up (fun t q => Jvm.Stand.ldcWI X hh.2.1 (own := own) hown (mv (s := s.setVm vm0) hZ w) rfl (hb hh.2.2.1 hd) q) k
theorem s_ldc2J (W : Wk p l e R s m args below meth c Z a0 EL n0 own nm bytes maxL ret T vm0 h cells slots) {index : Nat} {v : Int64} (w : (Cond.constantLong own index v).before a0 Z = true) (hd : decode bytes pc = .ok (.ldc2_w index, 3)) (hp : pc + 3 = pc') (k : Go p e below s R Z EL n0 Q (T.setTop (mkF m pc' Ls (.long v :: st)))) : Go p e below s R Z EL n0 Q (T.setTop (mkF m pc Ls st)) := by
  obtain ⟨⟨k0, locs, X, hS, hk, N⟩, ⟨eT, hZ, hown, C⟩, hh⟩ := W
  subst hp
  exact Go.up (fun t q => Jvm.Stand.ldc2J X hh.2.1 (own := own) hown (mv (s := s.setVm vm0) hZ w) rfl (hb hh.2.2.1 hd) q) k
theorem s_getf (W : Wk p l e R s m args below meth c Z a0 EL n0 own nm bytes maxL ret T vm0 h cells slots) {R0 O n d : String} {index : Nat} (w : (Cond.fieldLink own index R0 n d).before a0 Z = true) (via : Via Z R0 O n d) {a : Addr} {v : Value} (F : Fld Z h a O n d v) (hd : decode bytes pc = .ok (.getfield index, 3)) (hp : pc + 3 = pc') (k : ∀ T', Wk p l e R s m args below meth c Z a0 EL n0 own nm bytes maxL ret T' vm0 h cells slots → Go p e below s R Z EL n0 Q (T'.setTop (mkF m pc' Ls (v :: st)))) : Go p e below s R Z EL n0 Q (T.setTop (mkF m pc Ls (.ref a :: st))) := by
  obtain ⟨⟨k0, locs, X, hS, hk, N⟩, ⟨eT, hZ, hown, C⟩, hh⟩ := W
  obtain ⟨T', X', e', st'⟩ := getF X hh.2.1 (show Z.Warmed39 (s.setVm vm0).vm from hZ) (own := own) (host := "") hown (Or.inl w) via eT F (g := mkF m pc Ls (.ref a :: st)) rfl rfl (hb hh.2.2.1 hd)
  subst hp
  exact Go.up st' (k T' ⟨⟨k0, locs, X', hS, hk, N⟩, ⟨e', hZ, hown, C⟩, hh⟩)
theorem s_getfN (W : Wk p l e R s m args below meth c Z a0 EL n0 own nm bytes maxL ret T vm0 h cells slots) {R0 O n d host : String} {index : Nat} (w : (Cond.fieldLinkNest own index R0 n d host).before a0 Z = true) (via : Via Z R0 O n d) {a : Addr} {v : Value} (F : Fld Z h a O n d v) (hd : decode bytes pc = .ok (.getfield index, 3)) (hp : pc + 3 = pc') (k : ∀ T', Wk p l e R s m args below meth c Z a0 EL n0 own nm bytes maxL ret T' vm0 h cells slots → Go p e below s R Z EL n0 Q (T'.setTop (mkF m pc' Ls (v :: st)))) : Go p e below s R Z EL n0 Q (T.setTop (mkF m pc Ls (.ref a :: st))) := by
  obtain ⟨⟨k0, locs, X, hS, hk, N⟩, ⟨eT, hZ, hown, C⟩, hh⟩ := W
  obtain ⟨T', X', e', st'⟩ := getF X hh.2.1 (show Z.Warmed39 (s.setVm vm0).vm from hZ) (own := own) (host := host) hown (Or.inr w) via eT F (g := mkF m pc Ls (.ref a :: st)) rfl rfl (hb hh.2.2.1 hd)
  subst hp
  exact Go.up st' (k T' ⟨⟨k0, locs, X', hS, hk, N⟩, ⟨e', hZ, hown, C⟩, hh⟩)
theorem s_gets (W : Wk p l e R s m args below meth c Z a0 EL n0 own nm bytes maxL ret T vm0 h cells slots) {R0 O n d : String} {index : Nat} (w : (Cond.fieldLink own index R0 n d).before a0 Z = true) (via : Via Z R0 O n d) {v : Value} (F : Sta Z Z.heap O n d v) (hd : decode bytes pc = .ok (.getstatic index, 3)) (hp : pc + 3 = pc') (k : ∀ T', Wk p l e R s m args below meth c Z a0 EL n0 own nm bytes maxL ret T' vm0 h cells slots → Go p e below s R Z EL n0 Q (T'.setTop (mkF m pc' Ls (v :: st)))) : Go p e below s R Z EL n0 Q (T.setTop (mkF m pc Ls st)) := by
  have O := W.old
  obtain ⟨⟨k0, locs, X, hS, hk, N⟩, ⟨eT, hZ, hown, C⟩, hh⟩ := W
  obtain ⟨T', X', e', st'⟩ := getS X hh.2.1 (show Z.Warmed39 (s.setVm vm0).vm from hZ) (own := own) (host := "") hown w via eT (F.ext O.2) (g := mkF m pc Ls st) rfl (hb hh.2.2.1 hd)
  subst hp
  exact Go.up st' (k T' ⟨⟨k0, locs, X', hS, hk, N⟩, ⟨e', hZ, hown, C⟩, hh⟩)
theorem s_cast (W : Wk p l e R s m args below meth c Z a0 EL n0 own nm bytes maxL ret T vm0 h cells slots) {K : String} {index : Nat} (w : (Cond.classLink own index K).before a0 Z = true) {a : Addr} (F : Ins Z h a K true) (hd : decode bytes pc = .ok (.checkcast index, 3)) (hp : pc + 3 = pc') (k : ∀ T', Wk p l e R s m args below meth c Z a0 EL n0 own nm bytes maxL ret T' vm0 h cells slots → Go p e below s R Z EL n0 Q (T'.setTop (mkF m pc' Ls (.ref a :: st)))) : Go p e below s R Z EL n0 Q (T.setTop (mkF m pc Ls (.ref a :: st))) := by
  obtain ⟨⟨k0, locs, X, hS, hk, N⟩, ⟨eT, hZ, hown, C⟩, hh⟩ := W
  obtain ⟨T', X', e', st'⟩ := castY X hh.2.1 (show Z.Warmed39 (s.setVm vm0).vm from hZ) (own := own) hown w eT F (g := mkF m pc Ls (.ref a :: st)) rfl rfl (hb hh.2.2.1 hd)
  subst hp
  exact Go.up st' (k T' ⟨⟨k0, locs, X', hS, hk, N⟩, ⟨e', hZ, hown, C⟩, hh⟩)
theorem s_inst (W : Wk p l e R s m args below meth c Z a0 EL n0 own nm bytes maxL ret T vm0 h cells slots) {K : String} {index : Nat} (w : (Cond.classLink own index K).before a0 Z = true) {a : Addr} (F : Ins Z h a K true) (hd : decode bytes pc = .ok (.instanceof index, 3)) (hp : pc + 3 = pc') (k : ∀ T', Wk p l e R s m args below meth c Z a0 EL n0 own nm bytes maxL ret T' vm0 h cells slots → Go p e below s R Z EL n0 Q (T'.setTop (mkF m pc' Ls (.int 1 :: st)))) : Go p e below s R Z EL n0 Q (T.setTop (mkF m pc Ls (.ref a :: st))) := by
  obtain ⟨⟨k0, locs, X, hS, hk, N⟩, ⟨eT, hZ, hown, C⟩, hh⟩ := W
  obtain ⟨T', X', e', st'⟩ := instY X hh.2.1 (show Z.Warmed39 (s.setVm vm0).vm from hZ) (own := own) hown w eT F (g := mkF m pc Ls (.ref a :: st)) rfl rfl (hb hh.2.2.1 hd)
  subst hp
  exact Go.up st' (k T' ⟨⟨k0, locs, X', hS, hk, N⟩, ⟨e', hZ, hown, C⟩, hh⟩)

theorem Wk.ext' {T' : State} {h' : Heap} {cells' slots' : Nat} (hZ : Z.Warmed39 vm0) (E : Ext h h') (H : CHv Z EL vm0 h) : CHr Z EL vm0 h vm0 h' ∧ Keep h h' [] := ⟨CHr.ext E H, (Keep.refl h []).ext E⟩

theorem s_new (W : Wk p l e R s m args below meth c Z a0 EL n0 own nm bytes maxL ret T vm0 h cells slots) {C : String} {index n : Nat} (w : (Cond.classLink own index C).before a0 Z = true) (wi : (Cond.instantiable C n).before a0 Z = true) (wz : (Cond.initialized C).before a0 Z = true) (hd : decode bytes pc = .ok (.new index, 3)) (hc : cells + 1 ≤ R.cells) (hl : slots + n ≤ R.slots) (hp : pc + 3 = pc')
    (k : ∀ b T' h', b = h.size → Wk p l e R s m args below meth c Z a0 EL n0 own nm bytes maxL ret T' vm0 h' (cells + 1) (slots + n) → Keep h h' [] → CHr Z EL vm0 h vm0 h' → Mine Z EL n0 vm0 h' b → Exa Z h' b C → (∀ {O nm d : String} {ty : FieldType}, Laid Z a0 C O nm d → parseFieldDescriptor d = some ty → Fld Z h' b O nm d (defaultValue ty)) → Unt h' b → Go p e below s R Z EL n0 Q (T'.setTop (mkF m pc' Ls (.ref b :: st)))) : Go p e below s R Z EL n0 Q (T.setTop (mkF m pc Ls st)) := by
  have n0h := W.n0le
  obtain ⟨⟨k0, locs, X, hS, hk, N⟩, ⟨eT, hZ, hown, C⟩, hh⟩ := W
  obtain ⟨T', h', X', e', E, A, D, U, st'⟩ := newO X hh.2.1 (show Z.Warmed39 (s.setVm vm0).vm from hZ) (own := own) hown w wi wz eT (g := mkF m pc Ls st) rfl (hb hh.2.2.1 hd) hc hl
  subst hp
  have Ch := CHr.ext E C.1
  exact Go.up st' (k h.size T' h' rfl ⟨⟨k0, locs, X', hS, Nat.le_trans hk E.1, N⟩, ⟨e', hZ, hown, C.trans Ch⟩, hh⟩ ((Keep.refl h []).ext E) Ch ⟨n0h, A.lt, Safe.ext E C.1 (Safe.new (Nat.le_refl _))⟩ A D U)
theorem s_newarr (W : Wk p l e R s m args below meth c Z a0 EL n0 own nm bytes maxL ret T vm0 h cells slots) {aty : ArrayType} {n : Int32} (cap : Nat) (ad : String) (had : "[" ++ (newarray.typeOf aty).toString = ad) (w : (Cond.arrayClass (newarray.typeOf aty)).before a0 Z = true) (hd : decode bytes pc = .ok (.newarray aty, 2)) (hn : ¬ n < 0) (hcap : n.toNatClampNeg ≤ cap) (hb8 : cap * 8 ≤ 536870912) (hc : cells + 1 ≤ R.cells) (hl : slots + cap ≤ R.slots) (hp : pc + 2 = pc')
    (k : ∀ b T' h' kA, b = h.size → Wk p l e R s m args below meth c Z a0 EL n0 own nm bytes maxL ret T' vm0 h' (cells + 1) (slots + cap) → Keep h h' [] → CHr Z EL vm0 h vm0 h' → Mine Z EL n0 vm0 h' b → Arv Z h' b kA (newarray.typeOf aty) n (List.replicate n.toNatClampNeg (defaultValue (newarray.typeOf aty))) (defaultValue (newarray.typeOf aty)) → Exa Z h' b ad → Go p e below s R Z EL n0 Q (T'.setTop (mkF m pc' Ls (.ref b :: st)))) : Go p e below s R Z EL n0 Q (T.setTop (mkF m pc Ls (.int n :: st))) := by
  have n0h := W.n0le
  obtain ⟨⟨k0, locs, X, hS, hk, N⟩, ⟨eT, hZ, hown, C⟩, hh⟩ := W
  obtain ⟨T', h', kA, X', e', E, A, EX, st'⟩ := newPE X hh.2.1 (show Z.Warmed39 (s.setVm vm0).vm from hZ) w eT (g := mkF m pc Ls (.int n :: st)) rfl (hb hh.2.2.1 hd) rfl hn hcap hb8 hc hl had
  subst hp
  have Ch := CHr.ext E C.1
  have V := (Arv.new A hn).pad (vs' := [] ++ List.replicate n.toNatClampNeg (defaultValue (newarray.typeOf aty))) (pad_rep _ _ _)
  exact Go.up st' (k h.size T' h' kA rfl ⟨⟨k0, locs, X', hS, Nat.le_trans hk E.1, N⟩, ⟨e', hZ, hown, C.trans Ch⟩, hh⟩ ((Keep.refl h []).ext E) Ch ⟨n0h, A.lt, Safe.ext E C.1 (Safe.new (Nat.le_refl _))⟩ V EX)
theorem s_clone (W : Wk p l e R s m args below meth c Z a0 EL n0 own nm bytes maxL ret T vm0 h cells slots) {index : Nat} {ad : String} (w1 : (Cond.methodLink own index ⟨ad, "clone", "()Ljava/lang/Object;"⟩).before a0 Z = true) (w2 : (Cond.sameMethod ad "java/lang/Object" "clone" "()Ljava/lang/Object;").before a0 Z = true) (w3 : (Cond.native ⟨"java/lang/Object", "clone", "()Ljava/lang/Object;"⟩).before a0 Z = true) (w4 : (Cond.instanceMethod ⟨"java/lang/Object", "clone", "()Ljava/lang/Object;"⟩).before a0 Z = true) (w5 : (Cond.selects ad ⟨ad, "clone", "()Ljava/lang/Object;"⟩ ⟨"java/lang/Object", "clone", "()Ljava/lang/Object;"⟩).before a0 Z = true) (w6 : (Cond.castable ad "java/lang/Cloneable").before a0 Z = true) {a : Addr} {kA : ClassId} {ty : FieldType} {z : Int32} {vs : List Value} {dv : Value} (V : Arv Z h a kA ty z vs dv) (E : Exa Z h a ad) (cap : Nat) (hcap : z.toNatClampNeg ≤ cap) (hsz : Ls.size = maxL) (hd : decode bytes pc = .ok (.invokevirtual index, 3)) (Wd : Nat) (hWd : (st.map fun v => v.category).sum ≤ Wd) (hf : 1 ≤ R.frames) (hlo : Wd + 14 ≤ R.locals) (hc : cells + 1 ≤ R.cells) (hl : slots + cap ≤ R.slots) (hp : pc + 3 = pc')
    (k : ∀ b T' h', b = h.size → Wk p l e R s m args below meth c Z a0 EL n0 own nm bytes maxL ret T' vm0 h' (cells + 1) (slots + cap) → Keep h h' [] → CHr Z EL vm0 h vm0 h' → Mine Z EL n0 vm0 h' b → Arv Z h' b kA ty z vs dv → Exa Z h' b ad → Go p e below s R Z EL n0 Q (T'.setTop (mkF m pc' Ls (.ref b :: st)))) : Go p e below s R Z EL n0 Q (T.setTop (mkF m pc Ls (.ref a :: st))) := by
  have n0h := W.n0le
  obtain ⟨⟨k0, locs, X, hS, hk, N⟩, ⟨eT, hZ, hown, C⟩, hh⟩ := W
  have V' : Arh Z h a kA ty z [] vs dv := V
  obtain ⟨T', h', X', e', ex, A', EX, st'⟩ := cloneH X hh.2.1 (show Z.Warmed39 (s.setVm vm0).vm from hZ) (own := own) hown w1 w2 w3 w4 w5 w6 eT V' E (g := mkF m pc Ls (.ref a :: st)) rfl (hsz.trans hh.2.2.2.1.symm) rfl (hb hh.2.2.1 hd) hf (W := Wd) (by show 2 * 0 + _ ≤ _; omega) hlo hcap hc hl
  subst hp
  have Ch := CHr.ext ex C.1
  have A2 : Arv Z h' h.size kA ty z vs dv := A'
  exact Go.up st' (k h.size T' h' rfl ⟨⟨k0, locs, X', hS, Nat.le_trans hk ex.1, N⟩, ⟨e', hZ, hown, C.trans Ch⟩, hh⟩ ((Keep.refl h []).ext ex) Ch ⟨n0h, A2.lt, Safe.ext ex C.1 (Safe.new (Nat.le_refl _))⟩ A2 EX)
theorem s_anew (W : Wk p l e R s m args below meth c Z a0 EL n0 own nm bytes maxL ret T vm0 h cells slots) {C : String} {index : Nat} {n : Int32} (cap : Nat) (w : (Cond.classLink own index C).before a0 Z = true) (w2 : (Cond.arrayOver (.object C)).before a0 Z = true) (hd : decode bytes pc = .ok (.anewarray index, 3)) (hn : ¬ n < 0) (hcap : n.toNatClampNeg ≤ cap) (hb8 : cap * 8 ≤ 536870912) (hc : cells + 1 ≤ R.cells) (hl : slots + cap ≤ R.slots) (hp : pc + 3 = pc')
    (k : ∀ b T' h' kA, b = h.size → Wk p l e R s m args below meth c Z a0 EL n0 own nm bytes maxL ret T' vm0 h' (cells + 1) (slots + cap) → Keep h h' [] → CHr Z EL vm0 h vm0 h' → Mine Z EL n0 vm0 h' b → Arv Z h' b kA (.object C) n (List.replicate n.toNatClampNeg .null) .null → Ovr Z kA C → Go p e below s R Z EL n0 Q (T'.setTop (mkF m pc' Ls (.ref b :: st)))) : Go p e below s R Z EL n0 Q (T.setTop (mkF m pc Ls (.int n :: st))) := by
  have n0h := W.n0le
  obtain ⟨⟨k0, locs, X, hS, hk, N⟩, ⟨eT, hZ, hown, C⟩, hh⟩ := W
  obtain ⟨T', h', kA, X', e', E, A, O, st'⟩ := newR X hh.2.1 (show Z.Warmed39 (s.setVm vm0).vm from hZ) (own := own) hown w w2 eT (g := mkF m pc Ls (.int n :: st)) rfl (hb hh.2.2.1 hd) rfl hn hcap hb8 hc hl
  subst hp
  have Ch := CHr.ext E C.1
  have V := (Arv.new A hn).pad (vs' := [] ++ List.replicate n.toNatClampNeg .null) (pad_rep _ _ _)
  exact Go.up st' (k h.size T' h' kA rfl ⟨⟨k0, locs, X', hS, Nat.le_trans hk E.1, N⟩, ⟨e', hZ, hown, C.trans Ch⟩, hh⟩ ((Keep.refl h []).ext E) Ch ⟨n0h, A.lt, Safe.ext E C.1 (Safe.new (Nat.le_refl _))⟩ V O)
theorem s_putf (W : Wk p l e R s m args below meth c Z a0 EL n0 own nm bytes maxL ret T vm0 h cells slots) {R0 O n d C : String} {index kk : Nat} {ty : FieldType} (w : (Cond.fieldLink own index R0 n d).before a0 Z = true) (via : Via Z R0 O n d) {a : Addr} {v old : Value} (F : Fld Z h a O n d old) (E : Exa Z h a C) (M : Mine Z EL n0 vm0 h a) (L : (Cond.lays C O n d).before a0 Z = true ∨ ((Cond.laysFinal C O n d).before a0 Z = true ∧ own = O ∧ nm = "<init>")) (wi : (Cond.instantiable C kk).before a0 Z = true) (hty : parseFieldDescriptor d = some ty) (hn : narrow ty v = v) (hf : fits ty v = true) (hd : decode bytes pc = .ok (.putfield index, 3)) (hp : pc + 3 = pc')
    (k : ∀ T' h', Wk p l e R s m args below meth c Z a0 EL n0 own nm bytes maxL ret T' vm0 h' cells slots → Keep h h' [a] → CHr Z EL vm0 h vm0 h' → Wr h h' a (Jvm.RoadKit.slotOf Z O n d) v → Fld Z h' a O n d v → Go p e below s R Z EL n0 Q (T'.setTop (mkF m pc' Ls st))) : Go p e below s R Z EL n0 Q (T.setTop (mkF m pc Ls (v :: .ref a :: st))) := by
  have hnm := W.name
  obtain ⟨⟨k0, locs, X, hS, hk, N⟩, ⟨eT, hZ, hown, C⟩, hh⟩ := W
  subst hnm
  obtain ⟨T', h', X', e', Wr', st'⟩ := putF X hh.2.1 (show Z.Warmed39 (s.setVm vm0).vm from hZ) (own := own) (host := "") hown (Or.inl w) via eT F E L wi hty hn hf (g := mkF m pc Ls (v :: .ref a :: st)) rfl rfl (hb hh.2.2.1 hd)
  subst hp
  have Ch := CHr.wr Wr' M.2.2 C.1
  exact Go.up st' (k T' h' ⟨⟨k0, _, X', hS, Nat.le_trans hk Ch.2.1, Fr.snoc X' N M.1⟩, ⟨e', hZ, hown, C.trans Ch⟩, hh⟩ (Keep.of_wr Wr') Ch Wr' (F.same Wr'))
theorem s_putfn (W : Wk p l e R s m args below meth c Z a0 EL n0 own nm bytes maxL ret T vm0 h cells slots) {R0 O n d C : String} {index kk : Nat} {ty : FieldType} (w : (Cond.fieldLink own index R0 n d).before a0 Z = true) (via : Via Z R0 O n d) {a : Addr} {v v' old : Value} (F : Fld Z h a O n d old) (E : Exa Z h a C) (M : Mine Z EL n0 vm0 h a) (L : (Cond.lays C O n d).before a0 Z = true ∨ ((Cond.laysFinal C O n d).before a0 Z = true ∧ own = O ∧ nm = "<init>")) (wi : (Cond.instantiable C kk).before a0 Z = true) (hty : parseFieldDescriptor d = some ty) (hn : narrow ty v = v') (hf : fits ty v' = true) (hd : decode bytes pc = .ok (.putfield index, 3)) (hp : pc + 3 = pc')
    (k : ∀ T' h', Wk p l e R s m args below meth c Z a0 EL n0 own nm bytes maxL ret T' vm0 h' cells slots → Keep h h' [a] → CHr Z EL vm0 h vm0 h' → Wr h h' a (Jvm.RoadKit.slotOf Z O n d) v' → Fld Z h' a O n d v' → Go p e below s R Z EL n0 Q (T'.setTop (mkF m pc' Ls st))) : Go p e below s R Z EL n0 Q (T.setTop (mkF m pc Ls (v :: .ref a :: st))) := by
  have hnm := W.name
  obtain ⟨⟨k0, locs, X, hS, hk, N⟩, ⟨eT, hZ, hown, C⟩, hh⟩ := W
  subst hnm
  obtain ⟨T', h', X', e', Wr', st'⟩ := putFN X hh.2.1 (show Z.Warmed39 (s.setVm vm0).vm from hZ) (own := own) hown w via eT F E L wi hty hn hf (g := mkF m pc Ls (v :: .ref a :: st)) rfl rfl (hb hh.2.2.1 hd)
  subst hp
  have Ch := CHr.wr Wr' M.2.2 C.1
  exact Go.up st' (k T' h' ⟨⟨k0, _, X', hS, Nat.le_trans hk Ch.2.1, Fr.snoc X' N M.1⟩, ⟨e', hZ, hown, C.trans Ch⟩, hh⟩ (Keep.of_wr Wr') Ch Wr' (F.same Wr'))
theorem s_castore (W : Wk p l e R s m args below meth c Z a0 EL n0 own nm bytes maxL ret T vm0 h cells slots) {a : Addr} {kA : ClassId} {z j : Int32} {vs : List Value} {dv : Value} {x : Int32} (i : Nat) (V : Arv Z h a kA .char z vs dv) (M : Mine Z EL n0 vm0 h a) (hj : j.toNatClampNeg = i) (h0 : ¬ j < 0) (hz : j < z) (hi : i < vs.length) (hd : decode bytes pc = .ok (.castore, 1)) (hp : pc + 1 = pc')
    (k : ∀ T' h', Wk p l e R s m args below meth c Z a0 EL n0 own nm bytes maxL ret T' vm0 h' cells slots → Keep h h' [a] → CHr Z EL vm0 h vm0 h' → Arv Z h' a kA .char z (vs.set i (.int (nar .char x))) dv → Go p e below s R Z EL n0 Q (T'.setTop (mkF m pc' Ls st))) : Go p e below s R Z EL n0 Q (T.setTop (mkF m pc Ls (.int x :: .int j :: .ref a :: st))) := by
  obtain ⟨⟨k0, locs, X, hS, hk, N⟩, ⟨eT, hZ, hown, C⟩, hh⟩ := W
  obtain ⟨cl, A, q1, S, q3, H, G⟩ := V
  have hin : ¬ (j < 0 ∨ cl.slots.size ≤ j.toNatClampNeg) := inb_of S ⟨h0, hz⟩
  obtain ⟨T', h', X', e', Wr', st'⟩ := stC X hh.2.1 (show Z.Warmed39 (s.setVm vm0).vm from hZ) eT A hin (g := mkF m pc Ls (.int x :: .int j :: .ref a :: st)) rfl rfl (hb hh.2.2.1 hd)
  subst hp
  have Ch := CHr.wr Wr' M.2.2 C.1
  exact Go.up st' (k T' h' ⟨⟨k0, _, X', hS, Nat.le_trans hk Ch.2.1, Fr.snoc X' N M.1⟩, ⟨e', hZ, hown, C.trans Ch⟩, hh⟩ (Keep.of_wr Wr') Ch (Arv.set A q1 S q3 H G (fits_nar_char x) Wr' i hj hi))
theorem s_iastore (W : Wk p l e R s m args below meth c Z a0 EL n0 own nm bytes maxL ret T vm0 h cells slots) {a : Addr} {kA : ClassId} {z j : Int32} {vs : List Value} {dv : Value} {x : Int32} (i : Nat) (V : Arv Z h a kA .int z vs dv) (M : Mine Z EL n0 vm0 h a) (hj : j.toNatClampNeg = i) (h0 : ¬ j < 0) (hz : j < z) (hi : i < vs.length) (hd : decode bytes pc = .ok (.iastore, 1)) (hp : pc + 1 = pc')
    (k : ∀ T' h', Wk p l e R s m args below meth c Z a0 EL n0 own nm bytes maxL ret T' vm0 h' cells slots → Keep h h' [a] → CHr Z EL vm0 h vm0 h' → Arv Z h' a kA .int z (vs.set i (.int x)) dv → Go p e below s R Z EL n0 Q (T'.setTop (mkF m pc' Ls st))) : Go p e below s R Z EL n0 Q (T.setTop (mkF m pc Ls (.int x :: .int j :: .ref a :: st))) := by
  obtain ⟨⟨k0, locs, X, hS, hk, N⟩, ⟨eT, hZ, hown, C⟩, hh⟩ := W
  obtain ⟨cl, A, q1, S, q3, H, G⟩ := V
  have hin : ¬ (j < 0 ∨ cl.slots.size ≤ j.toNatClampNeg) := inb_of S ⟨h0, hz⟩
  obtain ⟨T', h', X', e', Wr', st'⟩ := stI X hh.2.1 (show Z.Warmed39 (s.setVm vm0).vm from hZ) eT A hin (g := mkF m pc Ls (.int x :: .int j :: .ref a :: st)) rfl rfl (hb hh.2.2.1 hd)
  subst hp
  have Ch := CHr.wr Wr' M.2.2 C.1
  exact Go.up st' (k T' h' ⟨⟨k0, _, X', hS, Nat.le_trans hk Ch.2.1, Fr.snoc X' N M.1⟩, ⟨e', hZ, hown, C.trans Ch⟩, hh⟩ (Keep.of_wr Wr') Ch (Arv.set A q1 S q3 H G rfl Wr' i hj hi))
theorem s_bastore (W : Wk p l e R s m args below meth c Z a0 EL n0 own nm bytes maxL ret T vm0 h cells slots) {a : Addr} {kA : ClassId} {z j : Int32} {vs : List Value} {dv : Value} {x : Int32} (i : Nat) (V : Arv Z h a kA .byte z vs dv) (M : Mine Z EL n0 vm0 h a) (hj : j.toNatClampNeg = i) (h0 : ¬ j < 0) (hz : j < z) (hi : i < vs.length) (hd : decode bytes pc = .ok (.bastore, 1)) (hp : pc + 1 = pc')
    (k : ∀ T' h', Wk p l e R s m args below meth c Z a0 EL n0 own nm bytes maxL ret T' vm0 h' cells slots → Keep h h' [a] → CHr Z EL vm0 h vm0 h' → Arv Z h' a kA .byte z (vs.set i (.int x.toInt8.toInt32)) dv → Go p e below s R Z EL n0 Q (T'.setTop (mkF m pc' Ls st))) : Go p e below s R Z EL n0 Q (T.setTop (mkF m pc Ls (.int x :: .int j :: .ref a :: st))) := by
  obtain ⟨⟨k0, locs, X, hS, hk, N⟩, ⟨eT, hZ, hown, C⟩, hh⟩ := W
  obtain ⟨cl, A, q1, S, q3, H, G⟩ := V
  have hin : ¬ (j < 0 ∨ cl.slots.size ≤ j.toNatClampNeg) := inb_of S ⟨h0, hz⟩
  obtain ⟨T', h', X', e', Wr', st'⟩ := stB X hh.2.1 (show Z.Warmed39 (s.setVm vm0).vm from hZ) eT A hin (g := mkF m pc Ls (.int x :: .int j :: .ref a :: st)) rfl rfl (hb hh.2.2.1 hd)
  subst hp
  have Ch := CHr.wr Wr' M.2.2 C.1
  exact Go.up st' (k T' h' ⟨⟨k0, _, X', hS, Nat.le_trans hk Ch.2.1, Fr.snoc X' N M.1⟩, ⟨e', hZ, hown, C.trans Ch⟩, hh⟩ (Keep.of_wr Wr') Ch (Arv.set A q1 S q3 H G (fits_nar_byte x) Wr' i hj hi))
theorem s_lastore (W : Wk p l e R s m args below meth c Z a0 EL n0 own nm bytes maxL ret T vm0 h cells slots) {a : Addr} {kA : ClassId} {z j : Int32} {vs : List Value} {dv : Value} {x : Int64} (i : Nat) (V : Arv Z h a kA .long z vs dv) (M : Mine Z EL n0 vm0 h a) (hj : j.toNatClampNeg = i) (h0 : ¬ j < 0) (hz : j < z) (hi : i < vs.length) (hd : decode bytes pc = .ok (.lastore, 1)) (hp : pc + 1 = pc')
    (k : ∀ T' h', Wk p l e R s m args below meth c Z a0 EL n0 own nm bytes maxL ret T' vm0 h' cells slots → Keep h h' [a] → CHr Z EL vm0 h vm0 h' → Arv Z h' a kA .long z (vs.set i (.long x)) dv → Go p e below s R Z EL n0 Q (T'.setTop (mkF m pc' Ls st))) : Go p e below s R Z EL n0 Q (T.setTop (mkF m pc Ls (.long x :: .int j :: .ref a :: st))) := by
  obtain ⟨⟨k0, locs, X, hS, hk, N⟩, ⟨eT, hZ, hown, C⟩, hh⟩ := W
  obtain ⟨cl, A, q1, S, q3, H, G⟩ := V
  have hin : ¬ (j < 0 ∨ cl.slots.size ≤ j.toNatClampNeg) := inb_of S ⟨h0, hz⟩
  obtain ⟨T', h', X', e', Wr', st'⟩ := stJ X hh.2.1 (show Z.Warmed39 (s.setVm vm0).vm from hZ) eT A hin (g := mkF m pc Ls (.long x :: .int j :: .ref a :: st)) rfl rfl (hb hh.2.2.1 hd)
  subst hp
  have Ch := CHr.wr Wr' M.2.2 C.1
  exact Go.up st' (k T' h' ⟨⟨k0, _, X', hS, Nat.le_trans hk Ch.2.1, Fr.snoc X' N M.1⟩, ⟨e', hZ, hown, C.trans Ch⟩, hh⟩ (Keep.of_wr Wr') Ch (Arv.set A q1 S q3 H G rfl Wr' i hj hi))
theorem s_aastore (W : Wk p l e R s m args below meth c Z a0 EL n0 own nm bytes maxL ret T vm0 h cells slots) {a : Addr} {kA : ClassId} {z j : Int32} {vs : List Value} {dv v : Value} {ty : FieldType} (i : Nat) (V : Arv Z h a kA ty z vs dv) (hty : ty.isReference = true) (hv : fits ty v = true) (F : Sto Z h a v) (M : Mine Z EL n0 vm0 h a) (hj : j.toNatClampNeg = i) (h0 : ¬ j < 0) (hz : j < z) (hi : i < vs.length) (hd : decode bytes pc = .ok (.aastore, 1)) (hp : pc + 1 = pc')
    (k : ∀ T' h', Wk p l e R s m args below meth c Z a0 EL n0 own nm bytes maxL ret T' vm0 h' cells slots → Keep h h' [a] → CHr Z EL vm0 h vm0 h' → Arv Z h' a kA ty z (vs.set i v) dv → Go p e below s R Z EL n0 Q (T'.setTop (mkF m pc' Ls st))) : Go p e below s R Z EL n0 Q (T.setTop (mkF m pc Ls (v :: .int j :: .ref a :: st))) := by
  obtain ⟨⟨k0, locs, X, hS, hk, N⟩, ⟨eT, hZ, hown, C⟩, hh⟩ := W
  obtain ⟨cl, A, q1, S, q3, H, G⟩ := V
  have hin : ¬ (j < 0 ∨ cl.slots.size ≤ j.toNatClampNeg) := inb_of S ⟨h0, hz⟩
  obtain ⟨T', h', X', e', Wr', st'⟩ := stR X hh.2.1 (show Z.Warmed39 (s.setVm vm0).vm from hZ) eT A hin hty F (g := mkF m pc Ls (v :: .int j :: .ref a :: st)) rfl rfl (hb hh.2.2.1 hd)
  subst hp
  have Ch := CHr.wr Wr' M.2.2 C.1
  exact Go.up st' (k T' h' ⟨⟨k0, _, X', hS, Nat.le_trans hk Ch.2.1, Fr.snoc X' N M.1⟩, ⟨e', hZ, hown, C.trans Ch⟩, hh⟩ (Keep.of_wr Wr') Ch (Arv.set A q1 S q3 H G hv Wr' i hj hi))
theorem s_iaload (W : Wk p l e R s m args below meth c Z a0 EL n0 own nm bytes maxL ret T vm0 h cells slots) {a : Addr} {kA : ClassId} {z j : Int32} {vs : List Value} {dv : Value} (v : Value) (V : Arv Z h a kA .int z vs dv) (h0 : ¬ j < 0) (hz : j < z) (hv : vs.getD j.toNatClampNeg dv = v) (hd : decode bytes pc = .ok (.iaload, 1)) (hp : pc + 1 = pc') (k : Go p e below s R Z EL n0 Q (T.setTop (mkF m pc' Ls (v :: st)))) : Go p e below s R Z EL n0 Q (T.setTop (mkF m pc Ls (.int j :: .ref a :: st))) := by
  obtain ⟨⟨k0, locs, X, hS, hk, N⟩, ⟨eT, hZ, hown, C⟩, hh⟩ := W
  obtain ⟨cl, A, q1, S, q3, H, G⟩ := V
  have hin : ¬ (j < 0 ∨ cl.slots.size ≤ j.toNatClampNeg) := inb_of S ⟨h0, hz⟩
  subst hp
  exact Go.up (fun t q => X.iaload hh.2.1 (j := j) (v := v) (by rw [eT]; exact A.1) (State.isArrayOf_alike (show Z.vm.Alike (s.setVm vm0).vm from hZ.alike) A.2.1) A.2.2 hin (H.at hin hv) (g := mkF m pc Ls (.int j :: .ref a :: st)) rfl rfl (hb hh.2.2.1 hd) t q) k
theorem s_caload (W : Wk p l e R s m args below meth c Z a0 EL n0 own nm bytes maxL ret T vm0 h cells slots) {a : Addr} {kA : ClassId} {z j : Int32} {vs : List Value} {dv : Value} (v : Value) (V : Arv Z h a kA .char z vs dv) (h0 : ¬ j < 0) (hz : j < z) (hv : vs.getD j.toNatClampNeg dv = v) (hd : decode bytes pc = .ok (.caload, 1)) (hp : pc + 1 = pc') (k : Go p e below s R Z EL n0 Q (T.setTop (mkF m pc' Ls (v :: st)))) : Go p e below s R Z EL n0 Q (T.setTop (mkF m pc Ls (.int j :: .ref a :: st))) := by
  obtain ⟨⟨k0, locs, X, hS, hk, N⟩, ⟨eT, hZ, hown, C⟩, hh⟩ := W
  obtain ⟨cl, A, q1, S, q3, H, G⟩ := V
  have hin : ¬ (j < 0 ∨ cl.slots.size ≤ j.toNatClampNeg) := inb_of S ⟨h0, hz⟩
  subst hp
  exact Go.up (fun t q => X.caload hh.2.1 (j := j) (v := v) (by rw [eT]; exact A.1) (State.isArrayOf_alike (show Z.vm.Alike (s.setVm vm0).vm from hZ.alike) A.2.1) A.2.2 hin (H.at hin hv) (g := mkF m pc Ls (.int j :: .ref a :: st)) rfl rfl (hb hh.2.2.1 hd) t q) k
theorem s_baload (W : Wk p l e R s m args below meth c Z a0 EL n0 own nm bytes maxL ret T vm0 h cells slots) {a : Addr} {kA : ClassId} {z j : Int32} {vs : List Value} {dv : Value} (v : Value) (V : Arv Z h a kA .byte z vs dv) (h0 : ¬ j < 0) (hz : j < z) (hv : vs.getD j.toNatClampNeg dv = v) (hd : decode bytes pc = .ok (.baload, 1)) (hp : pc + 1 = pc') (k : Go p e below s R Z EL n0 Q (T.setTop (mkF m pc' Ls (v :: st)))) : Go p e below s R Z EL n0 Q (T.setTop (mkF m pc Ls (.int j :: .ref a :: st))) := by
  obtain ⟨⟨k0, locs, X, hS, hk, N⟩, ⟨eT, hZ, hown, C⟩, hh⟩ := W
  obtain ⟨cl, A, q1, S, q3, H, G⟩ := V
  have hin : ¬ (j < 0 ∨ cl.slots.size ≤ j.toNatClampNeg) := inb_of S ⟨h0, hz⟩
  subst hp
  exact Go.up (fun t q => X.baloadBytes hh.2.1 (j := j) (v := v) (by rw [eT]; exact A.1) (State.isArrayOf_alike (show Z.vm.Alike (s.setVm vm0).vm from hZ.alike) A.2.1) A.2.2 hin (H.at hin hv) (g := mkF m pc Ls (.int j :: .ref a :: st)) rfl rfl (hb hh.2.2.1 hd) t q) k
theorem s_laload (W : Wk p l e R s m args below meth c Z a0 EL n0 own nm bytes maxL ret T vm0 h cells slots) {a : Addr} {kA : ClassId} {z j : Int32} {vs : List Value} {dv : Value} (v : Value) (V : Arv Z h a kA .long z vs dv) (h0 : ¬ j < 0) (hz : j < z) (hv : vs.getD j.toNatClampNeg dv = v) (hd : decode bytes pc = .ok (.laload, 1)) (hp : pc + 1 = pc') (k : Go p e below s R Z EL n0 Q (T.setTop (mkF m pc' Ls (v :: st)))) : Go p e below s R Z EL n0 Q (T.setTop (mkF m pc Ls (.int j :: .ref a :: st))) := by
  obtain ⟨⟨k0, locs, X, hS, hk, N⟩, ⟨eT, hZ, hown, C⟩, hh⟩ := W
  obtain ⟨cl, A, q1, S, q3, H, G⟩ := V
  have hin : ¬ (j < 0 ∨ cl.slots.size ≤ j.toNatClampNeg) := inb_of S ⟨h0, hz⟩
  subst hp
  exact Go.up (fun t q => X.laload hh.2.1 (j := j) (v := v) (by rw [eT]; exact A.1) (State.isArrayOf_alike (show Z.vm.Alike (s.setVm vm0).vm from hZ.alike) A.2.1) A.2.2 hin (H.at hin hv) (g := mkF m pc Ls (.int j :: .ref a :: st)) rfl rfl (hb hh.2.2.1 hd) t q) k
theorem s_aaload (W : Wk p l e R s m args below meth c Z a0 EL n0 own nm bytes maxL ret T vm0 h cells slots) {a : Addr} {kA : ClassId} {z j : Int32} {vs : List Value} {dv : Value} {ty : FieldType} (v : Value) (V : Arv Z h a kA ty z vs dv) (hty : ty.isReference = true) (h0 : ¬ j < 0) (hz : j < z) (hv : vs.getD j.toNatClampNeg dv = v) (hd : decode bytes pc = .ok (.aaload, 1)) (hp : pc + 1 = pc') (k : Go p e below s R Z EL n0 Q (T.setTop (mkF m pc' Ls (v :: st)))) : Go p e below s R Z EL n0 Q (T.setTop (mkF m pc Ls (.int j :: .ref a :: st))) := by
  obtain ⟨⟨k0, locs, X, hS, hk, N⟩, ⟨eT, hZ, hown, C⟩, hh⟩ := W
  obtain ⟨cl, A, q1, S, q3, H, G⟩ := V
  have hin : ¬ (j < 0 ∨ cl.slots.size ≤ j.toNatClampNeg) := inb_of S ⟨h0, hz⟩
  subst hp
  exact Go.up (fun t q => X.aaload hh.2.1 (j := j) (v := v) (by rw [eT]; exact A.1) (State.isArrayOf_alike (show Z.vm.Alike (s.setVm vm0).vm from hZ.alike) A.2.1) hty A.2.2 hin (H.at hin hv) (g := mkF m pc Ls (.int j :: .ref a :: st)) rfl rfl (hb hh.2.2.1 hd) t q) k
theorem s_alen (W : Wk p l e R s m args below meth c Z a0 EL n0 own nm bytes maxL ret T vm0 h cells slots) {a : Addr} {kA : ClassId} {z : Int32} {vs : List Value} {dv : Value} {ty : FieldType} (V : Arv Z h a kA ty z vs dv) (hd : decode bytes pc = .ok (.arraylength, 1)) (hp : pc + 1 = pc') (k : Go p e below s R Z EL n0 Q (T.setTop (mkF m pc' Ls (.int z :: st)))) : Go p e below s R Z EL n0 Q (T.setTop (mkF m pc Ls (.ref a :: st))) := by
  obtain ⟨⟨k0, locs, X, hS, hk, N⟩, ⟨eT, hZ, hown, C⟩, hh⟩ := W
  obtain ⟨cl, A, q1, S, q3, H, G⟩ := V
  subst hp
  have ez := len_of S q3
  refine Go.up (fun t q => X.arraylength hh.2.1 (by rw [eT]; exact A.1) (State.isArrayOf_alike (show Z.vm.Alike (s.setVm vm0).vm from hZ.alike) A.2.1) (g := mkF m pc Ls (.ref a :: st)) rfl rfl (hb hh.2.2.1 hd) t q) ?_
  rw [ez]; exact k
theorem s_objinit (W : Wk p l e R s m args below meth c Z a0 EL n0 own nm bytes maxL ret T vm0 h cells slots) {idx : Nat} (w1 : (Cond.methodLink own idx Lib.objectInit).before a0 Z = true) (w2 : (Cond.instanceMethod Lib.objectInit).before a0 Z = true) (w3 : (Cond.code Lib.objectInit ⟨#[0xb1]⟩ 1 none).before a0 Z = true) {a : Addr} (hsz : Ls.size = maxL) (hd : decode bytes pc = .ok (.invokespecial idx, 3)) (Wd : Nat) (hWd : (st.map fun v => v.category).sum ≤ Wd) (hf : 1 ≤ R.frames) (hl : Wd + 12 ≤ R.locals) (hp : pc + 3 = pc') (k : ∀ T', Wk p l e R s m args below meth c Z a0 EL n0 own nm bytes maxL ret T' vm0 h cells slots → Go p e below s R Z EL n0 Q (T'.setTop (mkF m pc' Ls st))) : Go p e below s R Z EL n0 Q (T.setTop (mkF m pc Ls (.ref a :: st))) := by
  obtain ⟨⟨k0, locs, X, hS, hk, N⟩, ⟨eT, hZ, hown, C⟩, hh⟩ := W
  obtain ⟨T', X', e', st'⟩ := initO X hh.2.1 (show Z.Warmed39 (s.setVm vm0).vm from hZ) (own := own) hown w1 w2 w3 eT (g := mkF m pc Ls (.ref a :: st)) rfl (hsz.trans hh.2.2.2.1.symm) rfl (hb hh.2.2.1 hd) hf (W := Wd) (by show 2 * 0 + _ ≤ _; omega) hl
  subst hp
  exact Go.up st' (k T' ⟨⟨k0, locs, X', hS, hk, N⟩, ⟨e', hZ, hown, C⟩, hh⟩)

theorem s_ldcS (W : Wk p l e R s m args below meth c Z a0 EL n0 own nm bytes maxL ret T vm0 h cells slots) {index : Nat} {text : String} (n : Nat) (w : (Cond.stringLink own index text).before a0 Z = true) (wS : ∀ a ∈ Bundle.stringAtoms, a.before a0 Z = true) (hmem : (own, index) ∈ EL) {vs : List Value} {z : Int32} (ht : (∀ c ∈ text.toList, c.toNat < 256) ∧ text.toList.map (fun c => Value.int (Jvm.Lit.byteI c.toNat.toUInt16)) = vs) (hz : ¬ z < 0) (hlz : z.toNatClampNeg = vs.length) (hd : decode bytes pc = .ok (.ldc index, 2)) (hn : 4 * text.toList.length ≤ n) (hbig : n ≤ 536870912) (hc : cells + 2 ≤ R.cells) (hl' : slots + (n + 4) ≤ R.slots) (hp : pc + 2 = pc')
    (k : ∀ a b kB T' vm' h', Wk p l e R s m args below meth c Z a0 EL n0 own nm bytes maxL ret T' vm' h' (cells + 2) (slots + (n + 4)) → Keep h h' [] → CHr Z EL vm0 h vm' h' → Exa Z h' a "java/lang/String" → Fld Z h' a "java/lang/String" "coder" "B" (.int 0) → Fld Z h' a "java/lang/String" "value" "[B" (.ref b) → Arv Z h' b kB .byte z vs (.int 0) → (∀ x, Safe Z EL vm' h' x → x ≠ a ∧ x ≠ b) → Go p e below s R Z EL n0 Q (T'.setTop (mkF m pc' Ls (.ref a :: st)))) : Go p e below s R Z EL n0 Q (T.setTop (mkF m pc Ls st)) := by
  obtain ⟨⟨k0, locs, X, hS, hk, N⟩, ⟨eT, hZ, hown, C⟩, hh⟩ := W
  obtain ⟨a, T', h', k1, b, kB, X', e', E, hS', hk', hZ', hown', x1, x2, x3, x4, -, -, Ch, -, hne, st'⟩ := ldcCH X hh.2.1 hZ (own := own) hown w wS eT hS.1 hk hh.2.2.2.2.2.2.2 hmem C.1 ht hz hlz (g := mkF m pc Ls st) rfl (hb hh.2.2.1 hd) hn hbig hc hl'
  subst hp
  exact Go.up st' (k a b kB T' T'.vm h' ⟨⟨k1, locs, X', ⟨hS', fun q => absurd q (by decide)⟩, hk', N⟩, ⟨e', hZ', hown', C.trans Ch⟩, hh⟩ ((Keep.refl h []).ext E) Ch x1 x2 x3 x4 hne)
theorem s_ldcO (W : Wk p l e R s m args below meth c Z a0 EL n0 own nm bytes maxL ret T vm0 h cells slots) {index : Nat} {text : String} (n : Nat) (w : (Cond.stringLink own index text).before a0 Z = true) (wS : ∀ a ∈ Bundle.stringAtoms, a.before a0 Z = true) (hd : decode bytes pc = .ok (.ldc index, 2)) (hn : 4 * text.toList.length ≤ n) (hbig : n ≤ 536870912) (hc : cells + 2 ≤ R.cells) (hl' : slots + (n + 4) ≤ R.slots) (hp : pc + 2 = pc')
    (k : ∀ a T' vm' h', Wk p l e R s m args below meth c Z a0 EL n0 own nm bytes maxL ret T' vm' h' (cells + 2) (slots + (n + 4)) → Keep h h' [] → CHr Z EL vm0 h vm' h' → Go p e below s R Z EL n0 Q (T'.setTop (mkF m pc' Ls (.ref a :: st)))) : Go p e below s R Z EL n0 Q (T.setTop (mkF m pc Ls st)) := by
  obtain ⟨⟨k0, locs, X, hS, hk, N⟩, ⟨eT, hZ, hown, C⟩, hh⟩ := W
  obtain ⟨a, T', h', k1, X', e', E, hS', hk', hZ', hown', Ch, -, st'⟩ := ldcOH X hh.2.1 hZ (own := own) hown w wS eT hS.1 hk hh.2.2.2.2.2.2.2 C.1 (g := mkF m pc Ls st) rfl (hb hh.2.2.1 hd) hn hbig hc hl'
  subst hp
  exact Go.up st' (k a T' T'.vm h' ⟨⟨k1, locs, X', ⟨hS', fun q => absurd q (by decide)⟩, hk', N⟩, ⟨e', hZ', hown', C.trans Ch⟩, hh⟩ ((Keep.refl h []).ext E) Ch)


theorem Con.back {y : MethodName} {bytes' : ByteArray} {maxL' : Nat} {ret' : Option FieldType} {rm : Room} {len W : Nat} {as' : Array Value} {S : List Addr} {Q' : Option Value → Vm → Heap → Prop}
    (hM : Con l Z EL n0 y bytes' maxL' ret' [] rm as' h S Q') (hZ : Z.Warmed39 vm0) (wc : (Cond.code y bytes' maxL' ret').before a0 Z = true) (wz : (Cond.initialized y.cls).before a0 Z = true) (hf : rm.frames + 1 ≤ R.frames) (hl : W + (maxL' + 11) + rm.locals ≤ R.locals) (hEL : EW Z a0 EL) (H : CHv Z EL vm0 h) (hS : ∀ x ∈ S, x < h.size ∧ Safe Z EL vm0 h x) :
    BackS l R p e below (s.setVm vm0) args y len W (fun A a => a = as' ∧ A.U.heap = h ∧ A.cells + rm.cells ≤ R.cells ∧ A.slots + rm.slots ≤ R.slots)
      (fun A _ v B => ∃ L, Q' v B.U.vm B.U.heap ∧ Fr n0 L ∧ B.locs = A.locs ++ L ∧ B.cells = A.cells + rm.cells ∧ B.slots = A.slots + rm.slots ∧ CHr Z EL vm0 h B.U.vm B.U.heap ∧ (NW = true → (s.setVm vm0).WarmedH B.U.vm)) :=
  BackS.of_freeW (bytes := bytes') (maxL := maxL') (ret := ret') (E := fun _ first o t L k n => k = rm.cells ∧ n = rm.slots ∧ (∃ v, o = .returned v ∧ Q' v t.vm t.heap) ∧ Fr n0 L ∧ CHr Z EL first.vm first.heap t.vm t.heap ∧ (NW = true → first.WarmedH t.vm)) hM hf hl
    (fun m meth c A a Y hp => have hU : Z.Warmed39 A.U.vm := wtrans (s := s.setVm vm0) hZ Y.warmed
      ⟨by show (Cond.and _ .tt).before a A.U = true; rw [Cond.before_and, mv hU wc]; rfl, mv hU wc, mv hU wz, hp.2.2.1, hp.2.2.2⟩)
    (fun m meth c A a g mk Y hp => ⟨hp.1, wtrans (s := s.setVm vm0) hZ Y.warmed, hp.2.1, (CHv.at Y hZ hEL H).1, fun x hx => (CHv.at Y hZ hEL H).safe (hS x hx).1 (hS x hx).2⟩) (fun _ _ _ _ _ _ _ _ _ => trivial)
    (fun _ _ _ _ ⟨v, L, h1, h2, h3, h4, h5⟩ => ⟨L, _, _, h5.1, rfl, rfl, ⟨v, h1, h2⟩, h3, h4, h5.2⟩)
    (fun m meth c A a g mk v t L k n Y hp _ _ ⟨e1, e2, ⟨v', e3, e4⟩, e5, e6, e7⟩ => by
      cases e3; subst e1 e2
      refine ⟨L, e4, e5, rfl, rfl, rfl, (CHv.at Y hZ hEL H).trans ?_, fun q => State.WarmedH.trans (t := A.U) Y.warmed (e7 q)⟩
      rw [← hp.2.1]; exact e6)
theorem Con.of {y : MethodName} {bytes' : ByteArray} {maxL' : Nat} {ret' : Option FieldType} {ws : List Cond} {rm : Room} {as' : Array Value} {S : List Addr} {Q' : Option Value → Vm → Heap → Prop} (hpl : plainFor y = true) (O : Old Z n0 h) (hEL : EW Z a0 EL)
    (hbody : ∀ p e s m below meth c T, Wk p l e rm s m as' below meth c Z a0 EL n0 y.cls y.name bytes' maxL' ret' T s.vm h 0 0 → s.heap = h → (∀ x ∈ S, Safe Z EL s.vm h x) → Go p e below s rm Z EL n0 Q' (T.setTop (entryFrame m as' maxL'))) :
    Con l Z EL n0 y bytes' maxL' ret' ws rm as' h S Q' := by
  refine MetFree.of_bodySF hpl hisR ?_
  intro p e s m args below meth c s₁ Bd hml hP hK
  obtain ⟨rfl, hZ, rfl, hC, hSafe⟩ := hP
  have hown : s.vm.findClass y.cls = some m.cls := findClass_of_methodNamed Bd.named
  have hnm := (name_of_methodNamed Bd.named Bd.method).1
  have X0 : Stand p l e rm s m args below meth c s₁ [] 0 0 := Stand.of_body Bd
  have e0 : s₁.heap = s.heap := by rw [Bd.state]; rfl
  exact hbody p e s m below meth c s₁ ⟨⟨0, [], X0, ⟨(State.WarmedH.refl s).since 0, fun _ => State.WarmedH.refl s⟩, Nat.zero_le _, Fr.nil n0⟩, ⟨e0, hZ, hown, CHr.refl hC⟩, O, Bd.exec, Bd.bytes, hml, Bd.returns, Bd.notSynchronized, hnm, hEL⟩ rfl hSafe

theorem nf_mv {y : MethodName} (hZ : Z.Warmed39 vm0) (wf : NotFace Z y) : NotFace (s.setVm vm0) y := fun r0 h0 => by
  have q : (Z.setVm vm0).methodNamed? y = Z.methodNamed? y := State.methodNamed?_setVm hZ.alike y
  have h0' : Z.methodNamed? y = some r0 := q.symm.trans h0
  obtain ⟨kr, hkr, hn⟩ := wf r0 h0'
  obtain ⟨k', q1, q2⟩ := hZ.alike.2.2 _ _ hkr
  exact ⟨k', q1, by rw [q2]; exact hn⟩
theorem PrivateAt.of_word {y : MethodName} {args : Array Value} {s : State} (w : (Cond.privateMethod y).before args s = true) : s.PrivateAt y := Cond.privateMethod_at w
theorem s_static (W : Wk p l e R s m args below meth c Z a0 EL n0 own nm bytes maxL ret T vm0 h cells slots) {index : Nat} {y : MethodName} {bytes' : ByteArray} {maxL' : Nat} {ret' : Option FieldType} {rm : Room} {S : List Addr} {Q' : Option Value → Vm → Heap → Prop} (w1 : (Cond.methodLink own index y).before a0 Z = true) (w2 : (Cond.static y).before a0 Z = true) (wz : (Cond.initialized y.cls).before a0 Z = true) (wc : (Cond.code y bytes' maxL' ret').before a0 Z = true) (hy : y.cls ≠ "java/lang/invoke/MethodHandle" ∧ y.cls ≠ "java/lang/invoke/VarHandle") {ps : List FieldType} {r : Option FieldType} (pd : parseMethodDescriptor y.desc = some ⟨ps, r⟩) (argsL : List Value) (hln : argsL.length = ps.length) (hM : Con l Z EL n0 y bytes' maxL' ret' [] rm argsL.toArray h S Q') (hSf : ∀ x ∈ S, x < h.size ∧ Safe Z EL vm0 h x) (hsz : Ls.size = maxL) (hd : decode bytes pc = .ok (.invokestatic index, 3)) (Wd : Nat) (hWd : (st.map fun v => v.category).sum ≤ Wd) (hf : rm.frames + 1 ≤ R.frames) (hlo : Wd + (maxL' + 11) + rm.locals ≤ R.locals) (hc : cells + rm.cells ≤ R.cells) (hl : slots + rm.slots ≤ R.slots) (hp : pc + 3 = pc')
    (k : ∀ v T' vm' h', Wk p l e R s m args below meth c Z a0 EL n0 own nm bytes maxL ret T' vm' h' (cells + rm.cells) (slots + rm.slots) → CHr Z EL vm0 h vm' h' → Q' v vm' h' → Go p e below s R Z EL n0 Q (T'.setTop (mkF m pc' Ls (v.toList ++ st)))) : Go p e below s R Z EL n0 Q (T.setTop (mkF m pc Ls (argsL.reverse ++ st))) := by
  obtain ⟨⟨k0, locs, X, hS, hk, N⟩, ⟨eT, hZ, hown, C⟩, hh⟩ := W
  obtain ⟨v, vm1, ⟨U, L1, c1, n1⟩, hW1, X', hS1, hgr, ⟨L, hQ, hF, hL, hcc, hnn, hC, hNW⟩, hsteps⟩ := callSS X hh.2.1 (own := own) (index := index) (y := y) (bytes := bytes') (maxL := maxL') (ret := ret') hown (mv (s := s.setVm vm0) hZ w1) (mv (s := s.setVm vm0) hZ w2) (mv (s := s.setVm vm0) hZ wz) (mv (s := s.setVm vm0) hZ wc) hy (hM.back (p := p) (e := e) (below := below) (args := args) (len := 3) (R := R) (s := s) (W := Wd) hZ wc wz hf hlo hh.2.2.2.2.2.2.2 C.1 hSf) (g := mkF m pc Ls (argsL.reverse ++ st)) rfl (hsz.trans hh.2.2.2.1.symm) (argsL := argsL) (rest := st) (lenOf pd hln) rfl (by show 2 * 0 + _ ≤ _; omega) (hb hh.2.2.1 hd) (fun _ _ => ⟨rfl, eT, hc, hl⟩)
  dsimp only [Pt.U, Pt.locs, Pt.cells, Pt.slots] at X' hS1 hgr hQ hL hcc hnn hC hNW hsteps
  subst hL hcc hnn hp
  have hZ' : Z.Warmed39 U.vm := State.Warmed39.trans (t := s.setVm vm0) hZ hS1.1
  have hown' : U.vm.findClass own = some m.cls := (hS1.1.alike.findClass _ _).trans hown
  rw [eT] at hgr
  exact Go.up (fun t q => hsteps.trans q) (k v U U.vm U.heap ⟨⟨_, _, X', ⟨hS.1.trans hS1 (Nat.le_trans hk hgr), fun q => State.WarmedH.trans (t := s.setVm vm0) (hS.2 q) (hNW q)⟩, Nat.le_refl _, N.app hF⟩, ⟨rfl, hZ', hown', C.trans hC⟩, hh⟩ hC hQ)
theorem s_init (W : Wk p l e R s m args below meth c Z a0 EL n0 own nm bytes maxL ret T vm0 h cells slots) {index : Nat} {y : MethodName} {bytes' : ByteArray} {maxL' : Nat} {rm : Room} {S : List Addr} {Q' : Option Value → Vm → Heap → Prop} (hy1 : y.name = "<init>") (w1 : (Cond.methodLink own index y).before a0 Z = true) (w2 : (Cond.instanceMethod y).before a0 Z = true) (wz : (Cond.initialized y.cls).before a0 Z = true) (wc : (Cond.code y bytes' maxL' none).before a0 Z = true) (hy : y.cls ≠ "java/lang/invoke/MethodHandle" ∧ y.cls ≠ "java/lang/invoke/VarHandle") {ps : List FieldType} {r : Option FieldType} (pd : parseMethodDescriptor y.desc = some ⟨ps, r⟩) (argsL : List Value) (hln : argsL.length = ps.length) {a : Addr} (hM : Con l Z EL n0 y bytes' maxL' none [] rm (.ref a :: argsL).toArray h S Q') (hSf : ∀ x ∈ S, x < h.size ∧ Safe Z EL vm0 h x) (hsz : Ls.size = maxL) (hd : decode bytes pc = .ok (.invokespecial index, 3)) (Wd : Nat) (hWd : (st.map fun v => v.category).sum ≤ Wd) (hf : rm.frames + 1 ≤ R.frames) (hlo : Wd + (maxL' + 11) + rm.locals ≤ R.locals) (hc : cells + rm.cells ≤ R.cells) (hl : slots + rm.slots ≤ R.slots) (hp : pc + 3 = pc')
    (k : ∀ v T' vm' h', Wk p l e R s m args below meth c Z a0 EL n0 own nm bytes maxL ret T' vm' h' (cells + rm.cells) (slots + rm.slots) → CHr Z EL vm0 h vm' h' → Q' v vm' h' → Go p e below s R Z EL n0 Q (T'.setTop (mkF m pc' Ls (v.toList ++ st)))) : Go p e below s R Z EL n0 Q (T.setTop (mkF m pc Ls (argsL.reverse ++ .ref a :: st))) := by
  obtain ⟨⟨k0, locs, X, hS, hk, N⟩, ⟨eT, hZ, hown, C⟩, hh⟩ := W
  obtain ⟨v, vm1, ⟨U, L1, c1, n1⟩, hW1, X', hS1, hgr, ⟨L, hQ, hF, hL, hcc, hnn, hC, hNW⟩, hsteps⟩ := X.specialBackS hh.2.1 (own := own) (index := index) (y := y) hy1 hown (mv (s := s.setVm vm0) hZ w1) (mv (s := s.setVm vm0) hZ w2) (bytes := bytes') (maxL := maxL') (mv (s := s.setVm vm0) hZ wc) hy (hM.back (p := p) (e := e) (below := below) (args := args) (len := 3) (R := R) (s := s) (W := Wd) hZ wc wz hf hlo hh.2.2.2.2.2.2.2 C.1 hSf) (g := mkF m pc Ls (argsL.reverse ++ .ref a :: st)) rfl (hsz.trans hh.2.2.2.1.symm) (Steps.refl _) (a := a) (argsL := argsL) (rest := st) (lenOf pd hln) rfl (by show 2 * 0 + _ ≤ _; omega) (hb hh.2.2.1 hd) (fun _ _ => ⟨rfl, eT, hc, hl⟩)
  dsimp only [Pt.U, Pt.locs, Pt.cells, Pt.slots] at X' hS1 hgr hQ hL hcc hnn hC hNW hsteps
  subst hL hcc hnn hp
  have hZ' : Z.Warmed39 U.vm := State.Warmed39.trans (t := s.setVm vm0) hZ hS1.1
  have hown' : U.vm.findClass own = some m.cls := (hS1.1.alike.findClass _ _).trans hown
  rw [eT] at hgr
  exact Go.up (fun t q => hsteps.trans q) (k v U U.vm U.heap ⟨⟨_, _, X', ⟨hS.1.trans hS1 (Nat.le_trans hk hgr), fun q => State.WarmedH.trans (t := s.setVm vm0) (hS.2 q) (hNW q)⟩, Nat.le_refl _, N.app hF⟩, ⟨rfl, hZ', hown', C.trans hC⟩, hh⟩ hC hQ)
theorem s_virt (W : Wk p l e R s m args below meth c Z a0 EL n0 own nm bytes maxL ret T vm0 h cells slots) {index : Nat} {C0 : String} {y z : MethodName} {bytes' : ByteArray} {maxL' : Nat} {ret' : Option FieldType} {rm : Room} {S : List Addr} {Q' : Option Value → Vm → Heap → Prop} (w1 : (Cond.methodLink own index y).before a0 Z = true) (w2 : (Cond.declares y).before a0 Z = true) (w3 : (Cond.selects C0 y z).before a0 Z = true) (w4 : (Cond.instanceMethod z).before a0 Z = true) (wz : (Cond.initialized z.cls).before a0 Z = true) (wc : (Cond.code z bytes' maxL' ret').before a0 Z = true) (wf : NotFace Z y) (hy : y.cls ≠ "java/lang/invoke/MethodHandle" ∧ y.cls ≠ "java/lang/invoke/VarHandle") {ps : List FieldType} {r : Option FieldType} (pd : parseMethodDescriptor y.desc = some ⟨ps, r⟩) (argsL : List Value) (hln : argsL.length = ps.length) {a : Addr} (E : Exa Z h a C0) (hM : Con l Z EL n0 z bytes' maxL' ret' [] rm (.ref a :: argsL).toArray h S Q') (hSf : ∀ x ∈ S, x < h.size ∧ Safe Z EL vm0 h x) (hsz : Ls.size = maxL) (hd : decode bytes pc = .ok (.invokevirtual index, 3)) (Wd : Nat) (hWd : (st.map fun v => v.category).sum ≤ Wd) (hf : rm.frames + 1 ≤ R.frames) (hlo : Wd + (maxL' + 11) + rm.locals ≤ R.locals) (hc : cells + rm.cells ≤ R.cells) (hl : slots + rm.slots ≤ R.slots) (hp : pc + 3 = pc')
    (k : ∀ v T' vm' h', Wk p l e R s m args below meth c Z a0 EL n0 own nm bytes maxL ret T' vm' h' (cells + rm.cells) (slots + rm.slots) → CHr Z EL vm0 h vm' h' → Q' v vm' h' → Go p e below s R Z EL n0 Q (T'.setTop (mkF m pc' Ls (v.toList ++ st)))) : Go p e below s R Z EL n0 Q (T.setTop (mkF m pc Ls (argsL.reverse ++ .ref a :: st))) := by
  obtain ⟨⟨k0, locs, X, hS, hk, N⟩, ⟨eT, hZ, hown, C⟩, hh⟩ := W
  obtain ⟨cq, kq, qa, qb, qc⟩ := isOf (show Z.Warmed39 (s.setVm vm0).vm from hZ) eT E
  have wf' : NotFace (s.setVm vm0) y := nf_mv hZ wf
  obtain ⟨v, vm1, ⟨U, L1, c1, n1⟩, hW1, X', hS1, hgr, ⟨L, hQ, hF, hL, hcc, hnn, hC, hNW⟩, hsteps⟩ := X.virtualBackS hh.2.1 (own := own) (C := C0) (index := index) (y := y) (z := z) hown (mv (s := s.setVm vm0) hZ w1) (mv (s := s.setVm vm0) hZ w2) wf' (mv (s := s.setVm vm0) hZ w3) (mv (s := s.setVm vm0) hZ w4) hy (hM.back (p := p) (e := e) (below := below) (args := args) (len := 3) (R := R) (s := s) (W := Wd) hZ wc wz hf hlo hh.2.2.2.2.2.2.2 C.1 hSf) qa qc (g := mkF m pc Ls (argsL.reverse ++ .ref a :: st)) rfl (hsz.trans hh.2.2.2.1.symm) (Steps.refl _) (argsL := argsL) (rest := st) (lenOf pd hln) rfl (by show 2 * 0 + _ ≤ _; omega) (hb hh.2.2.1 hd) (fun _ _ => ⟨rfl, eT, hc, hl⟩)
  dsimp only [Pt.U, Pt.locs, Pt.cells, Pt.slots] at X' hS1 hgr hQ hL hcc hnn hC hNW hsteps
  subst hL hcc hnn hp
  have hZ' : Z.Warmed39 U.vm := State.Warmed39.trans (t := s.setVm vm0) hZ hS1.1
  have hown' : U.vm.findClass own = some m.cls := (hS1.1.alike.findClass _ _).trans hown
  rw [eT] at hgr
  exact Go.up (fun t q => hsteps.trans q) (k v U U.vm U.heap ⟨⟨_, _, X', ⟨hS.1.trans hS1 (Nat.le_trans hk hgr), fun q => State.WarmedH.trans (t := s.setVm vm0) (hS.2 q) (hNW q)⟩, Nat.le_refl _, N.app hF⟩, ⟨rfl, hZ', hown', C.trans hC⟩, hh⟩ hC hQ)
theorem s_face (W : Wk p l e R s m args below meth c Z a0 EL n0 own nm bytes maxL ret T vm0 h cells slots) {index count : Nat} {C0 : String} {y z : MethodName} {bytes' : ByteArray} {maxL' : Nat} {ret' : Option FieldType} {rm : Room} {S : List Addr} {Q' : Option Value → Vm → Heap → Prop} (w1 : (Cond.methodLink own index y).before a0 Z = true) (w2 : (Cond.declares y).before a0 Z = true) (w5 : (Cond.interfaceMethod y.cls y.cls y.name y.desc).before a0 Z = true) (w3 : (Cond.selects C0 y z).before a0 Z = true) (w4 : (Cond.instanceMethod z).before a0 Z = true) (w6 : (Cond.publicMethod z).before a0 Z = true) (w7 : (Cond.unhidden C0 y.name y.desc).before a0 Z = true) (w8 : (Cond.castable C0 y.cls).before a0 Z = true) (wz : (Cond.initialized z.cls).before a0 Z = true) (wc : (Cond.code z bytes' maxL' ret').before a0 Z = true) (hy : y.cls ≠ "java/lang/invoke/MethodHandle" ∧ y.cls ≠ "java/lang/invoke/VarHandle") {ps : List FieldType} {r : Option FieldType} (pd : parseMethodDescriptor y.desc = some ⟨ps, r⟩) (argsL : List Value) (hln : argsL.length = ps.length) {a : Addr} (E : Exa Z h a C0) (hM : Con l Z EL n0 z bytes' maxL' ret' [] rm (.ref a :: argsL).toArray h S Q') (hSf : ∀ x ∈ S, x < h.size ∧ Safe Z EL vm0 h x) (hsz : Ls.size = maxL) (hd : decode bytes pc = .ok (.invokeinterface index count, 5)) (Wd : Nat) (hWd : (st.map fun v => v.category).sum ≤ Wd) (hf : rm.frames + 1 ≤ R.frames) (hlo : Wd + (maxL' + 11) + rm.locals ≤ R.locals) (hc : cells + rm.cells ≤ R.cells) (hl : slots + rm.slots ≤ R.slots) (hp : pc + 5 = pc')
    (k : ∀ v T' vm' h', Wk p l e R s m args below meth c Z a0 EL n0 own nm bytes maxL ret T' vm' h' (cells + rm.cells) (slots + rm.slots) → CHr Z EL vm0 h vm' h' → Q' v vm' h' → Go p e below s R Z EL n0 Q (T'.setTop (mkF m pc' Ls (v.toList ++ st)))) : Go p e below s R Z EL n0 Q (T.setTop (mkF m pc Ls (argsL.reverse ++ .ref a :: st))) := by
  obtain ⟨⟨k0, locs, X, hS, hk, N⟩, ⟨eT, hZ, hown, C⟩, hh⟩ := W
  obtain ⟨cq, kq, qa, qb, qc⟩ := isOf (show Z.Warmed39 (s.setVm vm0).vm from hZ) eT E
  obtain ⟨v, vm1, ⟨U, L1, c1, n1⟩, hW1, X', hS1, hgr, ⟨L, hQ, hF, hL, hcc, hnn, hC, hNW⟩, hsteps⟩ := X.interfaceBackS hh.2.1 (own := own) (C := C0) (index := index) (count := count) (xi := y) (y := z) hown (mv (s := s.setVm vm0) hZ w1) (mv (s := s.setVm vm0) hZ w2) (mv (s := s.setVm vm0) hZ w5 (by simp [Cond.onTables, Cond.keepsFace, Cond.faceAtom, Cond.keeps, Cond.steady]; exact hy)) (mv (s := s.setVm vm0) hZ w3) (mv (s := s.setVm vm0) hZ w4) (mv (s := s.setVm vm0) hZ w6) (mv (s := s.setVm vm0) hZ w7) (mv (s := s.setVm vm0) hZ w8) hy (hM.back (p := p) (e := e) (below := below) (args := args) (len := 5) (R := R) (s := s) (W := Wd) hZ wc wz hf hlo hh.2.2.2.2.2.2.2 C.1 hSf) qa qb qc (g := mkF m pc Ls (argsL.reverse ++ .ref a :: st)) rfl (hsz.trans hh.2.2.2.1.symm) (Steps.refl _) (argsL := argsL) (rest := st) (lenOf pd hln) rfl (by show 2 * 0 + _ ≤ _; omega) (hb hh.2.2.1 hd) (fun _ _ => ⟨rfl, eT, hc, hl⟩)
  dsimp only [Pt.U, Pt.locs, Pt.cells, Pt.slots] at X' hS1 hgr hQ hL hcc hnn hC hNW hsteps
  subst hL hcc hnn hp
  have hZ' : Z.Warmed39 U.vm := State.Warmed39.trans (t := s.setVm vm0) hZ hS1.1
  have hown' : U.vm.findClass own = some m.cls := (hS1.1.alike.findClass _ _).trans hown
  rw [eT] at hgr
  exact Go.up (fun t q => hsteps.trans q) (k v U U.vm U.heap ⟨⟨_, _, X', ⟨hS.1.trans hS1 (Nat.le_trans hk hgr), fun q => State.WarmedH.trans (t := s.setVm vm0) (hS.2 q) (hNW q)⟩, Nat.le_refl _, N.app hF⟩, ⟨rfl, hZ', hown', C.trans hC⟩, hh⟩ hC hQ)
theorem s_super (W : Wk p l e R s m args below meth c Z a0 EL n0 own nm bytes maxL ret T vm0 h cells slots) {index : Nat} {K : String} {y : MethodName} {bytes' : ByteArray} {maxL' : Nat} {ret' : Option FieldType} {rm : Room} {S : List Addr} {Q' : Option Value → Vm → Heap → Prop} (w1 : (Cond.methodLink own index y).before a0 Z = true) (w2 : (Cond.sameMethod y.cls y.cls y.name y.desc).before a0 Z = true) (w3 : (Cond.instanceMethod y).before a0 Z = true) (w4 : (Cond.superclass own y.cls).before a0 Z = true) (wz : (Cond.initialized y.cls).before a0 Z = true) (wc : (Cond.code y bytes' maxL' ret').before a0 Z = true) (hn0 : y.name ≠ "<init>") {ps : List FieldType} {r : Option FieldType} (pd : parseMethodDescriptor y.desc = some ⟨ps, r⟩) (argsL : List Value) (hln : argsL.length = ps.length) {a : Addr} (E : Ins Z h a K true) (hM : Con l Z EL n0 y bytes' maxL' ret' [] rm (.ref a :: argsL).toArray h S Q') (hSf : ∀ x ∈ S, x < h.size ∧ Safe Z EL vm0 h x) (hsz : Ls.size = maxL) (hd : decode bytes pc = .ok (.invokespecial index, 3)) (Wd : Nat) (hWd : (st.map fun v => v.category).sum ≤ Wd) (hf : rm.frames + 1 ≤ R.frames) (hlo : Wd + (maxL' + 11) + rm.locals ≤ R.locals) (hc : cells + rm.cells ≤ R.cells) (hl : slots + rm.slots ≤ R.slots) (hp : pc + 3 = pc')
    (k : ∀ v T' vm' h', Wk p l e R s m args below meth c Z a0 EL n0 own nm bytes maxL ret T' vm' h' (cells + rm.cells) (slots + rm.slots) → CHr Z EL vm0 h vm' h' → Q' v vm' h' → Go p e below s R Z EL n0 Q (T'.setTop (mkF m pc' Ls (v.toList ++ st)))) : Go p e below s R Z EL n0 Q (T.setTop (mkF m pc Ls (argsL.reverse ++ .ref a :: st))) := by
  obtain ⟨⟨k0, locs, X, hS, hk, N⟩, ⟨eT, hZ, hown, C⟩, hh⟩ := W
  obtain ⟨v, vm1, ⟨U, L1, c1, n1⟩, hW1, X', hS1, hgr, ⟨L, hQ, hF, hL, hcc, hnn, hC, hNW⟩, hsteps⟩ := superBackS X hh.2.1 (show Z.Warmed39 (s.setVm vm0).vm from hZ) (own := own) (K := K) (index := index) (y := y) hown w1 w2 w3 w4 hn0 (hM.back (p := p) (e := e) (below := below) (args := args) (len := 3) (R := R) (s := s) (W := Wd) hZ wc wz hf hlo hh.2.2.2.2.2.2.2 C.1 hSf) eT E (g := mkF m pc Ls (argsL.reverse ++ .ref a :: st)) rfl (hsz.trans hh.2.2.2.1.symm) (bytes := bytes') (maxL := maxL') (ret := ret') wc (argsL := argsL) (rest := st) (lenOf pd hln) rfl (by show 2 * 0 + _ ≤ _; omega) (hb hh.2.2.1 hd) (fun _ _ => ⟨rfl, eT, hc, hl⟩)
  dsimp only [Pt.U, Pt.locs, Pt.cells, Pt.slots] at X' hS1 hgr hQ hL hcc hnn hC hNW hsteps
  subst hL hcc hnn hp
  have hZ' : Z.Warmed39 U.vm := State.Warmed39.trans (t := s.setVm vm0) hZ hS1.1
  have hown' : U.vm.findClass own = some m.cls := (hS1.1.alike.findClass _ _).trans hown
  rw [eT] at hgr
  exact Go.up (fun t q => hsteps.trans q) (k v U U.vm U.heap ⟨⟨_, _, X', ⟨hS.1.trans hS1 (Nat.le_trans hk hgr), fun q => State.WarmedH.trans (t := s.setVm vm0) (hS.2 q) (hNW q)⟩, Nat.le_refl _, N.app hF⟩, ⟨rfl, hZ', hown', C.trans hC⟩, hh⟩ hC hQ)
theorem s_priv (W : Wk p l e R s m args below meth c Z a0 EL n0 own nm bytes maxL ret T vm0 h cells slots) {index : Nat} {C0 : String} {y : MethodName} {bytes' : ByteArray} {maxL' : Nat} {ret' : Option FieldType} {rm : Room} {S : List Addr} {Q' : Option Value → Vm → Heap → Prop} (w1 : (Cond.methodLink own index y).before a0 Z = true) (w2 : (Cond.instanceMethod y).before a0 Z = true) (w3 : (Cond.selects y.cls y y).before a0 Z = true) (w4 : (Cond.privateMethod y).before a0 Z = true) (wz : (Cond.initialized y.cls).before a0 Z = true) (wc : (Cond.code y bytes' maxL' ret').before a0 Z = true) (hy : y.cls ≠ "java/lang/invoke/MethodHandle" ∧ y.cls ≠ "java/lang/invoke/VarHandle") {ps : List FieldType} {r : Option FieldType} (pd : parseMethodDescriptor y.desc = some ⟨ps, r⟩) (argsL : List Value) (hln : argsL.length = ps.length) {a : Addr} (E : Exa Z h a C0) (hM : Con l Z EL n0 y bytes' maxL' ret' [] rm (.ref a :: argsL).toArray h S Q') (hSf : ∀ x ∈ S, x < h.size ∧ Safe Z EL vm0 h x) (hsz : Ls.size = maxL) (hd : decode bytes pc = .ok (.invokevirtual index, 3)) (Wd : Nat) (hWd : (st.map fun v => v.category).sum ≤ Wd) (hf : rm.frames + 1 ≤ R.frames) (hlo : Wd + (maxL' + 11) + rm.locals ≤ R.locals) (hc : cells + rm.cells ≤ R.cells) (hl : slots + rm.slots ≤ R.slots) (hp : pc + 3 = pc')
    (k : ∀ v T' vm' h', Wk p l e R s m args below meth c Z a0 EL n0 own nm bytes maxL ret T' vm' h' (cells + rm.cells) (slots + rm.slots) → CHr Z EL vm0 h vm' h' → Q' v vm' h' → Go p e below s R Z EL n0 Q (T'.setTop (mkF m pc' Ls (v.toList ++ st)))) : Go p e below s R Z EL n0 Q (T.setTop (mkF m pc Ls (argsL.reverse ++ .ref a :: st))) := by
  obtain ⟨⟨k0, locs, X, hS, hk, N⟩, ⟨eT, hZ, hown, C⟩, hh⟩ := W
  obtain ⟨cell, hcell, hobj⟩ := E.cell
  obtain ⟨v, vm1, ⟨U, L1, c1, n1⟩, hW1, X', hS1, hgr, ⟨L, hQ, hF, hL, hcc, hnn, hC, hNW⟩, hsteps⟩ := X.privateBackS hh.2.1 (own := own) (index := index) (y := y) (bytes := bytes') (maxL := maxL') (ret := ret') hown (mv (s := s.setVm vm0) hZ w1) (mv (s := s.setVm vm0) hZ w2) (mv (s := s.setVm vm0) hZ w3) (PrivateAt.of_word (mvP (s := s.setVm vm0) (args := args) hZ w4)) (mv (s := s.setVm vm0) hZ wc) hy (hM.back (p := p) (e := e) (below := below) (args := args) (len := 3) (R := R) (s := s) (W := Wd) hZ wc wz hf hlo hh.2.2.2.2.2.2.2 C.1 hSf) (g := mkF m pc Ls (argsL.reverse ++ .ref a :: st)) rfl (hsz.trans hh.2.2.2.1.symm) (Steps.refl _) (a := a) (cell := cell) (by rw [eT]; exact hcell) hobj (argsL := argsL) (rest := st) (lenOf pd hln) rfl (by show 2 * 0 + _ ≤ _; omega) (hb hh.2.2.1 hd) (fun _ _ => ⟨rfl, eT, hc, hl⟩)
  dsimp only [Pt.U, Pt.locs, Pt.cells, Pt.slots] at X' hS1 hgr hQ hL hcc hnn hC hNW hsteps
  subst hL hcc hnn hp
  have hZ' : Z.Warmed39 U.vm := State.Warmed39.trans (t := s.setVm vm0) hZ hS1.1
  have hown' : U.vm.findClass own = some m.cls := (hS1.1.alike.findClass _ _).trans hown
  rw [eT] at hgr
  exact Go.up (fun t q => hsteps.trans q) (k v U U.vm U.heap ⟨⟨_, _, X', ⟨hS.1.trans hS1 (Nat.le_trans hk hgr), fun q => State.WarmedH.trans (t := s.setVm vm0) (hS.2 q) (hNW q)⟩, Nat.le_refl _, N.app hF⟩, ⟨rfl, hZ', hown', C.trans hC⟩, hh⟩ hC hQ)
theorem s_copy (W : Wk p l e R s m args below meth c Z a0 EL n0 own nm bytes maxL ret T vm0 h cells slots) {index : Nat} (w1 : (Cond.methodLink own index Jvm.Stand.acN).before a0 Z = true) (w2 : (Cond.native Jvm.Stand.acN).before a0 Z = true) (w3 : (Cond.static Jvm.Stand.acN).before a0 Z = true) (w4 : (Cond.initialized "java/lang/System").before a0 Z = true) {a b : Addr} {k1 k2 : ClassId} {ty : FieldType} {z z' sp dp nn : Int32} {vs vd : List Value} {dv dd : Value} (A : Arv Z h a k1 ty z vs dv) (B : Arv Z h b k2 ty z' vd dd) (hty : refKind ty = false) (h1 : ¬ sp < 0) (h2 : ¬ dp < 0) (h3 : ¬ nn < 0) (h4 : sp.toNatClampNeg + nn.toNatClampNeg ≤ z.toNatClampNeg) (h5 : dp.toNatClampNeg + nn.toNatClampNeg ≤ z'.toNatClampNeg) (hlv : dp.toNatClampNeg + nn.toNatClampNeg ≤ vd.length) (M : Mine Z EL n0 vm0 h b) (hsz : Ls.size = maxL) (hd : decode bytes pc = .ok (.invokestatic index, 3)) (Wd : Nat) (hWd : (st.map fun v => v.category).sum ≤ Wd) (hf : 1 ≤ R.frames) (hlo : Wd + (nativeFrameWords "java/lang/System" "arraycopy" 5 + 11) ≤ R.locals) (hp : pc + 3 = pc')
    (k : ∀ T' h', Wk p l e R s m args below meth c Z a0 EL n0 own nm bytes maxL ret T' vm0 h' cells slots → Keep h h' [b] → CHr Z EL vm0 h vm0 h' → Arv Z h' b k2 ty z' (vd.take dp.toNatClampNeg ++ ((List.range nn.toNatClampNeg).map fun i => vs.getD (sp.toNatClampNeg + i) dv) ++ vd.drop (dp.toNatClampNeg + nn.toNatClampNeg)) dd → Go p e below s R Z EL n0 Q (T'.setTop (mkF m pc' Ls st))) : Go p e below s R Z EL n0 Q (T.setTop (mkF m pc Ls (.int nn :: .int dp :: .ref b :: .int sp :: .ref a :: st))) := by
  obtain ⟨⟨k0, locs, X, hS, hk, N⟩, ⟨eT, hZ, hown, C⟩, hh⟩ := W
  obtain ⟨T', h', L, X', e', N', K, V, st'⟩ := cpA X hh.2.1 (show Z.Warmed39 (s.setVm vm0).vm from hZ) (own := own) hown w1 w2 w3 w4 eT A B (Or.inl ⟨rfl, hty⟩) h1 h2 h3 h4 h5 rfl hlv N M.1 (g := mkF m pc Ls (.int nn :: .int dp :: .ref b :: .int sp :: .ref a :: st)) rfl (hsz.trans hh.2.2.2.1.symm) rfl (hb hh.2.2.1 hd) hf (W := Wd) (by show 2 * 0 + _ ≤ _; omega) hlo
  subst hp
  have Ch : CHr Z EL vm0 h vm0 h' := CHr.keep K (fun x hx => by cases List.mem_singleton.mp hx; exact M.2.2) C.1
  exact Go.up st' (k T' h' ⟨⟨k0, L, X', hS, Nat.le_trans hk Ch.2.1, N'⟩, ⟨e', hZ, hown, C.trans Ch⟩, hh⟩ K Ch V)
theorem s_ret (W : Wk p l e R s m args below meth c Z a0 EL n0 own nm bytes maxL ret T vm0 h cells slots) (hret : ret = none) (hd : decode bytes pc = .ok (.return_, 1)) (hc : cells ≤ R.cells) (hl : slots ≤ R.slots) (hq : ∀ vm', CHr Z EL vm0 h vm' h → Q (none) vm' h) : Go p e below s R Z EL n0 Q (T.setTop (mkF m pc Ls [])) := by
  have hrt := W.rt
  have hlk := W.lk
  obtain ⟨⟨k0, locs, X, hS, hk, N⟩, ⟨eT, hZ, hown, C⟩, hh⟩ := W
  obtain ⟨fs, hr, hrun, hended, hE⟩ := X.leaveW (v := none) hS.1 (eT ▸ hk) (fun _ => rfl) hlk
  have Ca := CHv.at X hZ hh.2.2.2.2.2.2.2 C.1
  refine ⟨T.setFrames fs, _, ?_, hrun, hended, _, locs, rfl, ?_, N, ?_, ⟨hE.1, hE.2.1, hE.2.2.1, hE.2.2.2.mono hc hl⟩, fun q => State.WarmedH.trans (t := s.setVm vm0) (hS.2 q) X.warmed⟩
  · exact X.returnOut hh.2.1 (hrt.trans hret) (hb hh.2.2.1 hd) hr
  · have : (T.setFrames fs).heap = h := eT
    rw [this]; exact hq _ Ca
  · have : (T.setFrames fs).heap = h := eT
    rw [this]; exact C.trans Ca
theorem s_ireturn (W : Wk p l e R s m args below meth c Z a0 EL n0 own nm bytes maxL ret T vm0 h cells slots) {z : Int32} (hret : ret = some .int) (hd : decode bytes pc = .ok (.ireturn, 1)) (hc : cells ≤ R.cells) (hl : slots ≤ R.slots) (hq : ∀ vm', CHr Z EL vm0 h vm' h → Q (some (.int z)) vm' h) : Go p e below s R Z EL n0 Q (T.setTop (mkF m pc Ls (.int z :: st))) := by
  have hrt := W.rt
  have hlk := W.lk
  obtain ⟨⟨k0, locs, X, hS, hk, N⟩, ⟨eT, hZ, hown, C⟩, hh⟩ := W
  obtain ⟨fs, hr, hrun, hended, hE⟩ := X.leaveW (v := some (.int z)) hS.1 (eT ▸ hk) (fun q => by rw [hrt, hret] at q; cases q) hlk
  have Ca := CHv.at X hZ hh.2.2.2.2.2.2.2 C.1
  refine ⟨T.setFrames fs, _, ?_, hrun, hended, _, locs, rfl, ?_, N, ?_, ⟨hE.1, hE.2.1, hE.2.2.1, hE.2.2.2.mono hc hl⟩, fun q => State.WarmedH.trans (t := s.setVm vm0) (hS.2 q) X.warmed⟩
  · exact retOut X hh.2.1 (t := .int) (i := .ireturn) (hrt.trans hret) rfl (Or.inl ⟨rfl, Or.inl rfl, _, rfl⟩) (hb hh.2.2.1 hd) hr
  · have : (T.setFrames fs).heap = h := eT
    rw [this]; exact hq _ Ca
  · have : (T.setFrames fs).heap = h := eT
    rw [this]; exact C.trans Ca
theorem s_nreturn (W : Wk p l e R s m args below meth c Z a0 EL n0 own nm bytes maxL ret T vm0 h cells slots) {z : Int32} {t : FieldType} (hret : ret = some t) (ht : t = .boolean ∨ t = .byte ∨ t = .char ∨ t = .short) (hd : decode bytes pc = .ok (.ireturn, 1)) (hc : cells ≤ R.cells) (hl : slots ≤ R.slots) (hq : ∀ vm', CHr Z EL vm0 h vm' h → Q (some (.int (nar t z))) vm' h) : Go p e below s R Z EL n0 Q (T.setTop (mkF m pc Ls (.int z :: st))) := by
  have hrt := W.rt
  have hlk := W.lk
  obtain ⟨⟨k0, locs, X, hS, hk, N⟩, ⟨eT, hZ, hown, C⟩, hh⟩ := W
  obtain ⟨fs, hr, hrun, hended, hE⟩ := X.leaveW (v := some (.int (nar t z))) hS.1 (eT ▸ hk) (fun q => by rw [hrt, hret] at q; cases q) hlk
  have Ca := CHv.at X hZ hh.2.2.2.2.2.2.2 C.1
  refine ⟨T.setFrames fs, _, ?_, hrun, hended, _, locs, rfl, ?_, N, ?_, ⟨hE.1, hE.2.1, hE.2.2.1, hE.2.2.2.mono hc hl⟩, fun q => State.WarmedH.trans (t := s.setVm vm0) (hS.2 q) X.warmed⟩
  · exact retN X hh.2.1 (t := t) (hrt.trans hret) ht (hb hh.2.2.1 hd) hr
  · have : (T.setFrames fs).heap = h := eT
    rw [this]; exact hq _ Ca
  · have : (T.setFrames fs).heap = h := eT
    rw [this]; exact C.trans Ca
theorem s_lreturn (W : Wk p l e R s m args below meth c Z a0 EL n0 own nm bytes maxL ret T vm0 h cells slots) {z : Int64} (hret : ret = some .long) (hd : decode bytes pc = .ok (.lreturn, 1)) (hc : cells ≤ R.cells) (hl : slots ≤ R.slots) (hq : ∀ vm', CHr Z EL vm0 h vm' h → Q (some (.long z)) vm' h) : Go p e below s R Z EL n0 Q (T.setTop (mkF m pc Ls (.long z :: st))) := by
  have hrt := W.rt
  have hlk := W.lk
  obtain ⟨⟨k0, locs, X, hS, hk, N⟩, ⟨eT, hZ, hown, C⟩, hh⟩ := W
  obtain ⟨fs, hr, hrun, hended, hE⟩ := X.leaveW (v := some (.long z)) hS.1 (eT ▸ hk) (fun q => by rw [hrt, hret] at q; cases q) hlk
  have Ca := CHv.at X hZ hh.2.2.2.2.2.2.2 C.1
  refine ⟨T.setFrames fs, _, ?_, hrun, hended, _, locs, rfl, ?_, N, ?_, ⟨hE.1, hE.2.1, hE.2.2.1, hE.2.2.2.mono hc hl⟩, fun q => State.WarmedH.trans (t := s.setVm vm0) (hS.2 q) X.warmed⟩
  · exact retOut X hh.2.1 (t := .long) (i := .lreturn) (hrt.trans hret) rfl (Or.inr (Or.inl ⟨rfl, rfl, _, rfl⟩)) (hb hh.2.2.1 hd) hr
  · have : (T.setFrames fs).heap = h := eT
    rw [this]; exact hq _ Ca
  · have : (T.setFrames fs).heap = h := eT
    rw [this]; exact C.trans Ca
theorem s_areturn (W : Wk p l e R s m args below meth c Z a0 EL n0 own nm bytes maxL ret T vm0 h cells slots) {z : Value} {t : FieldType} (hret : ret = some t) (ht : t.isReference = true) (hz : z.isRef = true) (hd : decode bytes pc = .ok (.areturn, 1)) (hc : cells ≤ R.cells) (hl : slots ≤ R.slots) (hq : ∀ vm', CHr Z EL vm0 h vm' h → Q (some z) vm' h) : Go p e below s R Z EL n0 Q (T.setTop (mkF m pc Ls (z :: st))) := by
  have hrt := W.rt
  have hlk := W.lk
  obtain ⟨⟨k0, locs, X, hS, hk, N⟩, ⟨eT, hZ, hown, C⟩, hh⟩ := W
  obtain ⟨fs, hr, hrun, hended, hE⟩ := X.leaveW (v := some z) hS.1 (eT ▸ hk) (fun q => by rw [hrt, hret] at q; cases q) hlk
  have Ca := CHv.at X hZ hh.2.2.2.2.2.2.2 C.1
  refine ⟨T.setFrames fs, _, ?_, hrun, hended, _, locs, rfl, ?_, N, ?_, ⟨hE.1, hE.2.1, hE.2.2.1, hE.2.2.2.mono hc hl⟩, fun q => State.WarmedH.trans (t := s.setVm vm0) (hS.2 q) X.warmed⟩
  · exact retOut X hh.2.1 (t := t) (i := .areturn) (hrt.trans hret) (by cases t <;> first | rfl | (cases ht; done) | (cases z <;> rfl)) (Or.inr (Or.inr (Or.inr (Or.inr ⟨rfl, ht, hz⟩)))) (hb hh.2.2.1 hd) hr
  · have : (T.setFrames fs).heap = h := eT
    rw [this]; exact hq _ Ca
  · have : (T.setFrames fs).heap = h := eT
    rw [this]; exact C.trans Ca
end
end Jvm.OwnK
namespace Jvm.OwnK
open Sem ClassFile Op Lib Bundle Jvm.Free Jvm.Stand Jvm.LawKit Jvm.RoadKit
section Nums
theorem n_toInt {i : Nat} (h : i < 2147483648) : (Int32.ofNat i).toInt = i := Int32.toInt_ofNat_small h
theorem n_clamp {i : Nat} (h : i < 2147483648) : (Int32.ofNat i).toNatClampNeg = i := by simp only [Int32.toNatClampNeg, n_toInt h]; rfl
theorem n_nn {i : Nat} (h : i < 2147483648) : ¬ Int32.ofNat i < 0 := by
  rw [Int32.lt_iff_toInt_lt, n_toInt h]; show ¬ (i : Int) < 0; omega
theorem n_lt {i n : Nat} (hi : i < n) (h : n < 2147483648) : Int32.ofNat i < Int32.ofNat n := by
  rw [Int32.lt_iff_toInt_lt, n_toInt h, n_toInt (by omega)]; omega
theorem n_ge {i n : Nat} (hi : n ≤ i) (h : i < 2147483648) : ¬ Int32.ofNat i < Int32.ofNat n := by
  rw [Int32.lt_iff_toInt_lt, n_toInt h, n_toInt (by omega)]; omega
theorem n_succ (i : Nat) : Int32.ofNat i + (1 : Int32) = Int32.ofNat (i + 1) := by
  rw [Int32.ofNat_add]; rfl
theorem n_inj {i j : Nat} (hi : i < 2147483648) (hj : j < 2147483648) (h : Int32.ofNat i = Int32.ofNat j) : i = j := by
  have := congrArg Int32.toInt h
  rw [n_toInt hi, n_toInt hj] at this; omega
theorem lt_iff (x y : Int32) : x < y ↔ x.toInt < y.toInt := Int32.lt_iff_toInt_lt
theorem nar_char {x : Int32} (h0 : ¬ x < 0) (h1 : ¬ 65535 < x) : nar .char x = x := by
  rw [lt_iff] at h0 h1
  have e0 : (0 : Int32).toInt = 0 := rfl
  have e1 : (65535 : Int32).toInt = 65535 := rfl
  have q := c_i2c x
  apply Int32.toInt_inj.mp
  show (x.toUInt32.toUInt16.toUInt32.toInt32).toInt = x.toInt
  omega
theorem nar_bool {x : Int32} (h : x = 0 ∨ x = 1) : nar .boolean x = x := by rcases h with rfl | rfl <;> decide
theorem nar_byte {x : Int32} (h0 : ¬ x < -128) (h1 : ¬ 127 < x) : nar .byte x = x := by
  rw [lt_iff] at h0 h1
  have e0 : (-128 : Int32).toInt = -128 := rfl
  have e1 : (127 : Int32).toInt = 127 := rfl
  have q := c_i2b x
  apply Int32.toInt_inj.mp
  show (x.toInt8.toInt32).toInt = x.toInt
  omega
/-- a Latin-1 char -/
def L1 (c : Int32) : Prop := ¬ c < 0 ∧ ¬ 255 < c
theorem L1.rng {c : Int32} (h : L1 c) : 0 ≤ c.toInt ∧ c.toInt ≤ 255 := by
  obtain ⟨h0, h1⟩ := h
  rw [lt_iff] at h0 h1
  have e0 : (0 : Int32).toInt = 0 := rfl
  have e1 : (255 : Int32).toInt = 255 := rfl
  omega
theorem L1.of {c : Int32} (h0 : 0 ≤ c.toInt) (h1 : c.toInt ≤ 255) : L1 c := by
  refine ⟨?_, ?_⟩ <;> rw [lt_iff]
  · show ¬ c.toInt < 0; omega
  · show ¬ (255 : Int) < c.toInt; omega
theorem L1.mask (x : Int32) : L1 (x &&& 255) := by
  have := c_and x 255 (by decide)
  exact L1.of this.1 this.2
theorem L1.nar {c : Int32} (h : L1 c) : nar .char c = c := nar_char h.1 (fun q => h.2 (by
  rw [lt_iff] at q ⊢
  have e0 : (65535 : Int32).toInt = 65535 := rfl
  have e1 : (255 : Int32).toInt = 255 := rfl
  omega))
theorem L1.i2c {c : Int32} (h : L1 c) : c.toUInt32.toUInt16.toUInt32.toInt32 = c := h.nar
theorem L1.char (x : Int32) : L1 ((x &&& 255).toUInt32.toUInt16.toUInt32.toInt32) := by rw [(L1.mask x).i2c]; exact L1.mask x
/-- the byte a char is kept as, and back -/
theorem L1.back {c : Int32} (h : L1 c) : c.toInt8.toInt32 &&& 255 = c := by
  have r := h.rng
  have q := c_i2b c
  have m := c_mask c.toInt8.toInt32 255 8 (by decide) (by decide)
  apply Int32.toInt_inj.mp
  rw [m]
  show c.toInt8.toInt32.toInt % 256 = c.toInt
  omega
theorem L1.inj {c d : Int32} (h : L1 c) (g : L1 d) (e : c.toInt8.toInt32 = d.toInt8.toInt32) : c = d := by rw [← h.back, ← g.back, e]
theorem bb (c : Int32) : c.toInt8.toInt32.toInt8.toInt32 = c.toInt8.toInt32 := by rw [Int8.toInt8_toInt32]
theorem shr0 (x : Int32) : x >>> ((0 : Int32) &&& 31) = x := Int32.toInt_inj.mp (by rw [c_ishr x 0 0 (by decide)]; show x.toInt / 1 = x.toInt; exact Int.ediv_one _)
theorem shl0 (x : Int32) : x <<< ((0 : Int32) &&& 31) = x := by
  apply Int32.toInt_inj.mp
  have q := c_ishl x 0 0 (by decide)
  have r1 := rng32 x
  have r2 := rng32 (x <<< ((0 : Int32) &&& 31))
  simp only [Nat.pow_zero, Int.natCast_one, Int.mul_one] at q
  omega
theorem sub_self32 (x : Int32) : x - x = 0 := by
  apply Int32.toInt_inj.mp
  have q := c_isub x x
  have r2 := rng32 (x - x)
  have e0 : (0 : Int32).toInt = 0 := rfl
  omega
end Nums
section Lists
def bv (c : Int32) : Value := .int c.toInt8.toInt32
def cv (c : Int32) : Value := .int c
theorem bv_getD (cs : List Int32) (i : Nat) : (cs.map bv).getD i (.int 0) = .int (cs.getD i 0).toInt8.toInt32 := by
  induction cs generalizing i with
  | nil => rfl
  | cons c cs ih => cases i with
    | zero => rfl
    | succ i => exact ih i
theorem cv_getD (cs : List Int32) (i : Nat) : (cs.map cv).getD i (.int 0) = .int (cs.getD i 0) := by
  induction cs generalizing i with
  | nil => rfl
  | cons c cs ih => cases i with
    | zero => rfl
    | succ i => exact ih i
theorem set_step {cs : List Int32} {n i : Nat} {x : Value} (hn : cs.length = n) (hi : i < n) (hx : x = bv (cs.getD i 0)) : ((cs.take i).map bv ++ List.replicate (n - i) (Value.int 0)).set i x = (cs.take (i + 1)).map bv ++ List.replicate (n - (i + 1)) (Value.int 0) := by
  subst hx
  have e1 : n - i = (n - (i + 1)) + 1 := by omega
  have e2 : ((cs.take i).map bv).length = i := by simp; omega
  rw [e1, List.replicate_succ, List.set_append_right _ _ (by omega), e2, Nat.sub_self, List.set_cons_zero]
  have e3 : cs.take (i + 1) = cs.take i ++ [cs.getD i 0] := by
    rw [List.take_add_one]
    congr 1
    rw [List.getD_eq_getElem?_getD, List.getElem?_eq_getElem (by omega)]; rfl
  rw [e3, List.map_append, List.append_assoc]; rfl
theorem mem_getD {cs : List Int32} {i : Nat} (hi : i < cs.length) : cs.getD i 0 ∈ cs := by
  rw [List.getD_eq_getElem?_getD, List.getElem?_eq_getElem hi]; exact List.getElem_mem hi
theorem mem_take_succ {cs : List Int32} {i : Nat} (hi : i < cs.length) {P : Int32 → Prop} (h : ∀ c ∈ cs.take i, P c) (hx : P (cs.getD i 0)) : ∀ c ∈ cs.take (i + 1), P c := by
  have e3 : cs.take (i + 1) = cs.take i ++ [cs.getD i 0] := by
    rw [List.take_add_one]
    congr 1
    rw [List.getD_eq_getElem?_getD, List.getElem?_eq_getElem (by omega)]; rfl
  intro c hc
  rw [e3] at hc
  rcases List.mem_append.mp hc with q | q
  · exact h c q
  · cases List.mem_singleton.mp q; exact hx
theorem len_mid {cs : List Int32} {n i : Nat} (hn : cs.length = n) (hi : i ≤ n) : ((cs.take i).map bv ++ List.replicate (n - i) (.int 0 : Value)).length = n := by
  simp; omega
end Lists
section Strs
/-- compact strings are on -/
def CS (Z : State) : Prop := ∃ v : Int32, Sta Z Z.heap "java/lang/String" "COMPACT_STRINGS" "Z" (.int v) ∧ ¬ v = 0
variable {Z : State} {h h' : Heap} {a b : Addr} {k : ClassId} {cs : List Int32}
/-- a Latin-1 String whose chars are cs; b its byte[] -/
def LatB (Z : State) (h : Heap) (a b : Addr) (k : ClassId) (cs : List Int32) : Prop :=
  Exa Z h a "java/lang/String" ∧ Fld Z h a "java/lang/String" "coder" "B" (.int 0) ∧ Fld Z h a "java/lang/String" "value" "[B" (.ref b) ∧ Arv Z h b k .byte (Int32.ofNat cs.length) (cs.map bv) (.int 0) ∧ (∀ c ∈ cs, L1 c) ∧ cs.length < 2147483648
def Lat (Z : State) (h : Heap) (a : Addr) (cs : List Int32) : Prop := ∃ b k, LatB Z h a b k cs
theorem LatB.keep {ws : List Addr} (F : LatB Z h a b k cs) (K : Keep h h' ws) (q1 : a ∉ ws) (q2 : b ∉ ws) : LatB Z h' a b k cs := ⟨F.1.keep K, F.2.1.keep K q1, F.2.2.1.keep K q1, F.2.2.2.1.keep K q2, F.2.2.2.2⟩
theorem LatB.kp (F : LatB Z h a b k cs) (K : Keep h h' []) (_ : a ∉ ([] : List Addr)) : LatB Z h' a b k cs := F.keep K nin0 nin0
theorem Lat.kp (F : Lat Z h a cs) (K : Keep h h' []) (_ : a ∉ ([] : List Addr)) : Lat Z h' a cs := by obtain ⟨b, k, F⟩ := F; exact ⟨b, k, F.keep K nin0 nin0⟩
theorem Lat.lt (F : Lat Z h a cs) : a < h.size := by obtain ⟨b, k, F⟩ := F; exact F.1.lt
theorem LatB.lt (F : LatB Z h a b k cs) : a < h.size := F.1.lt
theorem LatB.ltb (F : LatB Z h a b k cs) : b < h.size := F.2.2.2.1.lt
end Strs
section Words
variable {Z : State} {a0 : Array Value}
theorem decl_of {y : MethodName} {bytes : ByteArray} {maxL : Nat} {ret : Option FieldType} (wi : (Cond.instanceMethod y).before a0 Z = true) (wc : (Cond.code y bytes maxL ret).before a0 Z = true) : (Cond.declares y).before a0 Z = true := by
  obtain ⟨m, meth, h1, h2, h3, -⟩ := Cond.instanceMethod_spec wi
  obtain ⟨meth', c, g1, -, -, -, -, -, -, g2⟩ := Cond.code_spec h1 wc
  cases h2.symm.trans g1
  simp [Cond.before, Cond.holds, Cond.value, h1, h2, h3, g2]
theorem nf_of {C : String} {y y' : MethodName} (hc : y'.cls = y.cls) (w : (Cond.selects C y' y').before a0 Z = true) : NotFace Z y := fun r0 h0 => by
  obtain ⟨c2, r2, m2, q1, q2, q3, q4, kP, hkP, hkPi⟩ := Cond.selects_spec w
  have e1 := findClass_of_methodNamed h0
  have e2 := findClass_of_methodNamed q3
  rw [hc] at e2
  have e : r0.cls = m2.cls := Option.some.inj (e1.symm.trans e2)
  exact ⟨kP, by rw [e]; exact hkP, hkPi⟩
theorem same_of {y : MethodName} (hy : y.cls ≠ "java/lang/invoke/MethodHandle" ∧ y.cls ≠ "java/lang/invoke/VarHandle") (wi : (Cond.instanceMethod y).before a0 Z = true) (nf : NotFace Z y) : (Cond.sameMethod y.cls y.cls y.name y.desc).before a0 Z = true := by
  obtain ⟨m, meth, h1, h2, h3, -⟩ := Cond.instanceMethod_spec wi
  obtain ⟨k, hk, hn⟩ := nf m h1
  have e1 := findClass_of_methodNamed h1
  have e2 := State.methodFound?_of_named h1 hy
  have h1' : Z.methodNamed? ⟨y.cls, y.name, y.desc⟩ = some m := h1
  simp [Cond.before, Cond.holds, Cond.value, e1, e2, h1', hk, hn]
end Words
theorem nfw : nativeFrameWords "java/lang/System" "arraycopy" 5 = 7 := by decide +kernel
end Jvm.OwnK
namespace Jvm.OwnK
open Sem ClassFile Op Lib Bundle Jvm.Free Jvm.Stand Jvm.LawKit Jvm.RoadKit
section Sb
variable {Z : State} {h h' : Heap} {a b : Addr} {k : ClassId} {cap : Nat} {cs : List Int32}
/-- a StringBuilder whose chars are cs; b its byte[] of cap places -/
def SBd (Z : State) (h : Heap) (a b : Addr) (k : ClassId) (cap : Nat) (cs : List Int32) : Prop :=
  Exa Z h a "java/lang/StringBuilder" ∧ Fld Z h a "java/lang/AbstractStringBuilder" "coder" "B" (.int 0) ∧ Fld Z h a "java/lang/AbstractStringBuilder" "count" "I" (.int (Int32.ofNat cs.length)) ∧ Fld Z h a "java/lang/AbstractStringBuilder" "value" "[B" (.ref b) ∧
  (∃ rest : List Value, cs.length + rest.length = cap ∧ Arv Z h b k .byte (Int32.ofNat cap) (cs.map bv ++ rest) (.int 0)) ∧ (∀ c ∈ cs, L1 c) ∧ cap ≤ 4096 ∧ Exa Z h b "[B"
theorem SBd.keep {ws : List Addr} (F : SBd Z h a b k cap cs) (K : Keep h h' ws) (q1 : a ∉ ws) (q2 : b ∉ ws) : SBd Z h' a b k cap cs := by
  obtain ⟨f1, f2, f3, f4, ⟨r, hr, A⟩, f6⟩ := F
  exact ⟨f1.keep K, f2.keep K q1, f3.keep K q1, f4.keep K q1, ⟨r, hr, A.keep K q2⟩, f6.1, f6.2.1, f6.2.2.keep K⟩
theorem SBd.le (F : SBd Z h a b k cap cs) : cs.length ≤ cap := by obtain ⟨-, -, -, -, ⟨r, hr, -⟩, -⟩ := F; omega
theorem SBd.lt (F : SBd Z h a b k cap cs) : a < h.size := F.1.lt
theorem SBd.ltb (F : SBd Z h a b k cap cs) : b < h.size := by obtain ⟨-, -, -, -, ⟨r, hr, A⟩, -⟩ := F; exact A.lt
theorem range_getD (ds : List Int32) (n : Nat) (hn : ds.length = n) : ((List.range n).map fun i => (ds.map bv).getD (0 + i) (.int 0)) = ds.map bv := by
  subst hn
  apply List.ext_getElem
  · simp
  · intro i h1 h2
    simp only [List.length_map, List.length_range] at h1
    simp [List.getElem_map, List.getD_eq_getElem?_getD, h1]
theorem sub_le0 {m n : Nat} (h : m ≤ n) (hn : n ≤ 4096) : ¬ 0 < Int32.ofNat m - (Int32.ofNat n >>> ((0 : Int32) &&& 31)) := by
  rw [shr0, lt_iff]
  have q := c_isub (Int32.ofNat m) (Int32.ofNat n)
  rw [n_toInt (by omega), n_toInt (by omega)] at q
  have r := rng32 (Int32.ofNat m - Int32.ofNat n)
  have e0 : (0 : Int32).toInt = 0 := rfl
  omega
theorem n_add (i j : Nat) : Int32.ofNat i + Int32.ofNat j = Int32.ofNat (i + j) := by rw [Int32.ofNat_add]
end Sb
end Jvm.OwnK
namespace Jvm.OwnK
open Sem ClassFile Op Lib Bundle Jvm.Free Jvm.Stand Jvm.LawKit Jvm.RoadKit
theorem put_eq {cs ds : List Int32} {r : List Value} : (cs.map bv ++ r).take cs.length ++ ds.map bv ++ (cs.map bv ++ r).drop (cs.length + ds.length) = (cs ++ ds).map bv ++ r.drop ds.length := by
  have e : (cs.map bv).length = cs.length := by simp
  rw [← e, List.take_left, List.drop_append, List.map_append, List.drop_eq_nil_of_le (by omega), List.nil_append, Nat.add_sub_cancel_left]
end Jvm.OwnK
namespace Jvm.OwnK
open Sem ClassFile Op Lib Bundle Jvm.Free Jvm.Stand Jvm.LawKit Jvm.RoadKit
section U16
/-- a char -/
def C16 (c : Int32) : Prop := ¬ c < 0 ∧ ¬ 65535 < c
theorem C16.rng {c : Int32} (h : C16 c) : 0 ≤ c.toInt ∧ c.toInt ≤ 65535 := by
  obtain ⟨h0, h1⟩ := h
  rw [lt_iff] at h0 h1
  have e0 : (0 : Int32).toInt = 0 := rfl
  have e1 : (65535 : Int32).toInt = 65535 := rfl
  omega
theorem C16.of {c : Int32} (h0 : 0 ≤ c.toInt) (h1 : c.toInt ≤ 65535) : C16 c := by
  refine ⟨?_, ?_⟩ <;> rw [lt_iff]
  · show ¬ c.toInt < 0; omega
  · show ¬ (65535 : Int) < c.toInt; omega
theorem C16.i2c (x : Int32) : C16 x.toUInt32.toUInt16.toUInt32.toInt32 := by
  have q := c_i2c x
  exact C16.of q.2.1 (by omega)
theorem C16.nar {c : Int32} (h : C16 c) : nar .char c = c := nar_char h.1 h.2
def hb8 (c : Int32) : Int32 := (c >>> ((8 : Int32) &&& 31)).toInt8.toInt32
def u2b : List Int32 → List Value
  | [] => []
  | c :: cs => .int c.toInt8.toInt32 :: .int (hb8 c) :: u2b cs
theorem u2b_len (cs : List Int32) : (u2b cs).length = 2 * cs.length := by
  induction cs with
  | nil => rfl
  | cons c cs ih => simp only [u2b, List.length_cons, ih]; omega
theorem u2b_app (cs ds : List Int32) : u2b (cs ++ ds) = u2b cs ++ u2b ds := by
  induction cs with
  | nil => rfl
  | cons c cs ih => simp only [u2b, List.cons_append, ih]
theorem u2b_lo (cs : List Int32) (i : Nat) (hi : i < cs.length) : (u2b cs).getD (2 * i) (.int 0) = .int (cs.getD i 0).toInt8.toInt32 := by
  induction cs generalizing i with
  | nil => simp at hi
  | cons c cs ih => cases i with
    | zero => rfl
    | succ i =>
      have : 2 * (i + 1) = (2 * i) + 1 + 1 := by omega
      rw [this]; exact ih i (by simpa using hi)
theorem u2b_hi (cs : List Int32) (i : Nat) (hi : i < cs.length) : (u2b cs).getD (2 * i + 1) (.int 0) = .int (hb8 (cs.getD i 0)) := by
  induction cs generalizing i with
  | nil => simp at hi
  | cons c cs ih => cases i with
    | zero => rfl
    | succ i =>
      have : 2 * (i + 1) + 1 = (2 * i + 1) + 1 + 1 := by omega
      rw [this]; exact ih i (by simpa using hi)
theorem u2b_step {cs : List Int32} {n i : Nat} (hn : cs.length = n) (hi : i < n) : ((u2b (cs.take i) ++ List.replicate (2 * (n - i)) (Value.int 0)).set (2 * i) (Value.int (cs.getD i 0).toInt8.toInt32)).set (2 * i + 1) (Value.int (hb8 (cs.getD i 0))) = u2b (cs.take (i + 1)) ++ List.replicate (2 * (n - (i + 1))) (Value.int 0) := by
  have e1 : 2 * (n - i) = 2 * (n - (i + 1)) + 1 + 1 := by omega
  have e2 : (u2b (cs.take i)).length = 2 * i := by rw [u2b_len, List.length_take]; omega
  rw [e1, List.replicate_succ, List.replicate_succ, List.set_append_right _ _ (by omega), e2, Nat.sub_self, List.set_cons_zero, List.set_append_right _ _ (by omega), e2, show 2 * i + 1 - 2 * i = 0 + 1 by omega, List.set_cons_succ, List.set_cons_zero]
  have e3 : cs.take (i + 1) = cs.take i ++ [cs.getD i 0] := by
    rw [List.take_add_one]
    congr 1
    rw [List.getD_eq_getElem?_getD, List.getElem?_eq_getElem (by omega)]; rfl
  rw [e3, u2b_app, List.append_assoc]; rfl
theorem n_shl1 {n : Nat} (h : n ≤ 4096) : Int32.ofNat n <<< ((1 : Int32) &&& 31) = Int32.ofNat (2 * n) := by
  apply Int32.toInt_inj.mp
  have q := c_ishl (Int32.ofNat n) 1 1 (by decide)
  rw [n_toInt (by omega)] at q
  have r := rng32 (Int32.ofNat n <<< ((1 : Int32) &&& 31))
  rw [n_toInt (i := 2 * n) (by omega)]
  have e2 : ((2 ^ 1 : Nat) : Int) = 2 := rfl
  rw [e2] at q
  omega
theorem n_shr1 {n : Nat} (h : n ≤ 4096) : Int32.ofNat (2 * n) >>> ((1 : Int32) &&& 31) = Int32.ofNat n := by
  apply Int32.toInt_inj.mp
  rw [c_ishr _ 1 1 (by decide), n_toInt (by omega), n_toInt (by omega)]
  show ((2 * n : Nat) : Int) / 2 = n
  omega
theorem coder1 {n : Nat} (h : n ≤ 4096) (h0 : 0 < n) : (Jvm.Free.XT.ushr (Int32.ofNat n - Int32.ofNat (2 * n)) (31 : Int32)).toInt8.toInt32 = 1 := by
  have e : Jvm.Free.XT.ushr (Int32.ofNat n - Int32.ofNat (2 * n)) (31 : Int32) = 1 := by
    apply Int32.toInt_inj.mp
    have q := c_iushr (Int32.ofNat n - Int32.ofNat (2 * n)) 31 31 (by decide) (by decide)
    have s := c_isub (Int32.ofNat n) (Int32.ofNat (2 * n))
    rw [n_toInt (by omega), n_toInt (by omega)] at s
    have r := rng32 (Int32.ofNat n - Int32.ofNat (2 * n))
    show (Int32.toUInt32 (Int32.ofNat n - Int32.ofNat (2 * n)) >>> ((31 : Int32) &&& 31).toUInt32).toInt32.toInt = (1 : Int32).toInt
    rw [q]
    have e1 : (1 : Int32).toInt = 1 := rfl
    have e2 : ((2 ^ 31 : Nat) : Int) = 2147483648 := rfl
    rw [e1, e2]
    omega
  rw [e]; rfl
theorem u16back {c : Int32} (h : C16 c) : (((c.toInt8.toInt32 &&& 255) <<< ((0 : Int32) &&& 31)) ||| ((hb8 c &&& 255) <<< ((8 : Int32) &&& 31))).toUInt32.toUInt16.toUInt32.toInt32 = c := by
  rw [shl0]
  have r := h.rng
  have b0 := c_i2b c
  have m0 : (c.toInt8.toInt32 &&& 255).toInt = c.toInt8.toInt32.toInt % 256 := c_mask c.toInt8.toInt32 255 8 (by decide) (by decide)
  have s1 : (c >>> ((8 : Int32) &&& 31)).toInt = c.toInt / 256 := c_ishr c 8 8 (by decide)
  have b1 := c_i2b (c >>> ((8 : Int32) &&& 31))
  have m1 : (hb8 c &&& 255).toInt = (hb8 c).toInt % 256 := c_mask (hb8 c) 255 8 (by decide) (by decide)
  have b1' : ((hb8 c).toInt - c.toInt / 256) % 256 = 0 := by rw [← s1]; exact b1.1
  have sh := c_ishl (hb8 c &&& 255) 8 8 (by decide)
  have e256 : ((2 ^ 8 : Nat) : Int) = 256 := rfl
  rw [e256] at sh
  have rs := rng32 ((hb8 c &&& 255) <<< ((8 : Int32) &&& 31))
  have o := c_or' (c.toInt8.toInt32 &&& 255) ((hb8 c &&& 255) <<< ((8 : Int32) &&& 31)) 8 (by decide) 256 (by decide) (by omega) (by omega) (by omega)
  have ic := c_i2c ((c.toInt8.toInt32 &&& 255) ||| ((hb8 c &&& 255) <<< ((8 : Int32) &&& 31)))
  apply Int32.toInt_inj.mp
  omega
variable {Z : State} {h h' : Heap} {a b : Addr} {k : ClassId} {cs : List Int32}
/-- a UTF-16 String whose chars are cs; b its byte[] -/
def U16B (Z : State) (h : Heap) (a b : Addr) (k : ClassId) (cs : List Int32) : Prop :=
  Exa Z h a "java/lang/String" ∧ Fld Z h a "java/lang/String" "coder" "B" (.int 1) ∧ Fld Z h a "java/lang/String" "value" "[B" (.ref b) ∧ Arv Z h b k .byte (Int32.ofNat (2 * cs.length)) (u2b cs) (.int 0) ∧ (∀ c ∈ cs, C16 c) ∧ cs.length ≤ 4096 ∧ 0 < cs.length
theorem U16B.kp (F : U16B Z h a b k cs) (K : Keep h h' []) (_ : a ∉ ([] : List Addr)) : U16B Z h' a b k cs := ⟨F.1.keep K, F.2.1.keep K nin0, F.2.2.1.keep K nin0, F.2.2.2.1.keep K nin0, F.2.2.2.2⟩
/-- StringUTF16's statics -/
def U16S (Z : State) : Prop := Sta Z Z.heap "java/lang/StringUTF16" "$assertionsDisabled" "Z" (.int 1) ∧ Sta Z Z.heap "java/lang/StringUTF16" "HI_BYTE_SHIFT" "I" (.int 0) ∧ Sta Z Z.heap "java/lang/StringUTF16" "LO_BYTE_SHIFT" "I" (.int 8)
/-- the formatter that checkIndex is handed -/
def Fmt (Z : State) : Prop := ∃ v : Value, Sta Z Z.heap "jdk/internal/util/Preconditions" "SIOOBE_FORMATTER" "Ljava/util/function/BiFunction;" v ∧ v.isRef = true
end U16
end Jvm.OwnK
namespace Jvm.OwnK
open Sem ClassFile Op Lib Bundle Jvm.Free Jvm.Stand Jvm.LawKit Jvm.RoadKit
section Dec
/-- n has d decimal digits -/
def isDig (n d : Nat) : Prop := 1 ≤ d ∧ n < 10 ^ d ∧ (d = 1 ∨ 10 ^ (d - 1) ≤ n)
theorem isDig.unique {n d d' : Nat} (h : isDig n d) (g : isDig n d') : d = d' := by
  obtain ⟨h1, h2, h3⟩ := h
  obtain ⟨g1, g2, g3⟩ := g
  rcases Nat.lt_trichotomy d d' with q | q | q
  · rcases g3 with g3 | g3
    · omega
    · have := Nat.pow_le_pow_right (n := 10) (by decide) (show d ≤ d' - 1 by omega)
      omega
  · exact q
  · rcases h3 with h3 | h3
    · omega
    · have := Nat.pow_le_pow_right (n := 10) (by decide) (show d' ≤ d - 1 by omega)
      omega
theorem isDig.down {n d : Nat} (h : isDig n d) (hn : 100 ≤ n) : 3 ≤ d ∧ isDig (n / 100) (d - 2) := by
  obtain ⟨h1, h2, h3⟩ := h
  have hd : 3 ≤ d := by
    rcases Nat.lt_or_ge d 3 with q | q
    · have : d = 1 ∨ d = 2 := by omega
      rcases this with rfl | rfl <;> simp at h2 <;> omega
    · exact q
  refine ⟨hd, by omega, ?_, ?_⟩
  · have e : 10 ^ d = 10 ^ (d - 2) * 100 := by rw [show d = (d - 2) + 2 by omega, Nat.pow_add]; simp
    rw [e] at h2
    exact Nat.div_lt_of_lt_mul (by rw [Nat.mul_comm]; exact h2)
  · rcases Nat.eq_or_lt_of_le hd with q | q
    · exact Or.inl (by omega)
    · refine Or.inr ?_
      have h3' : 10 ^ (d - 1) ≤ n := by rcases h3 with h3 | h3; omega; exact h3
      have e : 10 ^ (d - 1) = 10 ^ (d - 2 - 1) * 100 := by rw [show d - 1 = (d - 2 - 1) + 2 by omega, Nat.pow_add]
      rw [e] at h3'
      exact (Nat.le_div_iff_mul_le (by decide)).mpr h3'
theorem ltN {y p : Int32} {n P : Nat} (hy : y.toInt = -(n : Int)) (hp : p.toInt = -(P : Int)) : p < y ↔ n < P := by
  rw [lt_iff, hy, hp]; omega
def dch (n j : Nat) : Int32 := Int32.ofNat (48 + n / 10 ^ j % 10)
def decs (n d : Nat) : List Int32 := (List.range d).map fun k => dch n (d - 1 - k)
theorem decs_len (n d : Nat) : (decs n d).length = d := by simp [decs]
theorem decs_getD {n d k : Nat} (hk : k < d) : (decs n d).getD k 0 = dch n (d - 1 - k) := by
  rw [List.getD_eq_getElem?_getD, List.getElem?_eq_getElem (by rw [decs_len]; exact hk)]
  simp [decs]
theorem dch_L1 (n j : Nat) : L1 (dch n j) := by
  have : n / 10 ^ j % 10 < 10 := Nat.mod_lt _ (by decide)
  refine L1.of ?_ ?_ <;> rw [dch, n_toInt (by omega)] <;> omega
theorem nb {m : Nat} (h : m < 128) : (Int32.ofNat m).toInt8.toInt32 = Int32.ofNat m := by
  apply Int32.toInt_inj.mp
  have q := c_i2b (Int32.ofNat m)
  rw [n_toInt (by omega)] at q ⊢
  omega
theorem dch_b (n j : Nat) : (dch n j).toInt8.toInt32 = dch n j := nb (by have : n / 10 ^ j % 10 < 10 := Nat.mod_lt _ (by decide); omega)
theorem getD_set_eq {vs : List Value} {i : Nat} {x d : Value} (h : i < vs.length) : (vs.set i x).getD i d = x := by
  rw [List.getD_eq_getElem?_getD, List.getElem?_set_self h]; rfl
theorem getD_set_ne {vs : List Value} {i j : Nat} {x d : Value} (h : i ≠ j) : (vs.set i x).getD j d = vs.getD j d := by
  rw [List.getD_eq_getElem?_getD, List.getElem?_set_ne h, List.getD_eq_getElem?_getD]
/-- the digits of n stand behind p, the sign ahead of them -/
def Wrote (vs vs' : List Value) (p n d sg : Nat) : Prop :=
  vs'.length = vs.length ∧ (∀ j, j < d → vs'.getD (p - 1 - j) (.int 0) = .int (dch n j)) ∧ (sg = 1 → vs'.getD (p - 1 - d) (.int 0) = .int 45) ∧ ∀ i, i < p - (d + sg) ∨ p ≤ i → vs'.getD i (.int 0) = vs.getD i (.int 0)
theorem Wrote.two {vs vs' : List Value} {p n d sg : Nat} {x y : Value} (hx : x = .int (dch n 0)) (hy : y = .int (dch n 1)) (h3 : 3 ≤ d) (hp : d + sg ≤ p) (hl : p ≤ vs.length) (W : Wrote ((vs.set (p - 1) x).set (p - 2) y) vs' (p - 2) (n / 100) (d - 2) sg) : Wrote vs vs' p n d sg := by
  subst hx hy
  obtain ⟨w1, w2, w3, w4⟩ := W
  refine ⟨by rw [w1]; simp, fun j hj => ?_, fun hs => ?_, fun i hi => ?_⟩
  · rcases Nat.lt_or_ge j 2 with q | q
    · have e : j = 0 ∨ j = 1 := by omega
      rcases e with rfl | rfl
      · rw [w4 _ (Or.inr (by omega)), getD_set_ne (by omega), show p - 1 - 0 = p - 1 by omega, getD_set_eq (by omega)]
      · rw [w4 _ (Or.inr (by omega)), show p - 1 - 1 = p - 2 by omega, getD_set_eq (by rw [List.length_set]; omega)]
    · have e := w2 (j - 2) (by omega)
      rw [show p - 2 - 1 - (j - 2) = p - 1 - j by omega] at e
      rw [e]
      have e2 : n / 100 / 10 ^ (j - 2) = n / 10 ^ j := by
        rw [Nat.div_div_eq_div_mul, show (100 : Nat) = 10 ^ 2 by decide, ← Nat.pow_add, show 2 + (j - 2) = j by omega]
      rw [dch, dch, e2]
  · have e := w3 hs
    rw [show p - 2 - 1 - (d - 2) = p - 1 - d by omega] at e
    exact e
  · rw [w4 i (by omega), getD_set_ne (by omega), getD_set_ne (by omega)]
theorem Wrote.list {cs : List Int32} {rest vs' : List Value} {n d sg cap : Nat} (hr : cs.length + rest.length = cap) (hs : sg = 0 ∨ sg = 1) (hd : cs.length + (d + sg) ≤ cap) (W : Wrote (cs.map bv ++ rest) vs' (cs.length + (d + sg)) n d sg) : vs' = (cs ++ ((if sg = 1 then [45] else []) ++ decs n d)).map bv ++ vs'.drop (cs.length + (d + sg)) := by
  obtain ⟨w1, w2, w3, w4⟩ := W
  have hl : vs'.length = cap := by rw [w1]; simp; omega
  have hlen : (cs ++ ((if sg = 1 then [45] else []) ++ decs n d)).length = cs.length + (d + sg) := by
    rcases hs with rfl | rfl <;> simp [decs_len] <;> omega
  have key : ∀ i, i < cs.length + (d + sg) → vs'.getD i (.int 0) = .int ((cs ++ ((if sg = 1 then [45] else []) ++ decs n d)).getD i 0).toInt8.toInt32 := by
    intro i hi
    rcases Nat.lt_or_ge i cs.length with q | q
    · rw [w4 i (Or.inl (by omega))]
      have e1 : (cs.map bv ++ rest).getD i (.int 0) = (cs.map bv).getD i (.int 0) := by
        rw [List.getD_eq_getElem?_getD, List.getElem?_append_left (by simpa using q), List.getD_eq_getElem?_getD]
      have e2 : (cs ++ ((if sg = 1 then [45] else []) ++ decs n d)).getD i 0 = cs.getD i 0 := by
        rw [List.getD_eq_getElem?_getD, List.getElem?_append_left q, List.getD_eq_getElem?_getD]
      rw [e1, e2, bv_getD]
    · have e2 : (cs ++ ((if sg = 1 then [45] else []) ++ decs n d)).getD i 0 = ((if sg = 1 then [45] else []) ++ decs n d).getD (i - cs.length) 0 := by
        rw [List.getD_eq_getElem?_getD, List.getElem?_append_right q, List.getD_eq_getElem?_getD]
      rw [e2]
      rcases hs with rfl | rfl
      · simp only [show ¬ (0 : Nat) = 1 by decide, if_false, List.nil_append]
        rw [decs_getD (by omega), dch_b]
        have := w2 (d - 1 - (i - cs.length)) (by omega)
        rw [show cs.length + (d + 0) - 1 - (d - 1 - (i - cs.length)) = i by omega] at this
        exact this
      · simp only [if_true]
        rcases Nat.eq_or_lt_of_le q with q | q
        · rw [← q, Nat.sub_self]
          have := w3 rfl
          rw [show cs.length + (d + 1) - 1 - d = cs.length by omega] at this
          exact this
        · have e3 : ([45] ++ decs n d : List Int32).getD (i - cs.length) 0 = (decs n d).getD (i - cs.length - 1) 0 := by
            rw [List.getD_eq_getElem?_getD, List.getElem?_append_right (by simp; omega), List.getD_eq_getElem?_getD]; rfl
          rw [e3, decs_getD (by omega), dch_b]
          have := w2 (d - 1 - (i - cs.length - 1)) (by omega)
          rw [show cs.length + (d + 1) - 1 - (d - 1 - (i - cs.length - 1)) = i by omega] at this
          exact this
  apply List.ext_getElem
  · rw [List.length_append, List.length_map, hlen, List.length_drop, hl]; omega
  · intro i h1 h2
    rcases Nat.lt_or_ge i (cs.length + (d + sg)) with q | q
    · rw [List.getElem_append_left (by rw [List.length_map, hlen]; exact q), List.getElem_map]
      have := key i q
      rw [List.getD_eq_getElem?_getD, List.getElem?_eq_getElem h1, List.getD_eq_getElem?_getD, List.getElem?_eq_getElem (by rw [hlen]; exact q)] at this
      exact this
    · rw [List.getElem_append_right (by rw [List.length_map, hlen]; exact q), List.getElem_drop]
      congr 1
      rw [List.length_map, hlen]; omega
theorem Wrote.b10 {vs : List Value} {p n : Nat} (hp : 1 ≤ p) (hl : p ≤ vs.length) : Wrote vs (vs.set (p - 1) (.int (dch n 0))) p n 1 0 := by
  refine ⟨by simp, fun j hj => ?_, fun hs => by omega, fun i hi => getD_set_ne (by omega)⟩
  obtain rfl : j = 0 := by omega
  exact getD_set_eq (by omega)
theorem Wrote.b11 {vs : List Value} {p n : Nat} (hp : 2 ≤ p) (hl : p ≤ vs.length) : Wrote vs ((vs.set (p - 1) (.int (dch n 0))).set (p - 2) (.int 45)) p n 1 1 := by
  refine ⟨by simp, fun j hj => ?_, fun _ => ?_, fun i hi => by rw [getD_set_ne (by omega), getD_set_ne (by omega)]⟩
  · obtain rfl : j = 0 := by omega
    rw [getD_set_ne (by omega)]
    exact getD_set_eq (by omega)
  · rw [show p - 1 - 1 = p - 2 by omega]
    exact getD_set_eq (by rw [List.length_set]; omega)
theorem Wrote.b20 {vs : List Value} {p n : Nat} (hp : 2 ≤ p) (hl : p ≤ vs.length) : Wrote vs ((vs.set (p - 1) (.int (dch n 0))).set (p - 2) (.int (dch n 1))) p n 2 0 := by
  refine ⟨by simp, fun j hj => ?_, fun hs => by omega, fun i hi => by rw [getD_set_ne (by omega), getD_set_ne (by omega)]⟩
  have e : j = 0 ∨ j = 1 := by omega
  rcases e with rfl | rfl
  · rw [getD_set_ne (by omega)]
    exact getD_set_eq (by omega)
  · rw [show p - 1 - 1 = p - 2 by omega]
    exact getD_set_eq (by rw [List.length_set]; omega)
theorem Wrote.b21 {vs : List Value} {p n : Nat} (hp : 3 ≤ p) (hl : p ≤ vs.length) : Wrote vs (((vs.set (p - 1) (.int (dch n 0))).set (p - 2) (.int (dch n 1))).set (p - 3) (.int 45)) p n 2 1 := by
  refine ⟨by simp, fun j hj => ?_, fun _ => ?_, fun i hi => by rw [getD_set_ne (by omega), getD_set_ne (by omega), getD_set_ne (by omega)]⟩
  · rw [getD_set_ne (by omega)]
    have e : j = 0 ∨ j = 1 := by omega
    rcases e with rfl | rfl
    · rw [getD_set_ne (by omega)]
      exact getD_set_eq (by omega)
    · rw [show p - 1 - 1 = p - 2 by omega]
      exact getD_set_eq (by rw [List.length_set]; omega)
  · rw [show p - 1 - 2 = p - 3 by omega]
    exact getD_set_eq (by rw [List.length_set, List.length_set]; omega)
theorem ones_eq (n : Nat) : Int32.ofNat (48 + n % 100 % 10) = dch n 0 := by
  unfold dch; rw [Nat.pow_zero, Nat.div_one]; congr 1; omega
theorem tens_eq (n : Nat) : Int32.ofNat (48 + n % 100 / 10) = dch n 1 := by
  unfold dch; rw [Nat.pow_one]; congr 1; omega
/-- Integer's two tables -/
def Dg (Z : State) : Prop := ∃ (a1 a2 : Addr) (k1 k2 : ClassId), Sta Z Z.heap "java/lang/Integer" "DigitOnes" "[B" (.ref a1) ∧ Sta Z Z.heap "java/lang/Integer" "DigitTens" "[B" (.ref a2) ∧
  Arv Z Z.heap a1 k1 .byte 100 ((List.range 100).map fun i => .int (Int32.ofNat (48 + i % 10))) (.int 0) ∧ Arv Z Z.heap a2 k2 .byte 100 ((List.range 100).map fun i => .int (Int32.ofNat (48 + i / 10))) (.int 0)
theorem tab_getD (f : Nat → Value) {i : Nat} (hi : i < 100) : ((List.range 100).map f).getD i (.int 0) = f i := by
  rw [List.getD_eq_getElem?_getD, List.getElem?_eq_getElem (by simpa using hi)]; simp
theorem neg_toInt {x : Int32} {n : Nat} (hx : x.toInt = -(n : Int)) (hn : n < 2147483648) : -x = Int32.ofNat n := by
  apply Int32.toInt_inj.mp
  have q := c_ineg x
  have r := rng32 (-x)
  rw [n_toInt hn]
  omega
theorem pos_neg {x : Int32} {n : Nat} (hx : x.toInt = (n : Int)) : (-x).toInt = -(n : Int) := by
  have q := c_ineg x
  have r := rng32 (-x)
  have r2 := rng32 x
  omega
theorem gc_q {y : Int32} {n : Nat} (hy : y.toInt = -(n : Int)) : (y / (100 : Int32)).toInt = -((n / 100 : Nat) : Int) := by
  have q := c_idiv y 100 100 rfl (by decide)
  rcases Nat.eq_zero_or_pos n with z | z
  · subst z
    rw [q.1 (by omega)]; rw [hy]; rfl
  · rw [q.2 (by omega), hy]; omega
theorem gc_r {y : Int32} {n : Nat} (hy : y.toInt = -(n : Int)) : (y / (100 : Int32)) * (100 : Int32) - y = Int32.ofNat (n % 100) := by
  apply Int32.toInt_inj.mp
  have hq := gc_q hy
  have m := c_imul (y / (100 : Int32)) 100
  have e100 : (100 : Int32).toInt = 100 := rfl
  have s := c_isub ((y / (100 : Int32)) * (100 : Int32)) y
  have r1 := rng32 ((y / (100 : Int32)) * (100 : Int32))
  have r2 := rng32 ((y / (100 : Int32)) * (100 : Int32) - y)
  have ry := rng32 y
  rw [n_toInt (by omega)]
  rw [hq, e100] at m
  omega
theorem n_pred {p : Nat} (h : 0 < p) : Int32.ofNat p + (-1 : Int32) = Int32.ofNat (p - 1) := by
  apply Int32.toInt_inj.mp
  have e : Int32.ofNat p = Int32.ofNat (p - 1) + 1 := by rw [n_succ]; congr 1; omega
  rw [e]
  have q := c_iadd (Int32.ofNat (p - 1)) 1
  have q2 := c_iadd (Int32.ofNat (p - 1) + 1) (-1)
  have e1 : (1 : Int32).toInt = 1 := rfl
  have e2 : (-1 : Int32).toInt = -1 := rfl
  have r1 := rng32 (Int32.ofNat (p - 1))
  have r2 := rng32 (Int32.ofNat (p - 1) + 1 + -1)
  omega
end Dec
end Jvm.OwnK
namespace Jvm.OwnK
open Sem ClassFile Op Lib Bundle Jvm.Free Jvm.Stand Jvm.LawKit Jvm.RoadKit
section Dec2
theorem sub0 (x : Int32) : x - (0 : Int32) = x := by
  apply Int32.toInt_inj.mp
  have q := c_isub x 0
  have r := rng32 (x - 0)
  have r2 := rng32 x
  have e0 : (0 : Int32).toInt = 0 := rfl
  omega
theorem range_getD' (cs : List Int32) (rest : List Value) (n : Nat) (hn : cs.length = n) : ((List.range n).map fun i => (cs.map bv ++ rest).getD (0 + i) (.int 0)) = cs.map bv := by
  subst hn
  apply List.ext_getElem
  · simp
  · intro i h1 h2
    simp only [List.length_map, List.length_range] at h1
    simp [List.getElem_map, List.getD_eq_getElem?_getD, h1, List.getElem?_append_left]
theorem j_toInt {i : Nat} (h : i < 9223372036854775808) : (Int64.ofNat i).toInt = i := Int64.toInt_ofNat_of_lt h
/-- (char) ('0' + (int) ((v / p) % 10)) -/
theorem digit_eq {v p : Int64} {n e : Nat} (hv : v.toInt = (n : Int)) (hp : p.toInt = ((10 ^ e : Nat) : Int)) (h1 : p ≠ -1) : (((48 : Int32) + ((v / p) % (10 : Int64)).toInt32).toUInt32.toUInt16.toUInt32.toInt32) = dch n e := by
  have q := (c_ldiv v p _ hp h1).1 (by omega)
  rw [hv] at q
  have q2 : (v / p).toInt = ((n / 10 ^ e : Nat) : Int) := by rw [q]; exact (Int.natCast_ediv _ _).symm ▸ rfl
  have m := (c_lrem (v / p) 10 10 rfl).1 (by rw [q2]; exact Int.natCast_nonneg _)
  rw [lrem_mod, q2] at m
  have hm : n / 10 ^ e % 10 < 10 := Nat.mod_lt _ (by decide)
  have m2 : ((v / p) % (10 : Int64)).toInt = ((n / 10 ^ e % 10 : Nat) : Int) := by rw [m]; exact (Int.natCast_emod _ _).symm ▸ rfl
  have l := c_l2i ((v / p) % (10 : Int64))
  have rl := rng32 ((v / p) % (10 : Int64)).toInt32
  rw [m2] at l
  have a := c_iadd (48 : Int32) ((v / p) % (10 : Int64)).toInt32
  have e48 : (48 : Int32).toInt = 48 := rfl
  have ra := rng32 ((48 : Int32) + ((v / p) % (10 : Int64)).toInt32)
  have c := c_i2c ((48 : Int32) + ((v / p) % (10 : Int64)).toInt32)
  apply Int32.toInt_inj.mp
  rw [dch, n_toInt (by omega)]
  omega
end Dec2
end Jvm.OwnK
namespace Jvm.OwnK
open Sem ClassFile Op Lib Bundle Jvm.Free Jvm.Stand Jvm.LawKit Jvm.RoadKit
theorem ltJ {v p : Int64} {n P : Nat} (hv : v.toInt = (n : Int)) (hp : p.toInt = (P : Int)) : v < p ↔ n < P := by
  rw [Int64.lt_iff_toInt_lt, hv, hp]; omega
theorem n_sub {i j : Nat} (h : j ≤ i) : Int32.ofNat i - Int32.ofNat j = Int32.ofNat (i - j) := by
  apply Int32.toInt_inj.mp
  have e : Int32.ofNat i = Int32.ofNat (i - j) + Int32.ofNat j := by rw [n_add]; congr 1; omega
  rw [e]
  have q := c_iadd (Int32.ofNat (i - j)) (Int32.ofNat j)
  have q2 := c_isub (Int32.ofNat (i - j) + Int32.ofNat j) (Int32.ofNat j)
  have r1 := rng32 (Int32.ofNat (i - j))
  have r2 := rng32 (Int32.ofNat (i - j) + Int32.ofNat j - Int32.ofNat j)
  omega
theorem arrayAt_cell {Z : State} {a : Addr} {SA : Cell} (h : Z.arrayAt? a = some SA) : Z.heap[a]? = some SA ∧ SA.vm ≠ .unknown := by
  simp only [State.arrayAt?, Option.bind_eq_bind, Option.bind_eq_some_iff] at h
  obtain ⟨c, h1, k, h2, h3⟩ := h
  split at h3
  · cases h3
  · rename_i hn
    split at h3
    · cases h3; exact ⟨h1, fun q => hn (Or.inl q)⟩
    · cases h3
theorem fits_b {n : Nat} (h : n < 128) : fits .byte (.int (Int32.ofNat n)) = true := by
  have e := n_toInt (i := n) (by omega)
  have e1 : (-128 : Int32).toInt = -128 := rfl
  have e2 : (127 : Int32).toInt = 127 := rfl
  have k : fits .byte (.int (Int32.ofNat n)) = (decide ((-128 : Int32) ≤ Int32.ofNat n) && decide (Int32.ofNat n ≤ (127 : Int32))) := rfl
  rw [k, Bool.and_eq_true, decide_eq_true_eq, decide_eq_true_eq, Int32.le_iff_toInt_le, Int32.le_iff_toInt_le, e, e1, e2]
  omega
/-- a table of bytes that stood at the start -/
theorem tab_of {Z : State} {args a0 : Array Value} {t F : Term} {f : Nat → Int32} (wa : (Cond.arrayClass .byte).before a0 Z = true) (ht : ∀ idx, t.eval args Z none idx Z = t.eval args Z none [] Z)
    (wx : (Cond.exactly t "[B").value args Z none Z [] = some true) (wl : (Cond.eq (.length t) (.int 100)).value args Z none Z [] = some true) (wt : (Cond.all t (.eq (.elem t (.index 0)) F)).value args Z none Z [] = some true)
    (hF : ∀ j, j < 100 → F.eval args Z none [j] Z = some (.int (f j))) (hf : ∀ j, j < 100 → fits .byte (.int (f j)) = true) :
    ∃ a k, t.eval args Z none [] Z = some (.ref a) ∧ Arv Z Z.heap a k .byte 100 ((List.range 100).map fun i => .int (f i)) (.int 0) := by
  obtain ⟨a3, c3, cell3, k3, e1, e2, e3, e4, e5, e6, -⟩ := Cond.exactly_spec (Cond.before_iff.mpr wx)
  have hlen := eqv_i (Term.int_eval 100) wl
  obtain ⟨sd, SA, hev, harrAt, -⟩ := Term.length_spec hlen
  cases hev.symm.trans e1
  have h31 := SBG.length_lt hev harrAt hlen
  have hsz : SA.slots.size = 100 := by
    have e : (Term.length t).eval args Z none [] Z = some (.int (Int32.ofNat SA.slots.size)) := by simp [Term.eval, hev, harrAt, h31]
    have h2 : Int32.ofNat SA.slots.size = (100 : Int32) := by simpa using Option.some.inj (e.symm.trans hlen)
    have := congrArg Int32.toInt h2
    rw [Int32.toInt_ofNat_small h31] at this
    have e100 : (100 : Int32).toInt = 100 := rfl
    omega
  have hcell := arrayAt_cell harrAt
  have hSA : SA = cell3 := Option.some.inj (hcell.1.symm.trans e3)
  subst hSA
  obtain ⟨c4, k4, comp, f1, f2, f3⟩ := Cond.arrayClass_spec wa
  cases (show Z.vm.findClass "[B" = some c4 from f1).symm.trans e2
  have hA : Z.isArrayOf SA .byte := ⟨(fun q r => by rw [r] at e5; cases e5), k4, by rw [e6]; exact f2, comp, f3⟩
  have A : Arr Z Z.heap a3 SA .byte := ⟨hcell.1, hA, hcell.2⟩
  have el : ∀ j, j < 100 → SA.slots[j]? = some (.int (f j)) := fun j hj => by
    have u := Cond.all_elim hev (A.fin (Vm.Alike.refl _)) wt j (by omega)
    have v := eqv_i (hF j hj) u
    have hj31 : j < 2147483648 := by omega
    have nn := n_nn hj31
    have cl := n_clamp hj31
    have ix : (Term.index 0).eval args Z none [(Int32.ofNat j).toNatClampNeg] Z = some (.int (Int32.ofNat j)) := idx_at nn
    have w := elem_f (t := t) ((ht _).trans hev) ix (A.fin (Vm.Alike.refl _)) nn
    rw [cl] at w
    exact w.symm.trans v
  refine ⟨a3, SA.cls, hev, SA, A, rfl, by rw [hsz]; rfl, by decide, fun j hj => ?_, fun j hj => ?_⟩
  · rw [hsz] at hj
    rw [el j hj, tab_getD _ hj]
  · rw [hsz] at hj
    rw [tab_getD _ hj]; exact hf j hj
end Jvm.OwnK
namespace Jvm.OwnK
open Sem ClassFile Op Lib Bundle Jvm.Free Jvm.Stand Jvm.LawKit Jvm.RoadKit
/-- what a StringBuilder of cap places holds after it was asked for m -/
def gcap (cap m : Nat) : Nat := if m ≤ cap then cap else cap + max (m - cap) (cap + 2)
theorem gcap_le {cap m : Nat} (h : m ≤ cap) : gcap cap m = cap := if_pos h
theorem gcap_gt {cap m : Nat} (h : cap < m) : gcap cap m = cap + max (m - cap) (cap + 2) := if_neg (by omega)
theorem gcap_ge (cap m : Nat) : m ≤ gcap cap m ∧ cap ≤ gcap cap m := by unfold gcap; split <;> omega
theorem gcap_dbl {cap m : Nat} (h : m ≤ 2 * cap + 2) : gcap cap m = cap ∨ gcap cap m = 2 * cap + 2 := by unfold gcap; split <;> omega
theorem gcap_mono (cap : Nat) {m m' : Nat} (h : m ≤ m') : gcap cap m ≤ gcap cap m' := by unfold gcap; split <;> split <;> omega
theorem n_max {g p : Nat} (hg : g < 2147483648) (hp : p < 2147483648) : (if Int32.ofNat g < Int32.ofNat p then Int32.ofNat p else Int32.ofNat g) = Int32.ofNat (max g p) := by
  rcases Nat.lt_or_ge g p with q | q
  · rw [if_pos (n_lt q hp)]; congr 1; omega
  · rw [if_neg (n_ge q hg)]; congr 1; omega
theorem range_vs (vs : List Value) (n : Nat) (hn : vs.length = n) : ((List.range n).map fun i => vs.getD (0 + i) (.int 0)) = vs := by
  subst hn
  apply List.ext_getElem
  · simp
  · intro i h1 h2
    simp only [List.length_map, List.length_range] at h1
    simp [List.getD_eq_getElem?_getD, h1]
theorem sub_gt0 {m n : Nat} (h : n < m) (hm : m ≤ 4096) : 0 < Int32.ofNat m - Int32.ofNat n := by
  rw [n_sub (by omega)]; exact n_lt (i := 0) (by omega) (by omega)
theorem sub_le0' {m n : Nat} (h : m ≤ n) (hn : n ≤ 4096) : ¬ 0 < Int32.ofNat m - Int32.ofNat n := by
  have q := sub_le0 h hn
  rw [shr0] at q; exact q
theorem mid_getD {A B C : List Int32} {j : Nat} (hj : j < B.length) : (A ++ (B ++ C)).getD (A.length + j) 0 = B.getD j 0 := by
  rw [List.getD_eq_getElem?_getD, List.getElem?_append_right (by omega), show A.length + j - A.length = j by omega, List.getElem?_append_left hj, List.getD_eq_getElem?_getD]
theorem gcap_set {cp m : Nat} (h : cp = 16 ∨ cp = 34) (hm : m ≤ 34) : gcap cp m = 16 ∨ gcap cp m = 34 := by
  unfold gcap; rcases h with rfl | rfl <;> split <;> omega
theorem seg {cs A B C : List Int32} {o : Nat} (e : cs = A ++ (B ++ C)) (ho : A.length = o) : ∀ j, j < B.length → cs.getD (o + j) 0 = B.getD j 0 := by
  subst e ho; intro j hj; exact mid_getD hj
theorem seg_len {cs A B C : List Int32} {o : Nat} (e : cs = A ++ (B ++ C)) (ho : A.length = o) : o + B.length ≤ cs.length := by
  subst e ho; simp only [List.length_append]; omega
end Jvm.OwnK
namespace Jvm.Pilot.@@N@@
open Jvm Jvm.ClassFile Sem Op Lib Jvm.Free Jvm.Stand Jvm.LawKit Jvm.RoadKit Bundle Jvm.OwnK Jvm.Pilot.@@N@@.Jvm.D
abbrev Hw (Z : State) (a0 : Array Value) : Prop := ∀ d ∈ tables_1, d.before a0 Z = true
theorem w0 {Z : State} {a0 : Array Value} (hw : Hw Z a0) : (Jvm.Cond.methodLink "com/example/tiebreak/tiebreak/core/ChainReportDuplicateLinesPinLaw" (12 : Nat) ({ cls := "java/lang/String", name := "valueOf", desc := "(C)Ljava/lang/String;" } : Jvm.MethodName)).before a0 Z = true := hw _ (List.mem_of_getElem? (i := 0) rfl)
theorem w1 {Z : State} {a0 : Array Value} (hw : Hw Z a0) : (Jvm.Cond.static ({ cls := "java/lang/String", name := "valueOf", desc := "(C)Ljava/lang/String;" } : Jvm.MethodName)).before a0 Z = true := hw _ (List.mem_of_getElem? (i := 1) rfl)
theorem w2 {Z : State} {a0 : Array Value} (hw : Hw Z a0) : (Jvm.Cond.initialized "java/lang/String").before a0 Z = true := hw _ (List.mem_of_getElem? (i := 2) rfl)
theorem w3 {Z : State} {a0 : Array Value} (hw : Hw Z a0) : (Jvm.Cond.code ({ cls := "java/lang/String", name := "valueOf", desc := "(C)Ljava/lang/String;" } : Jvm.MethodName) jdk_42_method_139_code (1 : Nat) (Option.some (Jvm.ClassFile.FieldType.object "java/lang/String"))).before a0 Z = true := hw _ (List.mem_of_getElem? (i := 3) rfl)
theorem w4 {Z : State} {a0 : Array Value} (hw : Hw Z a0) : (Jvm.Cond.fieldLink "java/lang/String" (38 : Nat) "java/lang/String" "COMPACT_STRINGS" "Z").before a0 Z = true := hw _ (List.mem_of_getElem? (i := 4) rfl)
theorem w5 {Z : State} {a0 : Array Value} (hw : Hw Z a0) : (Jvm.Cond.methodLink "java/lang/String" (1015 : Nat) ({ cls := "java/lang/StringLatin1", name := "canEncode", desc := "(C)Z" } : Jvm.MethodName)).before a0 Z = true := hw _ (List.mem_of_getElem? (i := 5) rfl)
theorem w6 {Z : State} {a0 : Array Value} (hw : Hw Z a0) : (Jvm.Cond.static ({ cls := "java/lang/StringLatin1", name := "canEncode", desc := "(C)Z" } : Jvm.MethodName)).before a0 Z = true := hw _ (List.mem_of_getElem? (i := 6) rfl)
theorem w7 {Z : State} {a0 : Array Value} (hw : Hw Z a0) : (Jvm.Cond.initialized "java/lang/StringLatin1").before a0 Z = true := hw _ (List.mem_of_getElem? (i := 7) rfl)
theorem w8 {Z : State} {a0 : Array Value} (hw : Hw Z a0) : (Jvm.Cond.code ({ cls := "java/lang/StringLatin1", name := "canEncode", desc := "(C)Z" } : Jvm.MethodName) jdk_43_method_3_code (1 : Nat) (Option.some Jvm.ClassFile.FieldType.boolean)).before a0 Z = true := hw _ (List.mem_of_getElem? (i := 8) rfl)
theorem w9 {Z : State} {a0 : Array Value} (hw : Hw Z a0) : (Jvm.Cond.classLink "java/lang/String" (10 : Nat) "java/lang/String").before a0 Z = true := hw _ (List.mem_of_getElem? (i := 9) rfl)
theorem w10 {Z : State} {a0 : Array Value} (hw : Hw Z a0) : (Jvm.Cond.instantiable "java/lang/String" (4 : Nat)).before a0 Z = true := hw _ (List.mem_of_getElem? (i := 10) rfl)
theorem w11 {Z : State} {a0 : Array Value} (hw : Hw Z a0) : (Jvm.Cond.methodLink "java/lang/String" (1018 : Nat) ({ cls := "java/lang/StringLatin1", name := "toBytes", desc := "(C)[B" } : Jvm.MethodName)).before a0 Z = true := hw _ (List.mem_of_getElem? (i := 11) rfl)
theorem w12 {Z : State} {a0 : Array Value} (hw : Hw Z a0) : (Jvm.Cond.static ({ cls := "java/lang/StringLatin1", name := "toBytes", desc := "(C)[B" } : Jvm.MethodName)).before a0 Z = true := hw _ (List.mem_of_getElem? (i := 12) rfl)
theorem w13 {Z : State} {a0 : Array Value} (hw : Hw Z a0) : (Jvm.Cond.code ({ cls := "java/lang/StringLatin1", name := "toBytes", desc := "(C)[B" } : Jvm.MethodName) jdk_43_method_46_code (1 : Nat) (Option.some (Jvm.ClassFile.FieldType.array Jvm.ClassFile.FieldType.byte))).before a0 Z = true := hw _ (List.mem_of_getElem? (i := 13) rfl)
theorem w14 {Z : State} {a0 : Array Value} (hw : Hw Z a0) : (Jvm.Cond.arrayClass Jvm.ClassFile.FieldType.byte).before a0 Z = true := hw _ (List.mem_of_getElem? (i := 14) rfl)
theorem w15 {Z : State} {a0 : Array Value} (hw : Hw Z a0) : (Jvm.Cond.methodLink "java/lang/String" (209 : Nat) ({ cls := "java/lang/String", name := "<init>", desc := "([BB)V" } : Jvm.MethodName)).before a0 Z = true := hw _ (List.mem_of_getElem? (i := 15) rfl)
theorem w16 {Z : State} {a0 : Array Value} (hw : Hw Z a0) : (Jvm.Cond.instanceMethod ({ cls := "java/lang/String", name := "<init>", desc := "([BB)V" } : Jvm.MethodName)).before a0 Z = true := hw _ (List.mem_of_getElem? (i := 16) rfl)
theorem w18 {Z : State} {a0 : Array Value} (hw : Hw Z a0) : (Jvm.Cond.code ({ cls := "java/lang/String", name := "<init>", desc := "([BB)V" } : Jvm.MethodName) jdk_42_method_151_code (3 : Nat) (Option.none : Option Jvm.ClassFile.FieldType)).before a0 Z = true := hw _ (List.mem_of_getElem? (i := 18) rfl)
theorem w19 {Z : State} {a0 : Array Value} (hw : Hw Z a0) : (Jvm.Cond.methodLink "java/lang/String" (1 : Nat) ({ cls := "java/lang/Object", name := "<init>", desc := "()V" } : Jvm.MethodName)).before a0 Z = true := hw _ (List.mem_of_getElem? (i := 19) rfl)
theorem w20 {Z : State} {a0 : Array Value} (hw : Hw Z a0) : (Jvm.Cond.instanceMethod ({ cls := "java/lang/Object", name := "<init>", desc := "()V" } : Jvm.MethodName)).before a0 Z = true := hw _ (List.mem_of_getElem? (i := 20) rfl)
theorem w21 {Z : State} {a0 : Array Value} (hw : Hw Z a0) : (Jvm.Cond.code ({ cls := "java/lang/Object", name := "<init>", desc := "()V" } : Jvm.MethodName) object_method_1_code (1 : Nat) (Option.none : Option Jvm.ClassFile.FieldType)).before a0 Z = true := hw _ (List.mem_of_getElem? (i := 21) rfl)
theorem w22 {Z : State} {a0 : Array Value} (hw : Hw Z a0) : (Jvm.Cond.fieldLink "java/lang/String" (9 : Nat) "java/lang/String" "value" "[B").before a0 Z = true := hw _ (List.mem_of_getElem? (i := 22) rfl)
theorem w23 {Z : State} {a0 : Array Value} (hw : Hw Z a0) : (Jvm.Cond.laysFinal "java/lang/String" "java/lang/String" "value" "[B").before a0 Z = true := hw _ (List.mem_of_getElem? (i := 23) rfl)
theorem w24 {Z : State} {a0 : Array Value} (hw : Hw Z a0) : (Jvm.Cond.fieldLink "java/lang/String" (15 : Nat) "java/lang/String" "coder" "B").before a0 Z = true := hw _ (List.mem_of_getElem? (i := 24) rfl)
theorem w25 {Z : State} {a0 : Array Value} (hw : Hw Z a0) : (Jvm.Cond.laysFinal "java/lang/String" "java/lang/String" "coder" "B").before a0 Z = true := hw _ (List.mem_of_getElem? (i := 25) rfl)
theorem w26 {Z : State} {a0 : Array Value} (hw : Hw Z a0) : (Jvm.Cond.classLink "com/example/tiebreak/tiebreak/core/ChainReportDuplicateLinesPinLaw" (16 : Nat) "java/util/ArrayList").before a0 Z = true := hw _ (List.mem_of_getElem? (i := 26) rfl)
theorem w27 {Z : State} {a0 : Array Value} (hw : Hw Z a0) : (Jvm.Cond.instantiable "java/util/ArrayList" (3 : Nat)).before a0 Z = true := hw _ (List.mem_of_getElem? (i := 27) rfl)
theorem w28 {Z : State} {a0 : Array Value} (hw : Hw Z a0) : (Jvm.Cond.initialized "java/util/ArrayList").before a0 Z = true := hw _ (List.mem_of_getElem? (i := 28) rfl)
theorem w29 {Z : State} {a0 : Array Value} (hw : Hw Z a0) : (Jvm.Cond.methodLink "com/example/tiebreak/tiebreak/core/ChainReportDuplicateLinesPinLaw" (18 : Nat) ({ cls := "java/util/ArrayList", name := "<init>", desc := "()V" } : Jvm.MethodName)).before a0 Z = true := hw _ (List.mem_of_getElem? (i := 29) rfl)
theorem w30 {Z : State} {a0 : Array Value} (hw : Hw Z a0) : (Jvm.Cond.instanceMethod ({ cls := "java/util/ArrayList", name := "<init>", desc := "()V" } : Jvm.MethodName)).before a0 Z = true := hw _ (List.mem_of_getElem? (i := 30) rfl)
theorem w31 {Z : State} {a0 : Array Value} (hw : Hw Z a0) : (Jvm.Cond.code ({ cls := "java/util/ArrayList", name := "<init>", desc := "()V" } : Jvm.MethodName) jdk_38_method_2_code (1 : Nat) (Option.none : Option Jvm.ClassFile.FieldType)).before a0 Z = true := hw _ (List.mem_of_getElem? (i := 31) rfl)
theorem w32 {Z : State} {a0 : Array Value} (hw : Hw Z a0) : (Jvm.Cond.methodLink "java/util/ArrayList" (1 : Nat) ({ cls := "java/util/AbstractList", name := "<init>", desc := "()V" } : Jvm.MethodName)).before a0 Z = true := hw _ (List.mem_of_getElem? (i := 32) rfl)
theorem w33 {Z : State} {a0 : Array Value} (hw : Hw Z a0) : (Jvm.Cond.instanceMethod ({ cls := "java/util/AbstractList", name := "<init>", desc := "()V" } : Jvm.MethodName)).before a0 Z = true := hw _ (List.mem_of_getElem? (i := 33) rfl)
theorem w36 {Z : State} {a0 : Array Value} (hw : Hw Z a0) : (Jvm.Cond.initialized "java/util/AbstractList").before a0 Z = true := hw _ (List.mem_of_getElem? (i := 36) rfl)
theorem w37 {Z : State} {a0 : Array Value} (hw : Hw Z a0) : (Jvm.Cond.code ({ cls := "java/util/AbstractList", name := "<init>", desc := "()V" } : Jvm.MethodName) jdk_39_method_1_code (1 : Nat) (Option.none : Option Jvm.ClassFile.FieldType)).before a0 Z = true := hw _ (List.mem_of_getElem? (i := 37) rfl)
theorem w38 {Z : State} {a0 : Array Value} (hw : Hw Z a0) : (Jvm.Cond.methodLink "java/util/AbstractList" (1 : Nat) ({ cls := "java/util/AbstractCollection", name := "<init>", desc := "()V" } : Jvm.MethodName)).before a0 Z = true := hw _ (List.mem_of_getElem? (i := 38) rfl)
theorem w39 {Z : State} {a0 : Array Value} (hw : Hw Z a0) : (Jvm.Cond.instanceMethod ({ cls := "java/util/AbstractCollection", name := "<init>", desc := "()V" } : Jvm.MethodName)).before a0 Z = true := hw _ (List.mem_of_getElem? (i := 39) rfl)
theorem w42 {Z : State} {a0 : Array Value} (hw : Hw Z a0) : (Jvm.Cond.initialized "java/util/AbstractCollection").before a0 Z = true := hw _ (List.mem_of_getElem? (i := 42) rfl)
theorem w43 {Z : State} {a0 : Array Value} (hw : Hw Z a0) : (Jvm.Cond.code ({ cls := "java/util/AbstractCollection", name := "<init>", desc := "()V" } : Jvm.MethodName) jdk_22_method_1_code (1 : Nat) (Option.none : Option Jvm.ClassFile.FieldType)).before a0 Z = true := hw _ (List.mem_of_getElem? (i := 43) rfl)
theorem w44 {Z : State} {a0 : Array Value} (hw : Hw Z a0) : (Jvm.Cond.methodLink "java/util/AbstractCollection" (1 : Nat) ({ cls := "java/lang/Object", name := "<init>", desc := "()V" } : Jvm.MethodName)).before a0 Z = true := hw _ (List.mem_of_getElem? (i := 44) rfl)
theorem w45 {Z : State} {a0 : Array Value} (hw : Hw Z a0) : (Jvm.Cond.fieldLink "java/util/AbstractList" (7 : Nat) "java/util/AbstractList" "modCount" "I").before a0 Z = true := hw _ (List.mem_of_getElem? (i := 45) rfl)
theorem w46 {Z : State} {a0 : Array Value} (hw : Hw Z a0) : (Jvm.Cond.lays "java/util/ArrayList" "java/util/AbstractList" "modCount" "I").before a0 Z = true := hw _ (List.mem_of_getElem? (i := 46) rfl)
theorem w47 {Z : State} {a0 : Array Value} (hw : Hw Z a0) : (Jvm.Cond.fieldLink "java/util/ArrayList" (39 : Nat) "java/util/ArrayList" "DEFAULTCAPACITY_EMPTY_ELEMENTDATA" "[Ljava/lang/Object;").before a0 Z = true := hw _ (List.mem_of_getElem? (i := 47) rfl)
theorem w48 {Z : State} {a0 : Array Value} (hw : Hw Z a0) : (Jvm.Cond.fieldLink "java/util/ArrayList" (9 : Nat) "java/util/ArrayList" "elementData" "[Ljava/lang/Object;").before a0 Z = true := hw _ (List.mem_of_getElem? (i := 48) rfl)
theorem w49 {Z : State} {a0 : Array Value} (hw : Hw Z a0) : (Jvm.Cond.lays "java/util/ArrayList" "java/util/ArrayList" "elementData" "[Ljava/lang/Object;").before a0 Z = true := hw _ (List.mem_of_getElem? (i := 49) rfl)
theorem w50 {Z : State} {a0 : Array Value} (hw : Hw Z a0) : (Jvm.Cond.methodLink "com/example/tiebreak/tiebreak/core/ChainReportDuplicateLinesPinLaw" (30 : Nat) ({ cls := "com/example/tiebreak/tiebreak/core/ChainReport", name := "duplicateLines", desc := "(Ljava/lang/String;Ljava/util/List;)Ljava/util/List;" } : Jvm.MethodName)).before a0 Z = true := hw _ (List.mem_of_getElem? (i := 50) rfl)
theorem w51 {Z : State} {a0 : Array Value} (hw : Hw Z a0) : (Jvm.Cond.static ({ cls := "com/example/tiebreak/tiebreak/core/ChainReport", name := "duplicateLines", desc := "(Ljava/lang/String;Ljava/util/List;)Ljava/util/List;" } : Jvm.MethodName)).before a0 Z = true := hw _ (List.mem_of_getElem? (i := 51) rfl)
theorem w52 {Z : State} {a0 : Array Value} (hw : Hw Z a0) : (Jvm.Cond.initialized "com/example/tiebreak/tiebreak/core/ChainReport").before a0 Z = true := hw _ (List.mem_of_getElem? (i := 52) rfl)
theorem w53 {Z : State} {a0 : Array Value} (hw : Hw Z a0) : (Jvm.Cond.code ({ cls := "com/example/tiebreak/tiebreak/core/ChainReport", name := "duplicateLines", desc := "(Ljava/lang/String;Ljava/util/List;)Ljava/util/List;" } : Jvm.MethodName) prog_2_method_4_code (6 : Nat) (Option.some (Jvm.ClassFile.FieldType.object "java/util/List"))).before a0 Z = true := hw _ (List.mem_of_getElem? (i := 53) rfl)
theorem w54 {Z : State} {a0 : Array Value} (hw : Hw Z a0) : (Jvm.Cond.methodLink "com/example/tiebreak/tiebreak/core/ChainReport" (7 : Nat) ({ cls := "com/example/tiebreak/tiebreak/core/ChainReport", name := "prefix", desc := "(Ljava/lang/String;)Ljava/lang/String;" } : Jvm.MethodName)).before a0 Z = true := hw _ (List.mem_of_getElem? (i := 54) rfl)
theorem w55 {Z : State} {a0 : Array Value} (hw : Hw Z a0) : (Jvm.Cond.static ({ cls := "com/example/tiebreak/tiebreak/core/ChainReport", name := "prefix", desc := "(Ljava/lang/String;)Ljava/lang/String;" } : Jvm.MethodName)).before a0 Z = true := hw _ (List.mem_of_getElem? (i := 55) rfl)
theorem w56 {Z : State} {a0 : Array Value} (hw : Hw Z a0) : (Jvm.Cond.code ({ cls := "com/example/tiebreak/tiebreak/core/ChainReport", name := "prefix", desc := "(Ljava/lang/String;)Ljava/lang/String;" } : Jvm.MethodName) prog_2_method_7_code (1 : Nat) (Option.some (Jvm.ClassFile.FieldType.object "java/lang/String"))).before a0 Z = true := hw _ (List.mem_of_getElem? (i := 56) rfl)
theorem w57 {Z : State} {a0 : Array Value} (hw : Hw Z a0) : (Jvm.Cond.classLink "com/example/tiebreak/tiebreak/core/ChainReport" (16 : Nat) "java/lang/StringBuilder").before a0 Z = true := hw _ (List.mem_of_getElem? (i := 57) rfl)
theorem w58 {Z : State} {a0 : Array Value} (hw : Hw Z a0) : (Jvm.Cond.instantiable "java/lang/StringBuilder" (4 : Nat)).before a0 Z = true := hw _ (List.mem_of_getElem? (i := 58) rfl)
theorem w59 {Z : State} {a0 : Array Value} (hw : Hw Z a0) : (Jvm.Cond.initialized "java/lang/StringBuilder").before a0 Z = true := hw _ (List.mem_of_getElem? (i := 59) rfl)
theorem w60 {Z : State} {a0 : Array Value} (hw : Hw Z a0) : (Jvm.Cond.methodLink "com/example/tiebreak/tiebreak/core/ChainReport" (18 : Nat) ({ cls := "java/lang/StringBuilder", name := "<init>", desc := "()V" } : Jvm.MethodName)).before a0 Z = true := hw _ (List.mem_of_getElem? (i := 60) rfl)
theorem w61 {Z : State} {a0 : Array Value} (hw : Hw Z a0) : (Jvm.Cond.instanceMethod ({ cls := "java/lang/StringBuilder", name := "<init>", desc := "()V" } : Jvm.MethodName)).before a0 Z = true := hw _ (List.mem_of_getElem? (i := 61) rfl)
theorem w62 {Z : State} {a0 : Array Value} (hw : Hw Z a0) : (Jvm.Cond.code ({ cls := "java/lang/StringBuilder", name := "<init>", desc := "()V" } : Jvm.MethodName) jdk_67_method_1_code (1 : Nat) (Option.none : Option Jvm.ClassFile.FieldType)).before a0 Z = true := hw _ (List.mem_of_getElem? (i := 62) rfl)
theorem w63 {Z : State} {a0 : Array Value} (hw : Hw Z a0) : (Jvm.Cond.methodLink "java/lang/StringBuilder" (1 : Nat) ({ cls := "java/lang/AbstractStringBuilder", name := "<init>", desc := "(I)V" } : Jvm.MethodName)).before a0 Z = true := hw _ (List.mem_of_getElem? (i := 63) rfl)
theorem w64 {Z : State} {a0 : Array Value} (hw : Hw Z a0) : (Jvm.Cond.instanceMethod ({ cls := "java/lang/AbstractStringBuilder", name := "<init>", desc := "(I)V" } : Jvm.MethodName)).before a0 Z = true := hw _ (List.mem_of_getElem? (i := 64) rfl)
theorem w66 {Z : State} {a0 : Array Value} (hw : Hw Z a0) : (Jvm.Cond.castable "java/lang/StringBuilder" "java/lang/AbstractStringBuilder").before a0 Z = true := hw _ (List.mem_of_getElem? (i := 66) rfl)
theorem w67 {Z : State} {a0 : Array Value} (hw : Hw Z a0) : (Jvm.Cond.initialized "java/lang/AbstractStringBuilder").before a0 Z = true := hw _ (List.mem_of_getElem? (i := 67) rfl)
theorem w68 {Z : State} {a0 : Array Value} (hw : Hw Z a0) : (Jvm.Cond.code ({ cls := "java/lang/AbstractStringBuilder", name := "<init>", desc := "(I)V" } : Jvm.MethodName) jdk_68_method_2_code (2 : Nat) (Option.none : Option Jvm.ClassFile.FieldType)).before a0 Z = true := hw _ (List.mem_of_getElem? (i := 68) rfl)
theorem w69 {Z : State} {a0 : Array Value} (hw : Hw Z a0) : (Jvm.Cond.methodLink "java/lang/AbstractStringBuilder" (3 : Nat) ({ cls := "java/lang/Object", name := "<init>", desc := "()V" } : Jvm.MethodName)).before a0 Z = true := hw _ (List.mem_of_getElem? (i := 69) rfl)
theorem w70 {Z : State} {a0 : Array Value} (hw : Hw Z a0) : (Jvm.Cond.fieldLink "java/lang/AbstractStringBuilder" (18 : Nat) "java/lang/String" "COMPACT_STRINGS" "Z").before a0 Z = true := hw _ (List.mem_of_getElem? (i := 70) rfl)
theorem w71 {Z : State} {a0 : Array Value} (hw : Hw Z a0) : (Jvm.Cond.fieldLink "java/lang/AbstractStringBuilder" (15 : Nat) "java/lang/AbstractStringBuilder" "value" "[B").before a0 Z = true := hw _ (List.mem_of_getElem? (i := 71) rfl)
theorem w72 {Z : State} {a0 : Array Value} (hw : Hw Z a0) : (Jvm.Cond.lays "java/lang/StringBuilder" "java/lang/AbstractStringBuilder" "value" "[B").before a0 Z = true := hw _ (List.mem_of_getElem? (i := 72) rfl)
theorem w73 {Z : State} {a0 : Array Value} (hw : Hw Z a0) : (Jvm.Cond.fieldLink "java/lang/AbstractStringBuilder" (22 : Nat) "java/lang/AbstractStringBuilder" "coder" "B").before a0 Z = true := hw _ (List.mem_of_getElem? (i := 73) rfl)
theorem w74 {Z : State} {a0 : Array Value} (hw : Hw Z a0) : (Jvm.Cond.lays "java/lang/StringBuilder" "java/lang/AbstractStringBuilder" "coder" "B").before a0 Z = true := hw _ (List.mem_of_getElem? (i := 74) rfl)
theorem w75 {Z : State} {a0 : Array Value} (hw : Hw Z a0) : (Jvm.Cond.stringLink "com/example/tiebreak/tiebreak/core/ChainReport" (171 : Nat) "tiebreak ").before a0 Z = true := hw _ (List.mem_of_getElem? (i := 75) rfl)
theorem w76 {Z : State} {a0 : Array Value} (hw : Hw Z a0) : (Jvm.Cond.soleField "java/lang/String" "value").before a0 Z = true := hw _ (List.mem_of_getElem? (i := 76) rfl)
theorem w77 {Z : State} {a0 : Array Value} (hw : Hw Z a0) : (Jvm.Cond.soleField "java/lang/String" "coder").before a0 Z = true := hw _ (List.mem_of_getElem? (i := 77) rfl)
theorem w78 {Z : State} {a0 : Array Value} (hw : Hw Z a0) : (Jvm.Cond.methodLink "com/example/tiebreak/tiebreak/core/ChainReport" (19 : Nat) ({ cls := "java/lang/StringBuilder", name := "append", desc := "(Ljava/lang/String;)Ljava/lang/StringBuilder;" } : Jvm.MethodName)).before a0 Z = true := hw _ (List.mem_of_getElem? (i := 78) rfl)
theorem w79 {Z : State} {a0 : Array Value} (hw : Hw Z a0) : (Jvm.Cond.declares ({ cls := "java/lang/StringBuilder", name := "append", desc := "(Ljava/lang/String;)Ljava/lang/StringBuilder;" } : Jvm.MethodName)).before a0 Z = true := hw _ (List.mem_of_getElem? (i := 79) rfl)
theorem w80 {Z : State} {a0 : Array Value} (hw : Hw Z a0) : (Jvm.Cond.instanceMethod ({ cls := "java/lang/StringBuilder", name := "append", desc := "(Ljava/lang/String;)Ljava/lang/StringBuilder;" } : Jvm.MethodName)).before a0 Z = true := hw _ (List.mem_of_getElem? (i := 80) rfl)
theorem w81 {Z : State} {a0 : Array Value} (hw : Hw Z a0) : (Jvm.Cond.selects "java/lang/StringBuilder" ({ cls := "java/lang/StringBuilder", name := "append", desc := "(Ljava/lang/String;)Ljava/lang/StringBuilder;" } : Jvm.MethodName) ({ cls := "java/lang/StringBuilder", name := "append", desc := "(Ljava/lang/String;)Ljava/lang/StringBuilder;" } : Jvm.MethodName)).before a0 Z = true := hw _ (List.mem_of_getElem? (i := 81) rfl)
theorem w82 {Z : State} {a0 : Array Value} (hw : Hw Z a0) : (Jvm.Cond.code ({ cls := "java/lang/StringBuilder", name := "append", desc := "(Ljava/lang/String;)Ljava/lang/StringBuilder;" } : Jvm.MethodName) jdk_67_method_7_code (2 : Nat) (Option.some (Jvm.ClassFile.FieldType.object "java/lang/StringBuilder"))).before a0 Z = true := hw _ (List.mem_of_getElem? (i := 82) rfl)
theorem w83 {Z : State} {a0 : Array Value} (hw : Hw Z a0) : (Jvm.Cond.methodLink "java/lang/StringBuilder" (29 : Nat) ({ cls := "java/lang/AbstractStringBuilder", name := "append", desc := "(Ljava/lang/String;)Ljava/lang/AbstractStringBuilder;" } : Jvm.MethodName)).before a0 Z = true := hw _ (List.mem_of_getElem? (i := 83) rfl)
theorem w84 {Z : State} {a0 : Array Value} (hw : Hw Z a0) : (Jvm.Cond.instanceMethod ({ cls := "java/lang/AbstractStringBuilder", name := "append", desc := "(Ljava/lang/String;)Ljava/lang/AbstractStringBuilder;" } : Jvm.MethodName)).before a0 Z = true := hw _ (List.mem_of_getElem? (i := 84) rfl)
theorem w85 {Z : State} {a0 : Array Value} (hw : Hw Z a0) : (Jvm.Cond.superclass "java/lang/StringBuilder" "java/lang/AbstractStringBuilder").before a0 Z = true := hw _ (List.mem_of_getElem? (i := 85) rfl)
theorem w87 {Z : State} {a0 : Array Value} (hw : Hw Z a0) : (Jvm.Cond.code ({ cls := "java/lang/AbstractStringBuilder", name := "append", desc := "(Ljava/lang/String;)Ljava/lang/AbstractStringBuilder;" } : Jvm.MethodName) jdk_68_method_22_code (3 : Nat) (Option.some (Jvm.ClassFile.FieldType.object "java/lang/AbstractStringBuilder"))).before a0 Z = true := hw _ (List.mem_of_getElem? (i := 87) rfl)
theorem w88 {Z : State} {a0 : Array Value} (hw : Hw Z a0) : (Jvm.Cond.methodLink "java/lang/AbstractStringBuilder" (32 : Nat) ({ cls := "java/lang/String", name := "length", desc := "()I" } : Jvm.MethodName)).before a0 Z = true := hw _ (List.mem_of_getElem? (i := 88) rfl)
theorem w89 {Z : State} {a0 : Array Value} (hw : Hw Z a0) : (Jvm.Cond.declares ({ cls := "java/lang/String", name := "length", desc := "()I" } : Jvm.MethodName)).before a0 Z = true := hw _ (List.mem_of_getElem? (i := 89) rfl)
theorem w90 {Z : State} {a0 : Array Value} (hw : Hw Z a0) : (Jvm.Cond.instanceMethod ({ cls := "java/lang/String", name := "length", desc := "()I" } : Jvm.MethodName)).before a0 Z = true := hw _ (List.mem_of_getElem? (i := 90) rfl)
theorem w91 {Z : State} {a0 : Array Value} (hw : Hw Z a0) : (Jvm.Cond.selects "java/lang/String" ({ cls := "java/lang/String", name := "length", desc := "()I" } : Jvm.MethodName) ({ cls := "java/lang/String", name := "length", desc := "()I" } : Jvm.MethodName)).before a0 Z = true := hw _ (List.mem_of_getElem? (i := 91) rfl)
theorem w92 {Z : State} {a0 : Array Value} (hw : Hw Z a0) : (Jvm.Cond.code ({ cls := "java/lang/String", name := "length", desc := "()I" } : Jvm.MethodName) jdk_42_method_54_code (1 : Nat) (Option.some Jvm.ClassFile.FieldType.int)).before a0 Z = true := hw _ (List.mem_of_getElem? (i := 92) rfl)
theorem w93 {Z : State} {a0 : Array Value} (hw : Hw Z a0) : (Jvm.Cond.methodLink "java/lang/String" (335 : Nat) ({ cls := "java/lang/String", name := "coder", desc := "()B" } : Jvm.MethodName)).before a0 Z = true := hw _ (List.mem_of_getElem? (i := 93) rfl)
theorem w94 {Z : State} {a0 : Array Value} (hw : Hw Z a0) : (Jvm.Cond.declares ({ cls := "java/lang/String", name := "coder", desc := "()B" } : Jvm.MethodName)).before a0 Z = true := hw _ (List.mem_of_getElem? (i := 94) rfl)
theorem w95 {Z : State} {a0 : Array Value} (hw : Hw Z a0) : (Jvm.Cond.instanceMethod ({ cls := "java/lang/String", name := "coder", desc := "()B" } : Jvm.MethodName)).before a0 Z = true := hw _ (List.mem_of_getElem? (i := 95) rfl)
theorem w96 {Z : State} {a0 : Array Value} (hw : Hw Z a0) : (Jvm.Cond.selects "java/lang/String" ({ cls := "java/lang/String", name := "coder", desc := "()B" } : Jvm.MethodName) ({ cls := "java/lang/String", name := "coder", desc := "()B" } : Jvm.MethodName)).before a0 Z = true := hw _ (List.mem_of_getElem? (i := 96) rfl)
theorem w97 {Z : State} {a0 : Array Value} (hw : Hw Z a0) : (Jvm.Cond.code ({ cls := "java/lang/String", name := "coder", desc := "()B" } : Jvm.MethodName) jdk_42_method_152_code (1 : Nat) (Option.some Jvm.ClassFile.FieldType.byte)).before a0 Z = true := hw _ (List.mem_of_getElem? (i := 97) rfl)
theorem w98 {Z : State} {a0 : Array Value} (hw : Hw Z a0) : (Jvm.Cond.fieldLink "java/lang/AbstractStringBuilder" (79 : Nat) "java/lang/AbstractStringBuilder" "count" "I").before a0 Z = true := hw _ (List.mem_of_getElem? (i := 98) rfl)
theorem w99 {Z : State} {a0 : Array Value} (hw : Hw Z a0) : (Jvm.Cond.lays "java/lang/StringBuilder" "java/lang/AbstractStringBuilder" "count" "I").before a0 Z = true := hw _ (List.mem_of_getElem? (i := 99) rfl)
theorem w100 {Z : State} {a0 : Array Value} (hw : Hw Z a0) : (Jvm.Cond.methodLink "java/lang/AbstractStringBuilder" (100 : Nat) ({ cls := "java/lang/AbstractStringBuilder", name := "ensureCapacityInternal", desc := "(I)V" } : Jvm.MethodName)).before a0 Z = true := hw _ (List.mem_of_getElem? (i := 100) rfl)
theorem w101 {Z : State} {a0 : Array Value} (hw : Hw Z a0) : (Jvm.Cond.instanceMethod ({ cls := "java/lang/AbstractStringBuilder", name := "ensureCapacityInternal", desc := "(I)V" } : Jvm.MethodName)).before a0 Z = true := hw _ (List.mem_of_getElem? (i := 101) rfl)
theorem w103 {Z : State} {a0 : Array Value} (hw : Hw Z a0) : (Jvm.Cond.selects "java/lang/StringBuilder" ({ cls := "java/lang/AbstractStringBuilder", name := "ensureCapacityInternal", desc := "(I)V" } : Jvm.MethodName) ({ cls := "java/lang/AbstractStringBuilder", name := "ensureCapacityInternal", desc := "(I)V" } : Jvm.MethodName)).before a0 Z = true := hw _ (List.mem_of_getElem? (i := 103) rfl)
theorem w104 {Z : State} {a0 : Array Value} (hw : Hw Z a0) : (Jvm.Cond.code ({ cls := "java/lang/AbstractStringBuilder", name := "ensureCapacityInternal", desc := "(I)V" } : Jvm.MethodName) jdk_68_method_9_code (3 : Nat) (Option.none : Option Jvm.ClassFile.FieldType)).before a0 Z = true := hw _ (List.mem_of_getElem? (i := 104) rfl)
theorem w105 {Z : State} {a0 : Array Value} (hw : Hw Z a0) : (Jvm.Cond.methodLink "java/lang/AbstractStringBuilder" (208 : Nat) ({ cls := "java/lang/AbstractStringBuilder", name := "putStringAt", desc := "(ILjava/lang/String;)V" } : Jvm.MethodName)).before a0 Z = true := hw _ (List.mem_of_getElem? (i := 105) rfl)
theorem w106 {Z : State} {a0 : Array Value} (hw : Hw Z a0) : (Jvm.Cond.instanceMethod ({ cls := "java/lang/AbstractStringBuilder", name := "putStringAt", desc := "(ILjava/lang/String;)V" } : Jvm.MethodName)).before a0 Z = true := hw _ (List.mem_of_getElem? (i := 106) rfl)
theorem w108 {Z : State} {a0 : Array Value} (hw : Hw Z a0) : (Jvm.Cond.selects "java/lang/StringBuilder" ({ cls := "java/lang/AbstractStringBuilder", name := "putStringAt", desc := "(ILjava/lang/String;)V" } : Jvm.MethodName) ({ cls := "java/lang/AbstractStringBuilder", name := "putStringAt", desc := "(ILjava/lang/String;)V" } : Jvm.MethodName)).before a0 Z = true := hw _ (List.mem_of_getElem? (i := 108) rfl)
theorem w109 {Z : State} {a0 : Array Value} (hw : Hw Z a0) : (Jvm.Cond.code ({ cls := "java/lang/AbstractStringBuilder", name := "putStringAt", desc := "(ILjava/lang/String;)V" } : Jvm.MethodName) jdk_68_method_73_code (3 : Nat) (Option.none : Option Jvm.ClassFile.FieldType)).before a0 Z = true := hw _ (List.mem_of_getElem? (i := 109) rfl)
theorem w110 {Z : State} {a0 : Array Value} (hw : Hw Z a0) : (Jvm.Cond.methodLink "java/lang/AbstractStringBuilder" (397 : Nat) ({ cls := "java/lang/AbstractStringBuilder", name := "inflateIfNeededFor", desc := "(Ljava/lang/String;)V" } : Jvm.MethodName)).before a0 Z = true := hw _ (List.mem_of_getElem? (i := 110) rfl)
theorem w111 {Z : State} {a0 : Array Value} (hw : Hw Z a0) : (Jvm.Cond.instanceMethod ({ cls := "java/lang/AbstractStringBuilder", name := "inflateIfNeededFor", desc := "(Ljava/lang/String;)V" } : Jvm.MethodName)).before a0 Z = true := hw _ (List.mem_of_getElem? (i := 111) rfl)
theorem w113 {Z : State} {a0 : Array Value} (hw : Hw Z a0) : (Jvm.Cond.selects "java/lang/StringBuilder" ({ cls := "java/lang/AbstractStringBuilder", name := "inflateIfNeededFor", desc := "(Ljava/lang/String;)V" } : Jvm.MethodName) ({ cls := "java/lang/AbstractStringBuilder", name := "inflateIfNeededFor", desc := "(Ljava/lang/String;)V" } : Jvm.MethodName)).before a0 Z = true := hw _ (List.mem_of_getElem? (i := 113) rfl)
theorem w114 {Z : State} {a0 : Array Value} (hw : Hw Z a0) : (Jvm.Cond.code ({ cls := "java/lang/AbstractStringBuilder", name := "inflateIfNeededFor", desc := "(Ljava/lang/String;)V" } : Jvm.MethodName) jdk_68_method_71_code (2 : Nat) (Option.none : Option Jvm.ClassFile.FieldType)).before a0 Z = true := hw _ (List.mem_of_getElem? (i := 114) rfl)
theorem w115 {Z : State} {a0 : Array Value} (hw : Hw Z a0) : (Jvm.Cond.methodLink "java/lang/AbstractStringBuilder" (40 : Nat) ({ cls := "java/lang/String", name := "coder", desc := "()B" } : Jvm.MethodName)).before a0 Z = true := hw _ (List.mem_of_getElem? (i := 115) rfl)
theorem w116 {Z : State} {a0 : Array Value} (hw : Hw Z a0) : (Jvm.Cond.methodLink "java/lang/AbstractStringBuilder" (399 : Nat) ({ cls := "java/lang/String", name := "getBytes", desc := "([BIB)V" } : Jvm.MethodName)).before a0 Z = true := hw _ (List.mem_of_getElem? (i := 116) rfl)
theorem w117 {Z : State} {a0 : Array Value} (hw : Hw Z a0) : (Jvm.Cond.declares ({ cls := "java/lang/String", name := "getBytes", desc := "([BIB)V" } : Jvm.MethodName)).before a0 Z = true := hw _ (List.mem_of_getElem? (i := 117) rfl)
theorem w118 {Z : State} {a0 : Array Value} (hw : Hw Z a0) : (Jvm.Cond.instanceMethod ({ cls := "java/lang/String", name := "getBytes", desc := "([BIB)V" } : Jvm.MethodName)).before a0 Z = true := hw _ (List.mem_of_getElem? (i := 118) rfl)
theorem w119 {Z : State} {a0 : Array Value} (hw : Hw Z a0) : (Jvm.Cond.selects "java/lang/String" ({ cls := "java/lang/String", name := "getBytes", desc := "([BIB)V" } : Jvm.MethodName) ({ cls := "java/lang/String", name := "getBytes", desc := "([BIB)V" } : Jvm.MethodName)).before a0 Z = true := hw _ (List.mem_of_getElem? (i := 119) rfl)
theorem w120 {Z : State} {a0 : Array Value} (hw : Hw Z a0) : (Jvm.Cond.code ({ cls := "java/lang/String", name := "getBytes", desc := "([BIB)V" } : Jvm.MethodName) jdk_42_method_147_code (4 : Nat) (Option.none : Option Jvm.ClassFile.FieldType)).before a0 Z = true := hw _ (List.mem_of_getElem? (i := 120) rfl)
theorem w121 {Z : State} {a0 : Array Value} (hw : Hw Z a0) : (Jvm.Cond.methodLink "java/lang/String" (212 : Nat) ({ cls := "java/lang/System", name := "arraycopy", desc := "(Ljava/lang/Object;ILjava/lang/Object;II)V" } : Jvm.MethodName)).before a0 Z = true := hw _ (List.mem_of_getElem? (i := 121) rfl)
theorem w122 {Z : State} {a0 : Array Value} (hw : Hw Z a0) : (Jvm.Cond.static ({ cls := "java/lang/System", name := "arraycopy", desc := "(Ljava/lang/Object;ILjava/lang/Object;II)V" } : Jvm.MethodName)).before a0 Z = true := hw _ (List.mem_of_getElem? (i := 122) rfl)
theorem w123 {Z : State} {a0 : Array Value} (hw : Hw Z a0) : (Jvm.Cond.initialized "java/lang/System").before a0 Z = true := hw _ (List.mem_of_getElem? (i := 123) rfl)
theorem w124 {Z : State} {a0 : Array Value} (hw : Hw Z a0) : (Jvm.Cond.native ({ cls := "java/lang/System", name := "arraycopy", desc := "(Ljava/lang/Object;ILjava/lang/Object;II)V" } : Jvm.MethodName)).before a0 Z = true := hw _ (List.mem_of_getElem? (i := 124) rfl)
theorem w125 {Z : State} {a0 : Array Value} (hw : Hw Z a0) : (Jvm.Cond.methodLink "com/example/tiebreak/tiebreak/core/ChainReport" (36 : Nat) ({ cls := "java/lang/StringBuilder", name := "toString", desc := "()Ljava/lang/String;" } : Jvm.MethodName)).before a0 Z = true := hw _ (List.mem_of_getElem? (i := 125) rfl)
theorem w126 {Z : State} {a0 : Array Value} (hw : Hw Z a0) : (Jvm.Cond.declares ({ cls := "java/lang/StringBuilder", name := "toString", desc := "()Ljava/lang/String;" } : Jvm.MethodName)).before a0 Z = true := hw _ (List.mem_of_getElem? (i := 126) rfl)
theorem w127 {Z : State} {a0 : Array Value} (hw : Hw Z a0) : (Jvm.Cond.instanceMethod ({ cls := "java/lang/StringBuilder", name := "toString", desc := "()Ljava/lang/String;" } : Jvm.MethodName)).before a0 Z = true := hw _ (List.mem_of_getElem? (i := 127) rfl)
theorem w128 {Z : State} {a0 : Array Value} (hw : Hw Z a0) : (Jvm.Cond.selects "java/lang/StringBuilder" ({ cls := "java/lang/StringBuilder", name := "toString", desc := "()Ljava/lang/String;" } : Jvm.MethodName) ({ cls := "java/lang/StringBuilder", name := "toString", desc := "()Ljava/lang/String;" } : Jvm.MethodName)).before a0 Z = true := hw _ (List.mem_of_getElem? (i := 128) rfl)
theorem w129 {Z : State} {a0 : Array Value} (hw : Hw Z a0) : (Jvm.Cond.code ({ cls := "java/lang/StringBuilder", name := "toString", desc := "()Ljava/lang/String;" } : Jvm.MethodName) jdk_67_method_42_code (1 : Nat) (Option.some (Jvm.ClassFile.FieldType.object "java/lang/String"))).before a0 Z = true := hw _ (List.mem_of_getElem? (i := 129) rfl)
theorem w130 {Z : State} {a0 : Array Value} (hw : Hw Z a0) : (Jvm.Cond.classLink "java/lang/StringBuilder" (18 : Nat) "java/lang/String").before a0 Z = true := hw _ (List.mem_of_getElem? (i := 130) rfl)
theorem w131 {Z : State} {a0 : Array Value} (hw : Hw Z a0) : (Jvm.Cond.methodLink "java/lang/StringBuilder" (137 : Nat) ({ cls := "java/lang/String", name := "<init>", desc := "(Ljava/lang/StringBuilder;)V" } : Jvm.MethodName)).before a0 Z = true := hw _ (List.mem_of_getElem? (i := 131) rfl)
theorem w132 {Z : State} {a0 : Array Value} (hw : Hw Z a0) : (Jvm.Cond.instanceMethod ({ cls := "java/lang/String", name := "<init>", desc := "(Ljava/lang/StringBuilder;)V" } : Jvm.MethodName)).before a0 Z = true := hw _ (List.mem_of_getElem? (i := 132) rfl)
theorem w133 {Z : State} {a0 : Array Value} (hw : Hw Z a0) : (Jvm.Cond.code ({ cls := "java/lang/String", name := "<init>", desc := "(Ljava/lang/StringBuilder;)V" } : Jvm.MethodName) jdk_42_method_53_code (2 : Nat) (Option.none : Option Jvm.ClassFile.FieldType)).before a0 Z = true := hw _ (List.mem_of_getElem? (i := 133) rfl)
theorem w134 {Z : State} {a0 : Array Value} (hw : Hw Z a0) : (Jvm.Cond.methodLink "java/lang/String" (489 : Nat) ({ cls := "java/lang/String", name := "<init>", desc := "(Ljava/lang/AbstractStringBuilder;Ljava/lang/Void;)V" } : Jvm.MethodName)).before a0 Z = true := hw _ (List.mem_of_getElem? (i := 134) rfl)
theorem w135 {Z : State} {a0 : Array Value} (hw : Hw Z a0) : (Jvm.Cond.instanceMethod ({ cls := "java/lang/String", name := "<init>", desc := "(Ljava/lang/AbstractStringBuilder;Ljava/lang/Void;)V" } : Jvm.MethodName)).before a0 Z = true := hw _ (List.mem_of_getElem? (i := 135) rfl)
theorem w136 {Z : State} {a0 : Array Value} (hw : Hw Z a0) : (Jvm.Cond.code ({ cls := "java/lang/String", name := "<init>", desc := "(Ljava/lang/AbstractStringBuilder;Ljava/lang/Void;)V" } : Jvm.MethodName) jdk_42_method_150_code (5 : Nat) (Option.none : Option Jvm.ClassFile.FieldType)).before a0 Z = true := hw _ (List.mem_of_getElem? (i := 136) rfl)
theorem w137 {Z : State} {a0 : Array Value} (hw : Hw Z a0) : (Jvm.Cond.methodLink "java/lang/String" (552 : Nat) ({ cls := "java/lang/AbstractStringBuilder", name := "getValue", desc := "()[B" } : Jvm.MethodName)).before a0 Z = true := hw _ (List.mem_of_getElem? (i := 137) rfl)
theorem w138 {Z : State} {a0 : Array Value} (hw : Hw Z a0) : (Jvm.Cond.declares ({ cls := "java/lang/AbstractStringBuilder", name := "getValue", desc := "()[B" } : Jvm.MethodName)).before a0 Z = true := hw _ (List.mem_of_getElem? (i := 138) rfl)
theorem w139 {Z : State} {a0 : Array Value} (hw : Hw Z a0) : (Jvm.Cond.instanceMethod ({ cls := "java/lang/AbstractStringBuilder", name := "getValue", desc := "()[B" } : Jvm.MethodName)).before a0 Z = true := hw _ (List.mem_of_getElem? (i := 139) rfl)
theorem w140 {Z : State} {a0 : Array Value} (hw : Hw Z a0) : (Jvm.Cond.selects "java/lang/StringBuilder" ({ cls := "java/lang/AbstractStringBuilder", name := "getValue", desc := "()[B" } : Jvm.MethodName) ({ cls := "java/lang/AbstractStringBuilder", name := "getValue", desc := "()[B" } : Jvm.MethodName)).before a0 Z = true := hw _ (List.mem_of_getElem? (i := 140) rfl)
theorem w141 {Z : State} {a0 : Array Value} (hw : Hw Z a0) : (Jvm.Cond.code ({ cls := "java/lang/AbstractStringBuilder", name := "getValue", desc := "()[B" } : Jvm.MethodName) jdk_68_method_64_code (1 : Nat) (Option.some (Jvm.ClassFile.FieldType.array Jvm.ClassFile.FieldType.byte))).before a0 Z = true := hw _ (List.mem_of_getElem? (i := 141) rfl)
theorem w142 {Z : State} {a0 : Array Value} (hw : Hw Z a0) : (Jvm.Cond.methodLink "java/lang/String" (549 : Nat) ({ cls := "java/lang/AbstractStringBuilder", name := "length", desc := "()I" } : Jvm.MethodName)).before a0 Z = true := hw _ (List.mem_of_getElem? (i := 142) rfl)
theorem w143 {Z : State} {a0 : Array Value} (hw : Hw Z a0) : (Jvm.Cond.declares ({ cls := "java/lang/AbstractStringBuilder", name := "length", desc := "()I" } : Jvm.MethodName)).before a0 Z = true := hw _ (List.mem_of_getElem? (i := 143) rfl)
theorem w144 {Z : State} {a0 : Array Value} (hw : Hw Z a0) : (Jvm.Cond.instanceMethod ({ cls := "java/lang/AbstractStringBuilder", name := "length", desc := "()I" } : Jvm.MethodName)).before a0 Z = true := hw _ (List.mem_of_getElem? (i := 144) rfl)
theorem w145 {Z : State} {a0 : Array Value} (hw : Hw Z a0) : (Jvm.Cond.selects "java/lang/StringBuilder" ({ cls := "java/lang/AbstractStringBuilder", name := "length", desc := "()I" } : Jvm.MethodName) ({ cls := "java/lang/StringBuilder", name := "length", desc := "()I" } : Jvm.MethodName)).before a0 Z = true := hw _ (List.mem_of_getElem? (i := 145) rfl)
theorem w146 {Z : State} {a0 : Array Value} (hw : Hw Z a0) : (Jvm.Cond.instanceMethod ({ cls := "java/lang/StringBuilder", name := "length", desc := "()I" } : Jvm.MethodName)).before a0 Z = true := hw _ (List.mem_of_getElem? (i := 146) rfl)
theorem w147 {Z : State} {a0 : Array Value} (hw : Hw Z a0) : (Jvm.Cond.code ({ cls := "java/lang/StringBuilder", name := "length", desc := "()I" } : Jvm.MethodName) jdk_67_method_93_code (1 : Nat) (Option.some Jvm.ClassFile.FieldType.int)).before a0 Z = true := hw _ (List.mem_of_getElem? (i := 147) rfl)
theorem w148 {Z : State} {a0 : Array Value} (hw : Hw Z a0) : (Jvm.Cond.methodLink "java/lang/StringBuilder" (343 : Nat) ({ cls := "java/lang/AbstractStringBuilder", name := "length", desc := "()I" } : Jvm.MethodName)).before a0 Z = true := hw _ (List.mem_of_getElem? (i := 148) rfl)
theorem w149 {Z : State} {a0 : Array Value} (hw : Hw Z a0) : (Jvm.Cond.code ({ cls := "java/lang/AbstractStringBuilder", name := "length", desc := "()I" } : Jvm.MethodName) jdk_68_method_6_code (1 : Nat) (Option.some Jvm.ClassFile.FieldType.int)).before a0 Z = true := hw _ (List.mem_of_getElem? (i := 149) rfl)
theorem w150 {Z : State} {a0 : Array Value} (hw : Hw Z a0) : (Jvm.Cond.methodLink "java/lang/String" (1047 : Nat) ({ cls := "java/lang/AbstractStringBuilder", name := "isLatin1", desc := "()Z" } : Jvm.MethodName)).before a0 Z = true := hw _ (List.mem_of_getElem? (i := 150) rfl)
theorem w151 {Z : State} {a0 : Array Value} (hw : Hw Z a0) : (Jvm.Cond.declares ({ cls := "java/lang/AbstractStringBuilder", name := "isLatin1", desc := "()Z" } : Jvm.MethodName)).before a0 Z = true := hw _ (List.mem_of_getElem? (i := 151) rfl)
theorem w152 {Z : State} {a0 : Array Value} (hw : Hw Z a0) : (Jvm.Cond.instanceMethod ({ cls := "java/lang/AbstractStringBuilder", name := "isLatin1", desc := "()Z" } : Jvm.MethodName)).before a0 Z = true := hw _ (List.mem_of_getElem? (i := 152) rfl)
theorem w153 {Z : State} {a0 : Array Value} (hw : Hw Z a0) : (Jvm.Cond.selects "java/lang/StringBuilder" ({ cls := "java/lang/AbstractStringBuilder", name := "isLatin1", desc := "()Z" } : Jvm.MethodName) ({ cls := "java/lang/AbstractStringBuilder", name := "isLatin1", desc := "()Z" } : Jvm.MethodName)).before a0 Z = true := hw _ (List.mem_of_getElem? (i := 153) rfl)
theorem w154 {Z : State} {a0 : Array Value} (hw : Hw Z a0) : (Jvm.Cond.code ({ cls := "java/lang/AbstractStringBuilder", name := "isLatin1", desc := "()Z" } : Jvm.MethodName) jdk_68_method_68_code (1 : Nat) (Option.some Jvm.ClassFile.FieldType.boolean)).before a0 Z = true := hw _ (List.mem_of_getElem? (i := 154) rfl)
theorem w155 {Z : State} {a0 : Array Value} (hw : Hw Z a0) : (Jvm.Cond.methodLink "java/lang/String" (54 : Nat) ({ cls := "java/util/Arrays", name := "copyOfRange", desc := "([BII)[B" } : Jvm.MethodName)).before a0 Z = true := hw _ (List.mem_of_getElem? (i := 155) rfl)
theorem w156 {Z : State} {a0 : Array Value} (hw : Hw Z a0) : (Jvm.Cond.static ({ cls := "java/util/Arrays", name := "copyOfRange", desc := "([BII)[B" } : Jvm.MethodName)).before a0 Z = true := hw _ (List.mem_of_getElem? (i := 156) rfl)
theorem w157 {Z : State} {a0 : Array Value} (hw : Hw Z a0) : (Jvm.Cond.initialized "java/util/Arrays").before a0 Z = true := hw _ (List.mem_of_getElem? (i := 157) rfl)
theorem w158 {Z : State} {a0 : Array Value} (hw : Hw Z a0) : (Jvm.Cond.code ({ cls := "java/util/Arrays", name := "copyOfRange", desc := "([BII)[B" } : Jvm.MethodName) jdk_65_method_132_code (3 : Nat) (Option.some (Jvm.ClassFile.FieldType.array Jvm.ClassFile.FieldType.byte))).before a0 Z = true := hw _ (List.mem_of_getElem? (i := 158) rfl)
theorem w159 {Z : State} {a0 : Array Value} (hw : Hw Z a0) : (Jvm.Cond.methodLink "java/util/Arrays" (339 : Nat) ({ cls := "java/util/Arrays", name := "copyOfRangeByte", desc := "([BII)[B" } : Jvm.MethodName)).before a0 Z = true := hw _ (List.mem_of_getElem? (i := 159) rfl)
theorem w160 {Z : State} {a0 : Array Value} (hw : Hw Z a0) : (Jvm.Cond.static ({ cls := "java/util/Arrays", name := "copyOfRangeByte", desc := "([BII)[B" } : Jvm.MethodName)).before a0 Z = true := hw _ (List.mem_of_getElem? (i := 160) rfl)
theorem w161 {Z : State} {a0 : Array Value} (hw : Hw Z a0) : (Jvm.Cond.code ({ cls := "java/util/Arrays", name := "copyOfRangeByte", desc := "([BII)[B" } : Jvm.MethodName) jdk_65_method_133_code (5 : Nat) (Option.some (Jvm.ClassFile.FieldType.array Jvm.ClassFile.FieldType.byte))).before a0 Z = true := hw _ (List.mem_of_getElem? (i := 161) rfl)
theorem w162 {Z : State} {a0 : Array Value} (hw : Hw Z a0) : (Jvm.Cond.methodLink "java/util/Arrays" (343 : Nat) ({ cls := "java/util/Arrays", name := "checkLength", desc := "(II)V" } : Jvm.MethodName)).before a0 Z = true := hw _ (List.mem_of_getElem? (i := 162) rfl)
theorem w163 {Z : State} {a0 : Array Value} (hw : Hw Z a0) : (Jvm.Cond.static ({ cls := "java/util/Arrays", name := "checkLength", desc := "(II)V" } : Jvm.MethodName)).before a0 Z = true := hw _ (List.mem_of_getElem? (i := 163) rfl)
theorem w164 {Z : State} {a0 : Array Value} (hw : Hw Z a0) : (Jvm.Cond.code ({ cls := "java/util/Arrays", name := "checkLength", desc := "(II)V" } : Jvm.MethodName) jdk_65_method_131_code (2 : Nat) (Option.none : Option Jvm.ClassFile.FieldType)).before a0 Z = true := hw _ (List.mem_of_getElem? (i := 164) rfl)
theorem w165 {Z : State} {a0 : Array Value} (hw : Hw Z a0) : (Jvm.Cond.methodLink "java/util/Arrays" (304 : Nat) ({ cls := "java/lang/Math", name := "min", desc := "(II)I" } : Jvm.MethodName)).before a0 Z = true := hw _ (List.mem_of_getElem? (i := 165) rfl)
theorem w166 {Z : State} {a0 : Array Value} (hw : Hw Z a0) : (Jvm.Cond.static ({ cls := "java/lang/Math", name := "min", desc := "(II)I" } : Jvm.MethodName)).before a0 Z = true := hw _ (List.mem_of_getElem? (i := 166) rfl)
theorem w167 {Z : State} {a0 : Array Value} (hw : Hw Z a0) : (Jvm.Cond.initialized "java/lang/Math").before a0 Z = true := hw _ (List.mem_of_getElem? (i := 167) rfl)
theorem w168 {Z : State} {a0 : Array Value} (hw : Hw Z a0) : (Jvm.Cond.code ({ cls := "java/lang/Math", name := "min", desc := "(II)I" } : Jvm.MethodName) jdk_29_method_69_code (2 : Nat) (Option.some Jvm.ClassFile.FieldType.int)).before a0 Z = true := hw _ (List.mem_of_getElem? (i := 168) rfl)
theorem w169 {Z : State} {a0 : Array Value} (hw : Hw Z a0) : (Jvm.Cond.methodLink "java/util/Arrays" (150 : Nat) ({ cls := "java/lang/System", name := "arraycopy", desc := "(Ljava/lang/Object;ILjava/lang/Object;II)V" } : Jvm.MethodName)).before a0 Z = true := hw _ (List.mem_of_getElem? (i := 169) rfl)
theorem w170 {Z : State} {a0 : Array Value} (hw : Hw Z a0) : (Jvm.Cond.classLink "com/example/tiebreak/tiebreak/core/ChainReport" (13 : Nat) "java/util/ArrayList").before a0 Z = true := hw _ (List.mem_of_getElem? (i := 170) rfl)
theorem w171 {Z : State} {a0 : Array Value} (hw : Hw Z a0) : (Jvm.Cond.methodLink "com/example/tiebreak/tiebreak/core/ChainReport" (15 : Nat) ({ cls := "java/util/ArrayList", name := "<init>", desc := "()V" } : Jvm.MethodName)).before a0 Z = true := hw _ (List.mem_of_getElem? (i := 171) rfl)
theorem w172 {Z : State} {a0 : Array Value} (hw : Hw Z a0) : (Jvm.Cond.methodLink "com/example/tiebreak/tiebreak/core/ChainReport" (107 : Nat) ({ cls := "java/util/List", name := "iterator", desc := "()Ljava/util/Iterator;" } : Jvm.MethodName)).before a0 Z = true := hw _ (List.mem_of_getElem? (i := 172) rfl)
theorem w173 {Z : State} {a0 : Array Value} (hw : Hw Z a0) : (Jvm.Cond.declares ({ cls := "java/util/List", name := "iterator", desc := "()Ljava/util/Iterator;" } : Jvm.MethodName)).before a0 Z = true := hw _ (List.mem_of_getElem? (i := 173) rfl)
theorem w174 {Z : State} {a0 : Array Value} (hw : Hw Z a0) : (Jvm.Cond.interfaceMethod "java/util/List" "java/util/List" "iterator" "()Ljava/util/Iterator;").before a0 Z = true := hw _ (List.mem_of_getElem? (i := 174) rfl)
theorem w175 {Z : State} {a0 : Array Value} (hw : Hw Z a0) : (Jvm.Cond.selects "java/util/ArrayList" ({ cls := "java/util/List", name := "iterator", desc := "()Ljava/util/Iterator;" } : Jvm.MethodName) ({ cls := "java/util/ArrayList", name := "iterator", desc := "()Ljava/util/Iterator;" } : Jvm.MethodName)).before a0 Z = true := hw _ (List.mem_of_getElem? (i := 175) rfl)
theorem w176 {Z : State} {a0 : Array Value} (hw : Hw Z a0) : (Jvm.Cond.instanceMethod ({ cls := "java/util/ArrayList", name := "iterator", desc := "()Ljava/util/Iterator;" } : Jvm.MethodName)).before a0 Z = true := hw _ (List.mem_of_getElem? (i := 176) rfl)
theorem w177 {Z : State} {a0 : Array Value} (hw : Hw Z a0) : (Jvm.Cond.publicMethod ({ cls := "java/util/ArrayList", name := "iterator", desc := "()Ljava/util/Iterator;" } : Jvm.MethodName)).before a0 Z = true := hw _ (List.mem_of_getElem? (i := 177) rfl)
theorem w178 {Z : State} {a0 : Array Value} (hw : Hw Z a0) : (Jvm.Cond.unhidden "java/util/ArrayList" "iterator" "()Ljava/util/Iterator;").before a0 Z = true := hw _ (List.mem_of_getElem? (i := 178) rfl)
theorem w179 {Z : State} {a0 : Array Value} (hw : Hw Z a0) : (Jvm.Cond.castable "java/util/ArrayList" "java/util/List").before a0 Z = true := hw _ (List.mem_of_getElem? (i := 179) rfl)
theorem w180 {Z : State} {a0 : Array Value} (hw : Hw Z a0) : (Jvm.Cond.code ({ cls := "java/util/ArrayList", name := "iterator", desc := "()Ljava/util/Iterator;" } : Jvm.MethodName) jdk_38_method_55_code (1 : Nat) (Option.some (Jvm.ClassFile.FieldType.object "java/util/Iterator"))).before a0 Z = true := hw _ (List.mem_of_getElem? (i := 180) rfl)
theorem w181 {Z : State} {a0 : Array Value} (hw : Hw Z a0) : (Jvm.Cond.classLink "java/util/ArrayList" (267 : Nat) "java/util/ArrayList$Itr").before a0 Z = true := hw _ (List.mem_of_getElem? (i := 181) rfl)
theorem w182 {Z : State} {a0 : Array Value} (hw : Hw Z a0) : (Jvm.Cond.instantiable "java/util/ArrayList$Itr" (4 : Nat)).before a0 Z = true := hw _ (List.mem_of_getElem? (i := 182) rfl)
theorem w183 {Z : State} {a0 : Array Value} (hw : Hw Z a0) : (Jvm.Cond.initialized "java/util/ArrayList$Itr").before a0 Z = true := hw _ (List.mem_of_getElem? (i := 183) rfl)
theorem w184 {Z : State} {a0 : Array Value} (hw : Hw Z a0) : (Jvm.Cond.methodLink "java/util/ArrayList" (269 : Nat) ({ cls := "java/util/ArrayList$Itr", name := "<init>", desc := "(Ljava/util/ArrayList;)V" } : Jvm.MethodName)).before a0 Z = true := hw _ (List.mem_of_getElem? (i := 184) rfl)
theorem w185 {Z : State} {a0 : Array Value} (hw : Hw Z a0) : (Jvm.Cond.instanceMethod ({ cls := "java/util/ArrayList$Itr", name := "<init>", desc := "(Ljava/util/ArrayList;)V" } : Jvm.MethodName)).before a0 Z = true := hw _ (List.mem_of_getElem? (i := 185) rfl)
theorem w187 {Z : State} {a0 : Array Value} (hw : Hw Z a0) : (Jvm.Cond.code ({ cls := "java/util/ArrayList$Itr", name := "<init>", desc := "(Ljava/util/ArrayList;)V" } : Jvm.MethodName) jdk_49_method_1_code (2 : Nat) (Option.none : Option Jvm.ClassFile.FieldType)).before a0 Z = true := hw _ (List.mem_of_getElem? (i := 187) rfl)
theorem w188 {Z : State} {a0 : Array Value} (hw : Hw Z a0) : (Jvm.Cond.fieldLink "java/util/ArrayList$Itr" (1 : Nat) "java/util/ArrayList$Itr" "this$0" "Ljava/util/ArrayList;").before a0 Z = true := hw _ (List.mem_of_getElem? (i := 188) rfl)
theorem w189 {Z : State} {a0 : Array Value} (hw : Hw Z a0) : (Jvm.Cond.laysFinal "java/util/ArrayList$Itr" "java/util/ArrayList$Itr" "this$0" "Ljava/util/ArrayList;").before a0 Z = true := hw _ (List.mem_of_getElem? (i := 189) rfl)
theorem w190 {Z : State} {a0 : Array Value} (hw : Hw Z a0) : (Jvm.Cond.methodLink "java/util/ArrayList$Itr" (7 : Nat) ({ cls := "java/lang/Object", name := "<init>", desc := "()V" } : Jvm.MethodName)).before a0 Z = true := hw _ (List.mem_of_getElem? (i := 190) rfl)
theorem w191 {Z : State} {a0 : Array Value} (hw : Hw Z a0) : (Jvm.Cond.fieldLink "java/util/ArrayList$Itr" (13 : Nat) "java/util/ArrayList$Itr" "lastRet" "I").before a0 Z = true := hw _ (List.mem_of_getElem? (i := 191) rfl)
theorem w192 {Z : State} {a0 : Array Value} (hw : Hw Z a0) : (Jvm.Cond.lays "java/util/ArrayList$Itr" "java/util/ArrayList$Itr" "lastRet" "I").before a0 Z = true := hw _ (List.mem_of_getElem? (i := 192) rfl)
theorem w193 {Z : State} {a0 : Array Value} (hw : Hw Z a0) : (Jvm.Cond.fieldLink "java/util/ArrayList$Itr" (17 : Nat) "java/util/ArrayList" "modCount" "I").before a0 Z = true := hw _ (List.mem_of_getElem? (i := 193) rfl)
theorem w194 {Z : State} {a0 : Array Value} (hw : Hw Z a0) : (Jvm.Cond.sameField "java/util/ArrayList" "java/util/AbstractList" "modCount" "I").before a0 Z = true := hw _ (List.mem_of_getElem? (i := 194) rfl)
theorem w195 {Z : State} {a0 : Array Value} (hw : Hw Z a0) : (Jvm.Cond.fieldLink "java/util/ArrayList$Itr" (22 : Nat) "java/util/ArrayList$Itr" "expectedModCount" "I").before a0 Z = true := hw _ (List.mem_of_getElem? (i := 195) rfl)
theorem w196 {Z : State} {a0 : Array Value} (hw : Hw Z a0) : (Jvm.Cond.lays "java/util/ArrayList$Itr" "java/util/ArrayList$Itr" "expectedModCount" "I").before a0 Z = true := hw _ (List.mem_of_getElem? (i := 196) rfl)
theorem w197 {Z : State} {a0 : Array Value} (hw : Hw Z a0) : (Jvm.Cond.methodLink "com/example/tiebreak/tiebreak/core/ChainReport" (111 : Nat) ({ cls := "java/util/Iterator", name := "hasNext", desc := "()Z" } : Jvm.MethodName)).before a0 Z = true := hw _ (List.mem_of_getElem? (i := 197) rfl)
theorem w198 {Z : State} {a0 : Array Value} (hw : Hw Z a0) : (Jvm.Cond.declares ({ cls := "java/util/Iterator", name := "hasNext", desc := "()Z" } : Jvm.MethodName)).before a0 Z = true := hw _ (List.mem_of_getElem? (i := 198) rfl)
theorem w199 {Z : State} {a0 : Array Value} (hw : Hw Z a0) : (Jvm.Cond.interfaceMethod "java/util/Iterator" "java/util/Iterator" "hasNext" "()Z").before a0 Z = true := hw _ (List.mem_of_getElem? (i := 199) rfl)
theorem w200 {Z : State} {a0 : Array Value} (hw : Hw Z a0) : (Jvm.Cond.selects "java/util/ArrayList$Itr" ({ cls := "java/util/Iterator", name := "hasNext", desc := "()Z" } : Jvm.MethodName) ({ cls := "java/util/ArrayList$Itr", name := "hasNext", desc := "()Z" } : Jvm.MethodName)).before a0 Z = true := hw _ (List.mem_of_getElem? (i := 200) rfl)
theorem w201 {Z : State} {a0 : Array Value} (hw : Hw Z a0) : (Jvm.Cond.instanceMethod ({ cls := "java/util/ArrayList$Itr", name := "hasNext", desc := "()Z" } : Jvm.MethodName)).before a0 Z = true := hw _ (List.mem_of_getElem? (i := 201) rfl)
theorem w202 {Z : State} {a0 : Array Value} (hw : Hw Z a0) : (Jvm.Cond.publicMethod ({ cls := "java/util/ArrayList$Itr", name := "hasNext", desc := "()Z" } : Jvm.MethodName)).before a0 Z = true := hw _ (List.mem_of_getElem? (i := 202) rfl)
theorem w203 {Z : State} {a0 : Array Value} (hw : Hw Z a0) : (Jvm.Cond.unhidden "java/util/ArrayList$Itr" "hasNext" "()Z").before a0 Z = true := hw _ (List.mem_of_getElem? (i := 203) rfl)
theorem w204 {Z : State} {a0 : Array Value} (hw : Hw Z a0) : (Jvm.Cond.castable "java/util/ArrayList$Itr" "java/util/Iterator").before a0 Z = true := hw _ (List.mem_of_getElem? (i := 204) rfl)
theorem w205 {Z : State} {a0 : Array Value} (hw : Hw Z a0) : (Jvm.Cond.code ({ cls := "java/util/ArrayList$Itr", name := "hasNext", desc := "()Z" } : Jvm.MethodName) jdk_49_method_2_code (1 : Nat) (Option.some Jvm.ClassFile.FieldType.boolean)).before a0 Z = true := hw _ (List.mem_of_getElem? (i := 205) rfl)
theorem w206 {Z : State} {a0 : Array Value} (hw : Hw Z a0) : (Jvm.Cond.fieldLink "java/util/ArrayList$Itr" (25 : Nat) "java/util/ArrayList$Itr" "cursor" "I").before a0 Z = true := hw _ (List.mem_of_getElem? (i := 206) rfl)
theorem w207 {Z : State} {a0 : Array Value} (hw : Hw Z a0) : (Jvm.Cond.lays "java/util/ArrayList$Itr" "java/util/ArrayList$Itr" "cursor" "I").before a0 Z = true := hw _ (List.mem_of_getElem? (i := 207) rfl)
theorem w208 {Z : State} {a0 : Array Value} (hw : Hw Z a0) : (Jvm.Cond.fieldLinkNest "java/util/ArrayList$Itr" (28 : Nat) "java/util/ArrayList" "size" "I" "java/util/ArrayList").before a0 Z = true := hw _ (List.mem_of_getElem? (i := 208) rfl)
theorem w209 {Z : State} {a0 : Array Value} (hw : Hw Z a0) : (Jvm.Cond.lays "java/util/ArrayList" "java/util/ArrayList" "size" "I").before a0 Z = true := hw _ (List.mem_of_getElem? (i := 209) rfl)
theorem w210 {Z : State} {a0 : Array Value} (hw : Hw Z a0) : (Jvm.Cond.methodLink "com/example/tiebreak/tiebreak/core/ChainReportDuplicateLinesPinLaw" (36 : Nat) ({ cls := "java/util/List", name := "size", desc := "()I" } : Jvm.MethodName)).before a0 Z = true := hw _ (List.mem_of_getElem? (i := 210) rfl)
theorem w211 {Z : State} {a0 : Array Value} (hw : Hw Z a0) : (Jvm.Cond.declares ({ cls := "java/util/List", name := "size", desc := "()I" } : Jvm.MethodName)).before a0 Z = true := hw _ (List.mem_of_getElem? (i := 211) rfl)
theorem w212 {Z : State} {a0 : Array Value} (hw : Hw Z a0) : (Jvm.Cond.interfaceMethod "java/util/List" "java/util/List" "size" "()I").before a0 Z = true := hw _ (List.mem_of_getElem? (i := 212) rfl)
theorem w213 {Z : State} {a0 : Array Value} (hw : Hw Z a0) : (Jvm.Cond.selects "java/util/ArrayList" ({ cls := "java/util/List", name := "size", desc := "()I" } : Jvm.MethodName) ({ cls := "java/util/ArrayList", name := "size", desc := "()I" } : Jvm.MethodName)).before a0 Z = true := hw _ (List.mem_of_getElem? (i := 213) rfl)
theorem w214 {Z : State} {a0 : Array Value} (hw : Hw Z a0) : (Jvm.Cond.instanceMethod ({ cls := "java/util/ArrayList", name := "size", desc := "()I" } : Jvm.MethodName)).before a0 Z = true := hw _ (List.mem_of_getElem? (i := 214) rfl)
theorem w215 {Z : State} {a0 : Array Value} (hw : Hw Z a0) : (Jvm.Cond.publicMethod ({ cls := "java/util/ArrayList", name := "size", desc := "()I" } : Jvm.MethodName)).before a0 Z = true := hw _ (List.mem_of_getElem? (i := 215) rfl)
theorem w216 {Z : State} {a0 : Array Value} (hw : Hw Z a0) : (Jvm.Cond.unhidden "java/util/ArrayList" "size" "()I").before a0 Z = true := hw _ (List.mem_of_getElem? (i := 216) rfl)
theorem w217 {Z : State} {a0 : Array Value} (hw : Hw Z a0) : (Jvm.Cond.code ({ cls := "java/util/ArrayList", name := "size", desc := "()I" } : Jvm.MethodName) jdk_38_method_8_code (1 : Nat) (Option.some Jvm.ClassFile.FieldType.int)).before a0 Z = true := hw _ (List.mem_of_getElem? (i := 217) rfl)
theorem w218 {Z : State} {a0 : Array Value} (hw : Hw Z a0) : (Jvm.Cond.fieldLink "java/util/ArrayList" (48 : Nat) "java/util/ArrayList" "size" "I").before a0 Z = true := hw _ (List.mem_of_getElem? (i := 218) rfl)
theorem w219 {Z : State} {a0 : Array Value} (hw : Hw Z a0) : (Jvm.Cond.classLink "com/example/tiebreak/tiebreak/core/ChainReportDuplicateLinesPinLaw" (19 : Nat) "com/example/tiebreak/tiebreak/core/DuplicateRegistration").before a0 Z = true := hw _ (List.mem_of_getElem? (i := 219) rfl)
theorem w220 {Z : State} {a0 : Array Value} (hw : Hw Z a0) : (Jvm.Cond.instantiable "com/example/tiebreak/tiebreak/core/DuplicateRegistration" (3 : Nat)).before a0 Z = true := hw _ (List.mem_of_getElem? (i := 220) rfl)
theorem w221 {Z : State} {a0 : Array Value} (hw : Hw Z a0) : (Jvm.Cond.initialized "com/example/tiebreak/tiebreak/core/DuplicateRegistration").before a0 Z = true := hw _ (List.mem_of_getElem? (i := 221) rfl)
theorem w222 {Z : State} {a0 : Array Value} (hw : Hw Z a0) : (Jvm.Cond.methodLink "com/example/tiebreak/tiebreak/core/ChainReportDuplicateLinesPinLaw" (21 : Nat) ({ cls := "com/example/tiebreak/tiebreak/core/DuplicateRegistration", name := "<init>", desc := "(Ljava/lang/String;Ljava/lang/String;Ljava/lang/String;)V" } : Jvm.MethodName)).before a0 Z = true := hw _ (List.mem_of_getElem? (i := 222) rfl)
theorem w223 {Z : State} {a0 : Array Value} (hw : Hw Z a0) : (Jvm.Cond.instanceMethod ({ cls := "com/example/tiebreak/tiebreak/core/DuplicateRegistration", name := "<init>", desc := "(Ljava/lang/String;Ljava/lang/String;Ljava/lang/String;)V" } : Jvm.MethodName)).before a0 Z = true := hw _ (List.mem_of_getElem? (i := 223) rfl)
theorem w224 {Z : State} {a0 : Array Value} (hw : Hw Z a0) : (Jvm.Cond.code ({ cls := "com/example/tiebreak/tiebreak/core/DuplicateRegistration", name := "<init>", desc := "(Ljava/lang/String;Ljava/lang/String;Ljava/lang/String;)V" } : Jvm.MethodName) prog_4_method_1_code (4 : Nat) (Option.none : Option Jvm.ClassFile.FieldType)).before a0 Z = true := hw _ (List.mem_of_getElem? (i := 224) rfl)
theorem w225 {Z : State} {a0 : Array Value} (hw : Hw Z a0) : (Jvm.Cond.methodLink "com/example/tiebreak/tiebreak/core/DuplicateRegistration" (1 : Nat) ({ cls := "java/lang/Object", name := "<init>", desc := "()V" } : Jvm.MethodName)).before a0 Z = true := hw _ (List.mem_of_getElem? (i := 225) rfl)
theorem w226 {Z : State} {a0 : Array Value} (hw : Hw Z a0) : (Jvm.Cond.fieldLink "com/example/tiebreak/tiebreak/core/DuplicateRegistration" (7 : Nat) "com/example/tiebreak/tiebreak/core/DuplicateRegistration" "filterClass" "Ljava/lang/String;").before a0 Z = true := hw _ (List.mem_of_getElem? (i := 226) rfl)
theorem w227 {Z : State} {a0 : Array Value} (hw : Hw Z a0) : (Jvm.Cond.laysFinal "com/example/tiebreak/tiebreak/core/DuplicateRegistration" "com/example/tiebreak/tiebreak/core/DuplicateRegistration" "filterClass" "Ljava/lang/String;").before a0 Z = true := hw _ (List.mem_of_getElem? (i := 227) rfl)
theorem w228 {Z : State} {a0 : Array Value} (hw : Hw Z a0) : (Jvm.Cond.fieldLink "com/example/tiebreak/tiebreak/core/DuplicateRegistration" (13 : Nat) "com/example/tiebreak/tiebreak/core/DuplicateRegistration" "kept" "Ljava/lang/String;").before a0 Z = true := hw _ (List.mem_of_getElem? (i := 228) rfl)
theorem w229 {Z : State} {a0 : Array Value} (hw : Hw Z a0) : (Jvm.Cond.laysFinal "com/example/tiebreak/tiebreak/core/DuplicateRegistration" "com/example/tiebreak/tiebreak/core/DuplicateRegistration" "kept" "Ljava/lang/String;").before a0 Z = true := hw _ (List.mem_of_getElem? (i := 229) rfl)
theorem w230 {Z : State} {a0 : Array Value} (hw : Hw Z a0) : (Jvm.Cond.fieldLink "com/example/tiebreak/tiebreak/core/DuplicateRegistration" (16 : Nat) "com/example/tiebreak/tiebreak/core/DuplicateRegistration" "dropped" "Ljava/lang/String;").before a0 Z = true := hw _ (List.mem_of_getElem? (i := 230) rfl)
theorem w231 {Z : State} {a0 : Array Value} (hw : Hw Z a0) : (Jvm.Cond.laysFinal "com/example/tiebreak/tiebreak/core/DuplicateRegistration" "com/example/tiebreak/tiebreak/core/DuplicateRegistration" "dropped" "Ljava/lang/String;").before a0 Z = true := hw _ (List.mem_of_getElem? (i := 231) rfl)
theorem w232 {Z : State} {a0 : Array Value} (hw : Hw Z a0) : (Jvm.Cond.methodLink "com/example/tiebreak/tiebreak/core/ChainReportDuplicateLinesPinLaw" (24 : Nat) ({ cls := "java/util/List", name := "add", desc := "(Ljava/lang/Object;)Z" } : Jvm.MethodName)).before a0 Z = true := hw _ (List.mem_of_getElem? (i := 232) rfl)
theorem w233 {Z : State} {a0 : Array Value} (hw : Hw Z a0) : (Jvm.Cond.declares ({ cls := "java/util/List", name := "add", desc := "(Ljava/lang/Object;)Z" } : Jvm.MethodName)).before a0 Z = true := hw _ (List.mem_of_getElem? (i := 233) rfl)
theorem w234 {Z : State} {a0 : Array Value} (hw : Hw Z a0) : (Jvm.Cond.interfaceMethod "java/util/List" "java/util/List" "add" "(Ljava/lang/Object;)Z").before a0 Z = true := hw _ (List.mem_of_getElem? (i := 234) rfl)
theorem w235 {Z : State} {a0 : Array Value} (hw : Hw Z a0) : (Jvm.Cond.selects "java/util/ArrayList" ({ cls := "java/util/List", name := "add", desc := "(Ljava/lang/Object;)Z" } : Jvm.MethodName) ({ cls := "java/util/ArrayList", name := "add", desc := "(Ljava/lang/Object;)Z" } : Jvm.MethodName)).before a0 Z = true := hw _ (List.mem_of_getElem? (i := 235) rfl)
theorem w236 {Z : State} {a0 : Array Value} (hw : Hw Z a0) : (Jvm.Cond.instanceMethod ({ cls := "java/util/ArrayList", name := "add", desc := "(Ljava/lang/Object;)Z" } : Jvm.MethodName)).before a0 Z = true := hw _ (List.mem_of_getElem? (i := 236) rfl)
theorem w237 {Z : State} {a0 : Array Value} (hw : Hw Z a0) : (Jvm.Cond.publicMethod ({ cls := "java/util/ArrayList", name := "add", desc := "(Ljava/lang/Object;)Z" } : Jvm.MethodName)).before a0 Z = true := hw _ (List.mem_of_getElem? (i := 237) rfl)
theorem w238 {Z : State} {a0 : Array Value} (hw : Hw Z a0) : (Jvm.Cond.unhidden "java/util/ArrayList" "add" "(Ljava/lang/Object;)Z").before a0 Z = true := hw _ (List.mem_of_getElem? (i := 238) rfl)
theorem w239 {Z : State} {a0 : Array Value} (hw : Hw Z a0) : (Jvm.Cond.code ({ cls := "java/util/ArrayList", name := "add", desc := "(Ljava/lang/Object;)Z" } : Jvm.MethodName) jdk_38_method_25_code (2 : Nat) (Option.some Jvm.ClassFile.FieldType.boolean)).before a0 Z = true := hw _ (List.mem_of_getElem? (i := 239) rfl)
theorem w240 {Z : State} {a0 : Array Value} (hw : Hw Z a0) : (Jvm.Cond.fieldLink "java/util/ArrayList" (63 : Nat) "java/util/ArrayList" "modCount" "I").before a0 Z = true := hw _ (List.mem_of_getElem? (i := 240) rfl)
theorem w241 {Z : State} {a0 : Array Value} (hw : Hw Z a0) : (Jvm.Cond.methodLink "java/util/ArrayList" (131 : Nat) ({ cls := "java/util/ArrayList", name := "add", desc := "(Ljava/lang/Object;[Ljava/lang/Object;I)V" } : Jvm.MethodName)).before a0 Z = true := hw _ (List.mem_of_getElem? (i := 241) rfl)
theorem w242 {Z : State} {a0 : Array Value} (hw : Hw Z a0) : (Jvm.Cond.instanceMethod ({ cls := "java/util/ArrayList", name := "add", desc := "(Ljava/lang/Object;[Ljava/lang/Object;I)V" } : Jvm.MethodName)).before a0 Z = true := hw _ (List.mem_of_getElem? (i := 242) rfl)
theorem w244 {Z : State} {a0 : Array Value} (hw : Hw Z a0) : (Jvm.Cond.selects "java/util/ArrayList" ({ cls := "java/util/ArrayList", name := "add", desc := "(Ljava/lang/Object;[Ljava/lang/Object;I)V" } : Jvm.MethodName) ({ cls := "java/util/ArrayList", name := "add", desc := "(Ljava/lang/Object;[Ljava/lang/Object;I)V" } : Jvm.MethodName)).before a0 Z = true := hw _ (List.mem_of_getElem? (i := 244) rfl)
theorem w245 {Z : State} {a0 : Array Value} (hw : Hw Z a0) : (Jvm.Cond.code ({ cls := "java/util/ArrayList", name := "add", desc := "(Ljava/lang/Object;[Ljava/lang/Object;I)V" } : Jvm.MethodName) jdk_38_method_24_code (4 : Nat) (Option.none : Option Jvm.ClassFile.FieldType)).before a0 Z = true := hw _ (List.mem_of_getElem? (i := 245) rfl)
theorem w246 {Z : State} {a0 : Array Value} (hw : Hw Z a0) : (Jvm.Cond.methodLink "java/util/ArrayList" (129 : Nat) ({ cls := "java/util/ArrayList", name := "grow", desc := "()[Ljava/lang/Object;" } : Jvm.MethodName)).before a0 Z = true := hw _ (List.mem_of_getElem? (i := 246) rfl)
theorem w247 {Z : State} {a0 : Array Value} (hw : Hw Z a0) : (Jvm.Cond.instanceMethod ({ cls := "java/util/ArrayList", name := "grow", desc := "()[Ljava/lang/Object;" } : Jvm.MethodName)).before a0 Z = true := hw _ (List.mem_of_getElem? (i := 247) rfl)
theorem w249 {Z : State} {a0 : Array Value} (hw : Hw Z a0) : (Jvm.Cond.selects "java/util/ArrayList" ({ cls := "java/util/ArrayList", name := "grow", desc := "()[Ljava/lang/Object;" } : Jvm.MethodName) ({ cls := "java/util/ArrayList", name := "grow", desc := "()[Ljava/lang/Object;" } : Jvm.MethodName)).before a0 Z = true := hw _ (List.mem_of_getElem? (i := 249) rfl)
theorem w250 {Z : State} {a0 : Array Value} (hw : Hw Z a0) : (Jvm.Cond.code ({ cls := "java/util/ArrayList", name := "grow", desc := "()[Ljava/lang/Object;" } : Jvm.MethodName) jdk_38_method_7_code (1 : Nat) (Option.some (Jvm.ClassFile.FieldType.array (Jvm.ClassFile.FieldType.object "java/lang/Object")))).before a0 Z = true := hw _ (List.mem_of_getElem? (i := 250) rfl)
theorem w251 {Z : State} {a0 : Array Value} (hw : Hw Z a0) : (Jvm.Cond.methodLink "java/util/ArrayList" (69 : Nat) ({ cls := "java/util/ArrayList", name := "grow", desc := "(I)[Ljava/lang/Object;" } : Jvm.MethodName)).before a0 Z = true := hw _ (List.mem_of_getElem? (i := 251) rfl)
theorem w252 {Z : State} {a0 : Array Value} (hw : Hw Z a0) : (Jvm.Cond.instanceMethod ({ cls := "java/util/ArrayList", name := "grow", desc := "(I)[Ljava/lang/Object;" } : Jvm.MethodName)).before a0 Z = true := hw _ (List.mem_of_getElem? (i := 252) rfl)
theorem w254 {Z : State} {a0 : Array Value} (hw : Hw Z a0) : (Jvm.Cond.selects "java/util/ArrayList" ({ cls := "java/util/ArrayList", name := "grow", desc := "(I)[Ljava/lang/Object;" } : Jvm.MethodName) ({ cls := "java/util/ArrayList", name := "grow", desc := "(I)[Ljava/lang/Object;" } : Jvm.MethodName)).before a0 Z = true := hw _ (List.mem_of_getElem? (i := 254) rfl)
theorem w255 {Z : State} {a0 : Array Value} (hw : Hw Z a0) : (Jvm.Cond.code ({ cls := "java/util/ArrayList", name := "grow", desc := "(I)[Ljava/lang/Object;" } : Jvm.MethodName) jdk_38_method_6_code (4 : Nat) (Option.some (Jvm.ClassFile.FieldType.array (Jvm.ClassFile.FieldType.object "java/lang/Object")))).before a0 Z = true := hw _ (List.mem_of_getElem? (i := 255) rfl)
theorem w256 {Z : State} {a0 : Array Value} (hw : Hw Z a0) : (Jvm.Cond.methodLink "java/util/ArrayList" (79 : Nat) ({ cls := "java/lang/Math", name := "max", desc := "(II)I" } : Jvm.MethodName)).before a0 Z = true := hw _ (List.mem_of_getElem? (i := 256) rfl)
theorem w257 {Z : State} {a0 : Array Value} (hw : Hw Z a0) : (Jvm.Cond.static ({ cls := "java/lang/Math", name := "max", desc := "(II)I" } : Jvm.MethodName)).before a0 Z = true := hw _ (List.mem_of_getElem? (i := 257) rfl)
theorem w258 {Z : State} {a0 : Array Value} (hw : Hw Z a0) : (Jvm.Cond.code ({ cls := "java/lang/Math", name := "max", desc := "(II)I" } : Jvm.MethodName) jdk_29_method_65_code (2 : Nat) (Option.some Jvm.ClassFile.FieldType.int)).before a0 Z = true := hw _ (List.mem_of_getElem? (i := 258) rfl)
theorem w259 {Z : State} {a0 : Array Value} (hw : Hw Z a0) : (Jvm.Cond.classLink "java/util/ArrayList" (7 : Nat) "java/lang/Object").before a0 Z = true := hw _ (List.mem_of_getElem? (i := 259) rfl)
theorem w260 {Z : State} {a0 : Array Value} (hw : Hw Z a0) : (Jvm.Cond.arrayOver (Jvm.ClassFile.FieldType.object "java/lang/Object")).before a0 Z = true := hw _ (List.mem_of_getElem? (i := 260) rfl)
theorem w261 {Z : State} {a0 : Array Value} (hw : Hw Z a0) : (Jvm.Cond.castable "com/example/tiebreak/tiebreak/core/DuplicateRegistration" "java/lang/Object").before a0 Z = true := hw _ (List.mem_of_getElem? (i := 261) rfl)
theorem w262 {Z : State} {a0 : Array Value} (hw : Hw Z a0) : (Jvm.Cond.methodLink "com/example/tiebreak/tiebreak/core/ChainReport" (116 : Nat) ({ cls := "java/util/Iterator", name := "next", desc := "()Ljava/lang/Object;" } : Jvm.MethodName)).before a0 Z = true := hw _ (List.mem_of_getElem? (i := 262) rfl)
theorem w263 {Z : State} {a0 : Array Value} (hw : Hw Z a0) : (Jvm.Cond.declares ({ cls := "java/util/Iterator", name := "next", desc := "()Ljava/lang/Object;" } : Jvm.MethodName)).before a0 Z = true := hw _ (List.mem_of_getElem? (i := 263) rfl)
theorem w264 {Z : State} {a0 : Array Value} (hw : Hw Z a0) : (Jvm.Cond.interfaceMethod "java/util/Iterator" "java/util/Iterator" "next" "()Ljava/lang/Object;").before a0 Z = true := hw _ (List.mem_of_getElem? (i := 264) rfl)
theorem w265 {Z : State} {a0 : Array Value} (hw : Hw Z a0) : (Jvm.Cond.selects "java/util/ArrayList$Itr" ({ cls := "java/util/Iterator", name := "next", desc := "()Ljava/lang/Object;" } : Jvm.MethodName) ({ cls := "java/util/ArrayList$Itr", name := "next", desc := "()Ljava/lang/Object;" } : Jvm.MethodName)).before a0 Z = true := hw _ (List.mem_of_getElem? (i := 265) rfl)
theorem w266 {Z : State} {a0 : Array Value} (hw : Hw Z a0) : (Jvm.Cond.instanceMethod ({ cls := "java/util/ArrayList$Itr", name := "next", desc := "()Ljava/lang/Object;" } : Jvm.MethodName)).before a0 Z = true := hw _ (List.mem_of_getElem? (i := 266) rfl)
theorem w267 {Z : State} {a0 : Array Value} (hw : Hw Z a0) : (Jvm.Cond.publicMethod ({ cls := "java/util/ArrayList$Itr", name := "next", desc := "()Ljava/lang/Object;" } : Jvm.MethodName)).before a0 Z = true := hw _ (List.mem_of_getElem? (i := 267) rfl)
theorem w268 {Z : State} {a0 : Array Value} (hw : Hw Z a0) : (Jvm.Cond.unhidden "java/util/ArrayList$Itr" "next" "()Ljava/lang/Object;").before a0 Z = true := hw _ (List.mem_of_getElem? (i := 268) rfl)
theorem w269 {Z : State} {a0 : Array Value} (hw : Hw Z a0) : (Jvm.Cond.code ({ cls := "java/util/ArrayList$Itr", name := "next", desc := "()Ljava/lang/Object;" } : Jvm.MethodName) jdk_49_method_3_code (3 : Nat) (Option.some (Jvm.ClassFile.FieldType.object "java/lang/Object"))).before a0 Z = true := hw _ (List.mem_of_getElem? (i := 269) rfl)
theorem w270 {Z : State} {a0 : Array Value} (hw : Hw Z a0) : (Jvm.Cond.methodLink "java/util/ArrayList$Itr" (31 : Nat) ({ cls := "java/util/ArrayList$Itr", name := "checkForComodification", desc := "()V" } : Jvm.MethodName)).before a0 Z = true := hw _ (List.mem_of_getElem? (i := 270) rfl)
theorem w271 {Z : State} {a0 : Array Value} (hw : Hw Z a0) : (Jvm.Cond.declares ({ cls := "java/util/ArrayList$Itr", name := "checkForComodification", desc := "()V" } : Jvm.MethodName)).before a0 Z = true := hw _ (List.mem_of_getElem? (i := 271) rfl)
theorem w272 {Z : State} {a0 : Array Value} (hw : Hw Z a0) : (Jvm.Cond.instanceMethod ({ cls := "java/util/ArrayList$Itr", name := "checkForComodification", desc := "()V" } : Jvm.MethodName)).before a0 Z = true := hw _ (List.mem_of_getElem? (i := 272) rfl)
theorem w273 {Z : State} {a0 : Array Value} (hw : Hw Z a0) : (Jvm.Cond.selects "java/util/ArrayList$Itr" ({ cls := "java/util/ArrayList$Itr", name := "checkForComodification", desc := "()V" } : Jvm.MethodName) ({ cls := "java/util/ArrayList$Itr", name := "checkForComodification", desc := "()V" } : Jvm.MethodName)).before a0 Z = true := hw _ (List.mem_of_getElem? (i := 273) rfl)
theorem w274 {Z : State} {a0 : Array Value} (hw : Hw Z a0) : (Jvm.Cond.code ({ cls := "java/util/ArrayList$Itr", name := "checkForComodification", desc := "()V" } : Jvm.MethodName) jdk_49_method_6_code (1 : Nat) (Option.none : Option Jvm.ClassFile.FieldType)).before a0 Z = true := hw _ (List.mem_of_getElem? (i := 274) rfl)
theorem w275 {Z : State} {a0 : Array Value} (hw : Hw Z a0) : (Jvm.Cond.fieldLink "java/util/ArrayList$Itr" (37 : Nat) "java/util/ArrayList" "elementData" "[Ljava/lang/Object;").before a0 Z = true := hw _ (List.mem_of_getElem? (i := 275) rfl)
theorem w276 {Z : State} {a0 : Array Value} (hw : Hw Z a0) : (Jvm.Cond.classLink "com/example/tiebreak/tiebreak/core/ChainReport" (120 : Nat) "com/example/tiebreak/tiebreak/core/DuplicateRegistration").before a0 Z = true := hw _ (List.mem_of_getElem? (i := 276) rfl)
theorem w277 {Z : State} {a0 : Array Value} (hw : Hw Z a0) : (Jvm.Cond.castable "com/example/tiebreak/tiebreak/core/DuplicateRegistration" "com/example/tiebreak/tiebreak/core/DuplicateRegistration").before a0 Z = true := hw _ (List.mem_of_getElem? (i := 277) rfl)
theorem w278 {Z : State} {a0 : Array Value} (hw : Hw Z a0) : (Jvm.Cond.stringLink "com/example/tiebreak/tiebreak/core/ChainReport" (122 : Nat) " duplicate: ").before a0 Z = true := hw _ (List.mem_of_getElem? (i := 278) rfl)
theorem w279 {Z : State} {a0 : Array Value} (hw : Hw Z a0) : (Jvm.Cond.methodLink "java/lang/AbstractStringBuilder" (104 : Nat) ({ cls := "java/lang/AbstractStringBuilder", name := "newCapacity", desc := "(I)I" } : Jvm.MethodName)).before a0 Z = true := hw _ (List.mem_of_getElem? (i := 279) rfl)
theorem w280 {Z : State} {a0 : Array Value} (hw : Hw Z a0) : (Jvm.Cond.instanceMethod ({ cls := "java/lang/AbstractStringBuilder", name := "newCapacity", desc := "(I)I" } : Jvm.MethodName)).before a0 Z = true := hw _ (List.mem_of_getElem? (i := 280) rfl)
theorem w282 {Z : State} {a0 : Array Value} (hw : Hw Z a0) : (Jvm.Cond.selects "java/lang/StringBuilder" ({ cls := "java/lang/AbstractStringBuilder", name := "newCapacity", desc := "(I)I" } : Jvm.MethodName) ({ cls := "java/lang/AbstractStringBuilder", name := "newCapacity", desc := "(I)I" } : Jvm.MethodName)).before a0 Z = true := hw _ (List.mem_of_getElem? (i := 282) rfl)
theorem w283 {Z : State} {a0 : Array Value} (hw : Hw Z a0) : (Jvm.Cond.code ({ cls := "java/lang/AbstractStringBuilder", name := "newCapacity", desc := "(I)I" } : Jvm.MethodName) jdk_68_method_10_code (6 : Nat) (Option.some Jvm.ClassFile.FieldType.int)).before a0 Z = true := hw _ (List.mem_of_getElem? (i := 283) rfl)
theorem w284 {Z : State} {a0 : Array Value} (hw : Hw Z a0) : (Jvm.Cond.methodLink "java/lang/AbstractStringBuilder" (114 : Nat) ({ cls := "jdk/internal/util/ArraysSupport", name := "newLength", desc := "(III)I" } : Jvm.MethodName)).before a0 Z = true := hw _ (List.mem_of_getElem? (i := 284) rfl)
theorem w285 {Z : State} {a0 : Array Value} (hw : Hw Z a0) : (Jvm.Cond.static ({ cls := "jdk/internal/util/ArraysSupport", name := "newLength", desc := "(III)I" } : Jvm.MethodName)).before a0 Z = true := hw _ (List.mem_of_getElem? (i := 285) rfl)
theorem w286 {Z : State} {a0 : Array Value} (hw : Hw Z a0) : (Jvm.Cond.initialized "jdk/internal/util/ArraysSupport").before a0 Z = true := hw _ (List.mem_of_getElem? (i := 286) rfl)
theorem w287 {Z : State} {a0 : Array Value} (hw : Hw Z a0) : (Jvm.Cond.code ({ cls := "jdk/internal/util/ArraysSupport", name := "newLength", desc := "(III)I" } : Jvm.MethodName) jdk_48_method_27_code (4 : Nat) (Option.some Jvm.ClassFile.FieldType.int)).before a0 Z = true := hw _ (List.mem_of_getElem? (i := 287) rfl)
theorem w288 {Z : State} {a0 : Array Value} (hw : Hw Z a0) : (Jvm.Cond.methodLink "jdk/internal/util/ArraysSupport" (194 : Nat) ({ cls := "java/lang/Math", name := "max", desc := "(II)I" } : Jvm.MethodName)).before a0 Z = true := hw _ (List.mem_of_getElem? (i := 288) rfl)
theorem w289 {Z : State} {a0 : Array Value} (hw : Hw Z a0) : (Jvm.Cond.constant "jdk/internal/util/ArraysSupport" (200 : Nat) (2147483639 : Int32)).before a0 Z = true := hw _ (List.mem_of_getElem? (i := 289) rfl)
theorem w290 {Z : State} {a0 : Array Value} (hw : Hw Z a0) : (Jvm.Cond.constant "java/lang/AbstractStringBuilder" (39 : Nat) (2147483647 : Int32)).before a0 Z = true := hw _ (List.mem_of_getElem? (i := 290) rfl)
theorem w291 {Z : State} {a0 : Array Value} (hw : Hw Z a0) : (Jvm.Cond.methodLink "java/lang/AbstractStringBuilder" (108 : Nat) ({ cls := "java/util/Arrays", name := "copyOf", desc := "([BI)[B" } : Jvm.MethodName)).before a0 Z = true := hw _ (List.mem_of_getElem? (i := 291) rfl)
theorem w292 {Z : State} {a0 : Array Value} (hw : Hw Z a0) : (Jvm.Cond.static ({ cls := "java/util/Arrays", name := "copyOf", desc := "([BI)[B" } : Jvm.MethodName)).before a0 Z = true := hw _ (List.mem_of_getElem? (i := 292) rfl)
theorem w293 {Z : State} {a0 : Array Value} (hw : Hw Z a0) : (Jvm.Cond.code ({ cls := "java/util/Arrays", name := "copyOf", desc := "([BI)[B" } : Jvm.MethodName) jdk_65_method_121_code (3 : Nat) (Option.some (Jvm.ClassFile.FieldType.array Jvm.ClassFile.FieldType.byte))).before a0 Z = true := hw _ (List.mem_of_getElem? (i := 293) rfl)
theorem w294 {Z : State} {a0 : Array Value} (hw : Hw Z a0) : (Jvm.Cond.methodLink "com/example/tiebreak/tiebreak/core/ChainReport" (124 : Nat) ({ cls := "com/example/tiebreak/tiebreak/core/DuplicateRegistration", name := "filterClass", desc := "()Ljava/lang/String;" } : Jvm.MethodName)).before a0 Z = true := hw _ (List.mem_of_getElem? (i := 294) rfl)
theorem w295 {Z : State} {a0 : Array Value} (hw : Hw Z a0) : (Jvm.Cond.declares ({ cls := "com/example/tiebreak/tiebreak/core/DuplicateRegistration", name := "filterClass", desc := "()Ljava/lang/String;" } : Jvm.MethodName)).before a0 Z = true := hw _ (List.mem_of_getElem? (i := 295) rfl)
theorem w296 {Z : State} {a0 : Array Value} (hw : Hw Z a0) : (Jvm.Cond.instanceMethod ({ cls := "com/example/tiebreak/tiebreak/core/DuplicateRegistration", name := "filterClass", desc := "()Ljava/lang/String;" } : Jvm.MethodName)).before a0 Z = true := hw _ (List.mem_of_getElem? (i := 296) rfl)
theorem w297 {Z : State} {a0 : Array Value} (hw : Hw Z a0) : (Jvm.Cond.selects "com/example/tiebreak/tiebreak/core/DuplicateRegistration" ({ cls := "com/example/tiebreak/tiebreak/core/DuplicateRegistration", name := "filterClass", desc := "()Ljava/lang/String;" } : Jvm.MethodName) ({ cls := "com/example/tiebreak/tiebreak/core/DuplicateRegistration", name := "filterClass", desc := "()Ljava/lang/String;" } : Jvm.MethodName)).before a0 Z = true := hw _ (List.mem_of_getElem? (i := 297) rfl)
theorem w298 {Z : State} {a0 : Array Value} (hw : Hw Z a0) : (Jvm.Cond.code ({ cls := "com/example/tiebreak/tiebreak/core/DuplicateRegistration", name := "filterClass", desc := "()Ljava/lang/String;" } : Jvm.MethodName) prog_4_method_2_code (1 : Nat) (Option.some (Jvm.ClassFile.FieldType.object "java/lang/String"))).before a0 Z = true := hw _ (List.mem_of_getElem? (i := 298) rfl)
theorem w299 {Z : State} {a0 : Array Value} (hw : Hw Z a0) : (Jvm.Cond.stringLink "com/example/tiebreak/tiebreak/core/ChainReport" (127 : Nat) " registered as ").before a0 Z = true := hw _ (List.mem_of_getElem? (i := 299) rfl)
theorem w300 {Z : State} {a0 : Array Value} (hw : Hw Z a0) : (Jvm.Cond.methodLink "com/example/tiebreak/tiebreak/core/ChainReport" (129 : Nat) ({ cls := "com/example/tiebreak/tiebreak/core/DuplicateRegistration", name := "kept", desc := "()Ljava/lang/String;" } : Jvm.MethodName)).before a0 Z = true := hw _ (List.mem_of_getElem? (i := 300) rfl)
theorem w301 {Z : State} {a0 : Array Value} (hw : Hw Z a0) : (Jvm.Cond.declares ({ cls := "com/example/tiebreak/tiebreak/core/DuplicateRegistration", name := "kept", desc := "()Ljava/lang/String;" } : Jvm.MethodName)).before a0 Z = true := hw _ (List.mem_of_getElem? (i := 301) rfl)
theorem w302 {Z : State} {a0 : Array Value} (hw : Hw Z a0) : (Jvm.Cond.instanceMethod ({ cls := "com/example/tiebreak/tiebreak/core/DuplicateRegistration", name := "kept", desc := "()Ljava/lang/String;" } : Jvm.MethodName)).before a0 Z = true := hw _ (List.mem_of_getElem? (i := 302) rfl)
theorem w303 {Z : State} {a0 : Array Value} (hw : Hw Z a0) : (Jvm.Cond.selects "com/example/tiebreak/tiebreak/core/DuplicateRegistration" ({ cls := "com/example/tiebreak/tiebreak/core/DuplicateRegistration", name := "kept", desc := "()Ljava/lang/String;" } : Jvm.MethodName) ({ cls := "com/example/tiebreak/tiebreak/core/DuplicateRegistration", name := "kept", desc := "()Ljava/lang/String;" } : Jvm.MethodName)).before a0 Z = true := hw _ (List.mem_of_getElem? (i := 303) rfl)
theorem w304 {Z : State} {a0 : Array Value} (hw : Hw Z a0) : (Jvm.Cond.code ({ cls := "com/example/tiebreak/tiebreak/core/DuplicateRegistration", name := "kept", desc := "()Ljava/lang/String;" } : Jvm.MethodName) prog_4_method_3_code (1 : Nat) (Option.some (Jvm.ClassFile.FieldType.object "java/lang/String"))).before a0 Z = true := hw _ (List.mem_of_getElem? (i := 304) rfl)
theorem w305 {Z : State} {a0 : Array Value} (hw : Hw Z a0) : (Jvm.Cond.stringLink "com/example/tiebreak/tiebreak/core/ChainReport" (132 : Nat) " and ").before a0 Z = true := hw _ (List.mem_of_getElem? (i := 305) rfl)
theorem w306 {Z : State} {a0 : Array Value} (hw : Hw Z a0) : (Jvm.Cond.methodLink "com/example/tiebreak/tiebreak/core/ChainReport" (134 : Nat) ({ cls := "com/example/tiebreak/tiebreak/core/DuplicateRegistration", name := "dropped", desc := "()Ljava/lang/String;" } : Jvm.MethodName)).before a0 Z = true := hw _ (List.mem_of_getElem? (i := 306) rfl)
theorem w307 {Z : State} {a0 : Array Value} (hw : Hw Z a0) : (Jvm.Cond.declares ({ cls := "com/example/tiebreak/tiebreak/core/DuplicateRegistration", name := "dropped", desc := "()Ljava/lang/String;" } : Jvm.MethodName)).before a0 Z = true := hw _ (List.mem_of_getElem? (i := 307) rfl)
theorem w308 {Z : State} {a0 : Array Value} (hw : Hw Z a0) : (Jvm.Cond.instanceMethod ({ cls := "com/example/tiebreak/tiebreak/core/DuplicateRegistration", name := "dropped", desc := "()Ljava/lang/String;" } : Jvm.MethodName)).before a0 Z = true := hw _ (List.mem_of_getElem? (i := 308) rfl)
theorem w309 {Z : State} {a0 : Array Value} (hw : Hw Z a0) : (Jvm.Cond.selects "com/example/tiebreak/tiebreak/core/DuplicateRegistration" ({ cls := "com/example/tiebreak/tiebreak/core/DuplicateRegistration", name := "dropped", desc := "()Ljava/lang/String;" } : Jvm.MethodName) ({ cls := "com/example/tiebreak/tiebreak/core/DuplicateRegistration", name := "dropped", desc := "()Ljava/lang/String;" } : Jvm.MethodName)).before a0 Z = true := hw _ (List.mem_of_getElem? (i := 309) rfl)
theorem w310 {Z : State} {a0 : Array Value} (hw : Hw Z a0) : (Jvm.Cond.code ({ cls := "com/example/tiebreak/tiebreak/core/DuplicateRegistration", name := "dropped", desc := "()Ljava/lang/String;" } : Jvm.MethodName) prog_4_method_4_code (1 : Nat) (Option.some (Jvm.ClassFile.FieldType.object "java/lang/String"))).before a0 Z = true := hw _ (List.mem_of_getElem? (i := 310) rfl)
theorem w311 {Z : State} {a0 : Array Value} (hw : Hw Z a0) : (Jvm.Cond.stringLink "com/example/tiebreak/tiebreak/core/ChainReport" (137 : Nat) "; kept ").before a0 Z = true := hw _ (List.mem_of_getElem? (i := 311) rfl)
theorem w312 {Z : State} {a0 : Array Value} (hw : Hw Z a0) : (Jvm.Cond.methodLink "com/example/tiebreak/tiebreak/core/ChainReport" (40 : Nat) ({ cls := "java/util/List", name := "add", desc := "(Ljava/lang/Object;)Z" } : Jvm.MethodName)).before a0 Z = true := hw _ (List.mem_of_getElem? (i := 312) rfl)
theorem w313 {Z : State} {a0 : Array Value} (hw : Hw Z a0) : (Jvm.Cond.castable "java/lang/String" "java/lang/Object").before a0 Z = true := hw _ (List.mem_of_getElem? (i := 313) rfl)
theorem w314 {Z : State} {a0 : Array Value} (hw : Hw Z a0) : (Jvm.Cond.methodLink "com/example/tiebreak/tiebreak/core/ChainReportDuplicateLinesPinLaw" (40 : Nat) ({ cls := "com/example/tiebreak/tiebreak/core/ChainReportDuplicateLinesPinLaw", name := "expected", desc := "(CCCC)Ljava/lang/String;" } : Jvm.MethodName)).before a0 Z = true := hw _ (List.mem_of_getElem? (i := 314) rfl)
theorem w315 {Z : State} {a0 : Array Value} (hw : Hw Z a0) : (Jvm.Cond.static ({ cls := "com/example/tiebreak/tiebreak/core/ChainReportDuplicateLinesPinLaw", name := "expected", desc := "(CCCC)Ljava/lang/String;" } : Jvm.MethodName)).before a0 Z = true := hw _ (List.mem_of_getElem? (i := 315) rfl)
theorem w316 {Z : State} {a0 : Array Value} (hw : Hw Z a0) : (Jvm.Cond.initialized "com/example/tiebreak/tiebreak/core/ChainReportDuplicateLinesPinLaw").before a0 Z = true := hw _ (List.mem_of_getElem? (i := 316) rfl)
theorem w317 {Z : State} {a0 : Array Value} (hw : Hw Z a0) : (Jvm.Cond.code ({ cls := "com/example/tiebreak/tiebreak/core/ChainReportDuplicateLinesPinLaw", name := "expected", desc := "(CCCC)Ljava/lang/String;" } : Jvm.MethodName) method_2_code (5 : Nat) (Option.some (Jvm.ClassFile.FieldType.object "java/lang/String"))).before a0 Z = true := hw _ (List.mem_of_getElem? (i := 317) rfl)
theorem w318 {Z : State} {a0 : Array Value} (hw : Hw Z a0) : (Jvm.Cond.arrayClass Jvm.ClassFile.FieldType.char).before a0 Z = true := hw _ (List.mem_of_getElem? (i := 318) rfl)
theorem w319 {Z : State} {a0 : Array Value} (hw : Hw Z a0) : (Jvm.Cond.classLink "com/example/tiebreak/tiebreak/core/ChainReportDuplicateLinesPinLaw" (7 : Nat) "java/lang/String").before a0 Z = true := hw _ (List.mem_of_getElem? (i := 319) rfl)
theorem w320 {Z : State} {a0 : Array Value} (hw : Hw Z a0) : (Jvm.Cond.methodLink "com/example/tiebreak/tiebreak/core/ChainReportDuplicateLinesPinLaw" (9 : Nat) ({ cls := "java/lang/String", name := "<init>", desc := "([C)V" } : Jvm.MethodName)).before a0 Z = true := hw _ (List.mem_of_getElem? (i := 320) rfl)
theorem w321 {Z : State} {a0 : Array Value} (hw : Hw Z a0) : (Jvm.Cond.instanceMethod ({ cls := "java/lang/String", name := "<init>", desc := "([C)V" } : Jvm.MethodName)).before a0 Z = true := hw _ (List.mem_of_getElem? (i := 321) rfl)
theorem w322 {Z : State} {a0 : Array Value} (hw : Hw Z a0) : (Jvm.Cond.code ({ cls := "java/lang/String", name := "<init>", desc := "([C)V" } : Jvm.MethodName) jdk_42_method_3_code (2 : Nat) (Option.none : Option Jvm.ClassFile.FieldType)).before a0 Z = true := hw _ (List.mem_of_getElem? (i := 322) rfl)
theorem w323 {Z : State} {a0 : Array Value} (hw : Hw Z a0) : (Jvm.Cond.methodLink "java/lang/String" (27 : Nat) ({ cls := "java/lang/String", name := "<init>", desc := "([CIILjava/lang/Void;)V" } : Jvm.MethodName)).before a0 Z = true := hw _ (List.mem_of_getElem? (i := 323) rfl)
theorem w324 {Z : State} {a0 : Array Value} (hw : Hw Z a0) : (Jvm.Cond.instanceMethod ({ cls := "java/lang/String", name := "<init>", desc := "([CIILjava/lang/Void;)V" } : Jvm.MethodName)).before a0 Z = true := hw _ (List.mem_of_getElem? (i := 324) rfl)
theorem w325 {Z : State} {a0 : Array Value} (hw : Hw Z a0) : (Jvm.Cond.code ({ cls := "java/lang/String", name := "<init>", desc := "([CIILjava/lang/Void;)V" } : Jvm.MethodName) jdk_42_method_149_code (6 : Nat) (Option.none : Option Jvm.ClassFile.FieldType)).before a0 Z = true := hw _ (List.mem_of_getElem? (i := 325) rfl)
theorem w326 {Z : State} {a0 : Array Value} (hw : Hw Z a0) : (Jvm.Cond.methodLink "java/lang/String" (177 : Nat) ({ cls := "java/lang/StringUTF16", name := "compress", desc := "([CII)[B" } : Jvm.MethodName)).before a0 Z = true := hw _ (List.mem_of_getElem? (i := 326) rfl)
theorem w327 {Z : State} {a0 : Array Value} (hw : Hw Z a0) : (Jvm.Cond.static ({ cls := "java/lang/StringUTF16", name := "compress", desc := "([CII)[B" } : Jvm.MethodName)).before a0 Z = true := hw _ (List.mem_of_getElem? (i := 327) rfl)
theorem w328 {Z : State} {a0 : Array Value} (hw : Hw Z a0) : (Jvm.Cond.initialized "java/lang/StringUTF16").before a0 Z = true := hw _ (List.mem_of_getElem? (i := 328) rfl)
theorem w329 {Z : State} {a0 : Array Value} (hw : Hw Z a0) : (Jvm.Cond.code ({ cls := "java/lang/StringUTF16", name := "compress", desc := "([CII)[B" } : Jvm.MethodName) jdk_52_method_16_code (6 : Nat) (Option.some (Jvm.ClassFile.FieldType.array Jvm.ClassFile.FieldType.byte))).before a0 Z = true := hw _ (List.mem_of_getElem? (i := 329) rfl)
theorem w330 {Z : State} {a0 : Array Value} (hw : Hw Z a0) : (Jvm.Cond.methodLink "java/lang/StringUTF16" (115 : Nat) ({ cls := "java/lang/StringUTF16", name := "compress", desc := "([CI[BII)I" } : Jvm.MethodName)).before a0 Z = true := hw _ (List.mem_of_getElem? (i := 330) rfl)
theorem w331 {Z : State} {a0 : Array Value} (hw : Hw Z a0) : (Jvm.Cond.static ({ cls := "java/lang/StringUTF16", name := "compress", desc := "([CI[BII)I" } : Jvm.MethodName)).before a0 Z = true := hw _ (List.mem_of_getElem? (i := 331) rfl)
theorem w332 {Z : State} {a0 : Array Value} (hw : Hw Z a0) : (Jvm.Cond.code ({ cls := "java/lang/StringUTF16", name := "compress", desc := "([CI[BII)I" } : Jvm.MethodName) jdk_52_method_21_code (7 : Nat) (Option.some Jvm.ClassFile.FieldType.int)).before a0 Z = true := hw _ (List.mem_of_getElem? (i := 332) rfl)
theorem w333 {Z : State} {a0 : Array Value} (hw : Hw Z a0) : (Jvm.Cond.methodLink "java/lang/String" (47 : Nat) ({ cls := "java/lang/StringUTF16", name := "coderFromArrayLen", desc := "([BI)B" } : Jvm.MethodName)).before a0 Z = true := hw _ (List.mem_of_getElem? (i := 333) rfl)
theorem w334 {Z : State} {a0 : Array Value} (hw : Hw Z a0) : (Jvm.Cond.static ({ cls := "java/lang/StringUTF16", name := "coderFromArrayLen", desc := "([BI)B" } : Jvm.MethodName)).before a0 Z = true := hw _ (List.mem_of_getElem? (i := 334) rfl)
theorem w335 {Z : State} {a0 : Array Value} (hw : Hw Z a0) : (Jvm.Cond.code ({ cls := "java/lang/StringUTF16", name := "coderFromArrayLen", desc := "([BI)B" } : Jvm.MethodName) jdk_52_method_15_code (2 : Nat) (Option.some Jvm.ClassFile.FieldType.byte)).before a0 Z = true := hw _ (List.mem_of_getElem? (i := 335) rfl)
theorem w336 {Z : State} {a0 : Array Value} (hw : Hw Z a0) : (Jvm.Cond.methodLink "com/example/tiebreak/tiebreak/core/ChainReportDuplicateLinesPinLaw" (46 : Nat) ({ cls := "java/util/List", name := "get", desc := "(I)Ljava/lang/Object;" } : Jvm.MethodName)).before a0 Z = true := hw _ (List.mem_of_getElem? (i := 336) rfl)
theorem w337 {Z : State} {a0 : Array Value} (hw : Hw Z a0) : (Jvm.Cond.declares ({ cls := "java/util/List", name := "get", desc := "(I)Ljava/lang/Object;" } : Jvm.MethodName)).before a0 Z = true := hw _ (List.mem_of_getElem? (i := 337) rfl)
theorem w338 {Z : State} {a0 : Array Value} (hw : Hw Z a0) : (Jvm.Cond.interfaceMethod "java/util/List" "java/util/List" "get" "(I)Ljava/lang/Object;").before a0 Z = true := hw _ (List.mem_of_getElem? (i := 338) rfl)
theorem w339 {Z : State} {a0 : Array Value} (hw : Hw Z a0) : (Jvm.Cond.selects "java/util/ArrayList" ({ cls := "java/util/List", name := "get", desc := "(I)Ljava/lang/Object;" } : Jvm.MethodName) ({ cls := "java/util/ArrayList", name := "get", desc := "(I)Ljava/lang/Object;" } : Jvm.MethodName)).before a0 Z = true := hw _ (List.mem_of_getElem? (i := 339) rfl)
theorem w340 {Z : State} {a0 : Array Value} (hw : Hw Z a0) : (Jvm.Cond.instanceMethod ({ cls := "java/util/ArrayList", name := "get", desc := "(I)Ljava/lang/Object;" } : Jvm.MethodName)).before a0 Z = true := hw _ (List.mem_of_getElem? (i := 340) rfl)
theorem w341 {Z : State} {a0 : Array Value} (hw : Hw Z a0) : (Jvm.Cond.publicMethod ({ cls := "java/util/ArrayList", name := "get", desc := "(I)Ljava/lang/Object;" } : Jvm.MethodName)).before a0 Z = true := hw _ (List.mem_of_getElem? (i := 341) rfl)
theorem w342 {Z : State} {a0 : Array Value} (hw : Hw Z a0) : (Jvm.Cond.unhidden "java/util/ArrayList" "get" "(I)Ljava/lang/Object;").before a0 Z = true := hw _ (List.mem_of_getElem? (i := 342) rfl)
theorem w343 {Z : State} {a0 : Array Value} (hw : Hw Z a0) : (Jvm.Cond.code ({ cls := "java/util/ArrayList", name := "get", desc := "(I)Ljava/lang/Object;" } : Jvm.MethodName) jdk_38_method_20_code (2 : Nat) (Option.some (Jvm.ClassFile.FieldType.object "java/lang/Object"))).before a0 Z = true := hw _ (List.mem_of_getElem? (i := 343) rfl)
theorem w344 {Z : State} {a0 : Array Value} (hw : Hw Z a0) : (Jvm.Cond.methodLink "java/util/ArrayList" (118 : Nat) ({ cls := "java/util/Objects", name := "checkIndex", desc := "(II)I" } : Jvm.MethodName)).before a0 Z = true := hw _ (List.mem_of_getElem? (i := 344) rfl)
theorem w345 {Z : State} {a0 : Array Value} (hw : Hw Z a0) : (Jvm.Cond.static ({ cls := "java/util/Objects", name := "checkIndex", desc := "(II)I" } : Jvm.MethodName)).before a0 Z = true := hw _ (List.mem_of_getElem? (i := 345) rfl)
theorem w346 {Z : State} {a0 : Array Value} (hw : Hw Z a0) : (Jvm.Cond.initialized "java/util/Objects").before a0 Z = true := hw _ (List.mem_of_getElem? (i := 346) rfl)
theorem w347 {Z : State} {a0 : Array Value} (hw : Hw Z a0) : (Jvm.Cond.code ({ cls := "java/util/Objects", name := "checkIndex", desc := "(II)I" } : Jvm.MethodName) jdk_31_method_17_code (2 : Nat) (Option.some Jvm.ClassFile.FieldType.int)).before a0 Z = true := hw _ (List.mem_of_getElem? (i := 347) rfl)
theorem w348 {Z : State} {a0 : Array Value} (hw : Hw Z a0) : (Jvm.Cond.methodLink "java/util/Objects" (105 : Nat) ({ cls := "jdk/internal/util/Preconditions", name := "checkIndex", desc := "(IILjava/util/function/BiFunction;)I" } : Jvm.MethodName)).before a0 Z = true := hw _ (List.mem_of_getElem? (i := 348) rfl)
theorem w349 {Z : State} {a0 : Array Value} (hw : Hw Z a0) : (Jvm.Cond.static ({ cls := "jdk/internal/util/Preconditions", name := "checkIndex", desc := "(IILjava/util/function/BiFunction;)I" } : Jvm.MethodName)).before a0 Z = true := hw _ (List.mem_of_getElem? (i := 349) rfl)
theorem w350 {Z : State} {a0 : Array Value} (hw : Hw Z a0) : (Jvm.Cond.initialized "jdk/internal/util/Preconditions").before a0 Z = true := hw _ (List.mem_of_getElem? (i := 350) rfl)
theorem w351 {Z : State} {a0 : Array Value} (hw : Hw Z a0) : (Jvm.Cond.code ({ cls := "jdk/internal/util/Preconditions", name := "checkIndex", desc := "(IILjava/util/function/BiFunction;)I" } : Jvm.MethodName) jdk_41_method_11_code (3 : Nat) (Option.some Jvm.ClassFile.FieldType.int)).before a0 Z = true := hw _ (List.mem_of_getElem? (i := 351) rfl)
theorem w352 {Z : State} {a0 : Array Value} (hw : Hw Z a0) : (Jvm.Cond.methodLink "java/util/ArrayList" (123 : Nat) ({ cls := "java/util/ArrayList", name := "elementData", desc := "(I)Ljava/lang/Object;" } : Jvm.MethodName)).before a0 Z = true := hw _ (List.mem_of_getElem? (i := 352) rfl)
theorem w353 {Z : State} {a0 : Array Value} (hw : Hw Z a0) : (Jvm.Cond.declares ({ cls := "java/util/ArrayList", name := "elementData", desc := "(I)Ljava/lang/Object;" } : Jvm.MethodName)).before a0 Z = true := hw _ (List.mem_of_getElem? (i := 353) rfl)
theorem w354 {Z : State} {a0 : Array Value} (hw : Hw Z a0) : (Jvm.Cond.instanceMethod ({ cls := "java/util/ArrayList", name := "elementData", desc := "(I)Ljava/lang/Object;" } : Jvm.MethodName)).before a0 Z = true := hw _ (List.mem_of_getElem? (i := 354) rfl)
theorem w355 {Z : State} {a0 : Array Value} (hw : Hw Z a0) : (Jvm.Cond.selects "java/util/ArrayList" ({ cls := "java/util/ArrayList", name := "elementData", desc := "(I)Ljava/lang/Object;" } : Jvm.MethodName) ({ cls := "java/util/ArrayList", name := "elementData", desc := "(I)Ljava/lang/Object;" } : Jvm.MethodName)).before a0 Z = true := hw _ (List.mem_of_getElem? (i := 355) rfl)
theorem w356 {Z : State} {a0 : Array Value} (hw : Hw Z a0) : (Jvm.Cond.code ({ cls := "java/util/ArrayList", name := "elementData", desc := "(I)Ljava/lang/Object;" } : Jvm.MethodName) jdk_38_method_18_code (2 : Nat) (Option.some (Jvm.ClassFile.FieldType.object "java/lang/Object"))).before a0 Z = true := hw _ (List.mem_of_getElem? (i := 356) rfl)
theorem w357 {Z : State} {a0 : Array Value} (hw : Hw Z a0) : (Jvm.Cond.methodLink "com/example/tiebreak/tiebreak/core/ChainReportDuplicateLinesPinLaw" (50 : Nat) ({ cls := "java/lang/String", name := "equals", desc := "(Ljava/lang/Object;)Z" } : Jvm.MethodName)).before a0 Z = true := hw _ (List.mem_of_getElem? (i := 357) rfl)
theorem w358 {Z : State} {a0 : Array Value} (hw : Hw Z a0) : (Jvm.Cond.declares ({ cls := "java/lang/String", name := "equals", desc := "(Ljava/lang/Object;)Z" } : Jvm.MethodName)).before a0 Z = true := hw _ (List.mem_of_getElem? (i := 358) rfl)
theorem w359 {Z : State} {a0 : Array Value} (hw : Hw Z a0) : (Jvm.Cond.instanceMethod ({ cls := "java/lang/String", name := "equals", desc := "(Ljava/lang/Object;)Z" } : Jvm.MethodName)).before a0 Z = true := hw _ (List.mem_of_getElem? (i := 359) rfl)
theorem w360 {Z : State} {a0 : Array Value} (hw : Hw Z a0) : (Jvm.Cond.selects "java/lang/String" ({ cls := "java/lang/String", name := "equals", desc := "(Ljava/lang/Object;)Z" } : Jvm.MethodName) ({ cls := "java/lang/String", name := "equals", desc := "(Ljava/lang/Object;)Z" } : Jvm.MethodName)).before a0 Z = true := hw _ (List.mem_of_getElem? (i := 360) rfl)
theorem w361 {Z : State} {a0 : Array Value} (hw : Hw Z a0) : (Jvm.Cond.code ({ cls := "java/lang/String", name := "equals", desc := "(Ljava/lang/Object;)Z" } : Jvm.MethodName) jdk_42_method_66_code (3 : Nat) (Option.some Jvm.ClassFile.FieldType.boolean)).before a0 Z = true := hw _ (List.mem_of_getElem? (i := 361) rfl)
theorem w362 {Z : State} {a0 : Array Value} (hw : Hw Z a0) : (Jvm.Cond.methodLink "java/lang/String" (541 : Nat) ({ cls := "java/lang/StringLatin1", name := "equals", desc := "([B[B)Z" } : Jvm.MethodName)).before a0 Z = true := hw _ (List.mem_of_getElem? (i := 362) rfl)
theorem w363 {Z : State} {a0 : Array Value} (hw : Hw Z a0) : (Jvm.Cond.static ({ cls := "java/lang/StringLatin1", name := "equals", desc := "([B[B)Z" } : Jvm.MethodName)).before a0 Z = true := hw _ (List.mem_of_getElem? (i := 363) rfl)
theorem w364 {Z : State} {a0 : Array Value} (hw : Hw Z a0) : (Jvm.Cond.code ({ cls := "java/lang/StringLatin1", name := "equals", desc := "([B[B)Z" } : Jvm.MethodName) jdk_43_method_13_code (3 : Nat) (Option.some Jvm.ClassFile.FieldType.boolean)).before a0 Z = true := hw _ (List.mem_of_getElem? (i := 364) rfl)
theorem pd0 : parseMethodDescriptor "([CI[BII)I" = some ⟨[(.array .char), .int, (.array .byte), .int, .int], some .int⟩ := by decide +kernel
theorem pd1 : parseMethodDescriptor "([CII)[B" = some ⟨[(.array .char), .int, .int], some (.array .byte)⟩ := by decide +kernel
theorem pd2 : parseMethodDescriptor "([BI)B" = some ⟨[(.array .byte), .int], some .byte⟩ := by decide +kernel
theorem pd3 : parseMethodDescriptor "([CIILjava/lang/Void;)V" = some ⟨[(.array .char), .int, .int, (.object "java/lang/Void")], none⟩ := by decide +kernel
theorem pd4 : parseMethodDescriptor "()B" = some ⟨[], some .byte⟩ := by decide +kernel
theorem pd5 : parseMethodDescriptor "(C)Z" = some ⟨[.char], some .boolean⟩ := by decide +kernel
theorem pd6 : parseMethodDescriptor "(C)[B" = some ⟨[.char], some (.array .byte)⟩ := by decide +kernel
theorem pd7 : parseMethodDescriptor "([BB)V" = some ⟨[(.array .byte), .byte], none⟩ := by decide +kernel
theorem pd8 : parseMethodDescriptor "(II)I" = some ⟨[.int, .int], some .int⟩ := by decide +kernel
theorem pd9 : parseMethodDescriptor "(III)I" = some ⟨[.int, .int, .int], some .int⟩ := by decide +kernel
theorem pd10 : parseMethodDescriptor "(I)I" = some ⟨[.int], some .int⟩ := by decide +kernel
theorem pd11 : parseMethodDescriptor "([BI)[B" = some ⟨[(.array .byte), .int], some (.array .byte)⟩ := by decide +kernel
theorem pd12 : parseMethodDescriptor "(I)V" = some ⟨[.int], none⟩ := by decide +kernel
theorem pd13 : parseMethodDescriptor "(Ljava/lang/String;)V" = some ⟨[(.object "java/lang/String")], none⟩ := by decide +kernel
theorem pd14 : parseMethodDescriptor "([BIB)V" = some ⟨[(.array .byte), .int, .byte], none⟩ := by decide +kernel
theorem pd15 : parseMethodDescriptor "()I" = some ⟨[], some .int⟩ := by decide +kernel
theorem pd16 : parseMethodDescriptor "(ILjava/lang/String;)V" = some ⟨[.int, (.object "java/lang/String")], none⟩ := by decide +kernel
theorem pd17 : parseMethodDescriptor "(Ljava/lang/String;)Ljava/lang/AbstractStringBuilder;" = some ⟨[(.object "java/lang/String")], some (.object "java/lang/AbstractStringBuilder")⟩ := by decide +kernel
theorem pd18 : parseMethodDescriptor "(II)V" = some ⟨[.int, .int], none⟩ := by decide +kernel
theorem pd19 : parseMethodDescriptor "([BII)[B" = some ⟨[(.array .byte), .int, .int], some (.array .byte)⟩ := by decide +kernel
theorem pd20 : parseMethodDescriptor "()[B" = some ⟨[], some (.array .byte)⟩ := by decide +kernel
theorem pd21 : parseMethodDescriptor "()Z" = some ⟨[], some .boolean⟩ := by decide +kernel
theorem pd22 : parseMethodDescriptor "(Ljava/lang/AbstractStringBuilder;Ljava/lang/Void;)V" = some ⟨[(.object "java/lang/AbstractStringBuilder"), (.object "java/lang/Void")], none⟩ := by decide +kernel
theorem pd23 : parseMethodDescriptor "(Ljava/lang/StringBuilder;)V" = some ⟨[(.object "java/lang/StringBuilder")], none⟩ := by decide +kernel
theorem pd24 : parseMethodDescriptor "()V" = some ⟨[], none⟩ := by decide +kernel
theorem pd25 : parseMethodDescriptor "(I)[Ljava/lang/Object;" = some ⟨[.int], some (.array (.object "java/lang/Object"))⟩ := by decide +kernel
theorem pd26 : parseMethodDescriptor "()[Ljava/lang/Object;" = some ⟨[], some (.array (.object "java/lang/Object"))⟩ := by decide +kernel
theorem pd27 : parseMethodDescriptor "(Ljava/lang/Object;[Ljava/lang/Object;I)V" = some ⟨[(.object "java/lang/Object"), (.array (.object "java/lang/Object")), .int], none⟩ := by decide +kernel
theorem pd28 : parseMethodDescriptor "(Ljava/util/ArrayList;)V" = some ⟨[(.object "java/util/ArrayList")], none⟩ := by decide +kernel
theorem pd29 : parseMethodDescriptor "(IILjava/util/function/BiFunction;)I" = some ⟨[.int, .int, (.object "java/util/function/BiFunction")], some .int⟩ := by decide +kernel
theorem pd30 : parseMethodDescriptor "(I)Ljava/lang/Object;" = some ⟨[.int], some (.object "java/lang/Object")⟩ := by decide +kernel
theorem pd31 : parseMethodDescriptor "([B[B)Z" = some ⟨[(.array .byte), (.array .byte)], some .boolean⟩ := by decide +kernel
theorem pd32 : parseMethodDescriptor "(Ljava/lang/String;)Ljava/lang/StringBuilder;" = some ⟨[(.object "java/lang/String")], some (.object "java/lang/StringBuilder")⟩ := by decide +kernel
theorem pd33 : parseMethodDescriptor "()Ljava/lang/String;" = some ⟨[], some (.object "java/lang/String")⟩ := by decide +kernel
theorem pd34 : parseMethodDescriptor "(Ljava/lang/String;)Ljava/lang/String;" = some ⟨[(.object "java/lang/String")], some (.object "java/lang/String")⟩ := by decide +kernel
theorem pd35 : parseMethodDescriptor "()Ljava/util/Iterator;" = some ⟨[], some (.object "java/util/Iterator")⟩ := by decide +kernel
theorem pd36 : parseMethodDescriptor "()Ljava/lang/Object;" = some ⟨[], some (.object "java/lang/Object")⟩ := by decide +kernel
theorem pd37 : parseMethodDescriptor "(Ljava/lang/Object;)Z" = some ⟨[(.object "java/lang/Object")], some .boolean⟩ := by decide +kernel
theorem pd38 : parseMethodDescriptor "([C)V" = some ⟨[(.array .char)], none⟩ := by decide +kernel
theorem pd39 : parseMethodDescriptor "(C)Ljava/lang/String;" = some ⟨[.char], some (.object "java/lang/String")⟩ := by decide +kernel
theorem pd40 : parseMethodDescriptor "(Ljava/lang/String;Ljava/util/List;)Ljava/util/List;" = some ⟨[(.object "java/lang/String"), (.object "java/util/List")], some (.object "java/util/List")⟩ := by decide +kernel
theorem pd41 : parseMethodDescriptor "(Ljava/lang/String;Ljava/lang/String;Ljava/lang/String;)V" = some ⟨[(.object "java/lang/String"), (.object "java/lang/String"), (.object "java/lang/String")], none⟩ := by decide +kernel
theorem pd42 : parseMethodDescriptor "(CCCC)Ljava/lang/String;" = some ⟨[.char, .char, .char, .char], some (.object "java/lang/String")⟩ := by decide +kernel
theorem pn0 : plainFor (⟨"java/lang/StringUTF16", "compress", "([CI[BII)I"⟩ : MethodName) = true := by first | exact plainFor_of_name (by first | (simp [plainName, overriddenIn]; done) | decide +kernel) | decide +kernel
theorem pn1 : plainFor (⟨"java/lang/StringUTF16", "compress", "([CII)[B"⟩ : MethodName) = true := by first | exact plainFor_of_name (by first | (simp [plainName, overriddenIn]; done) | decide +kernel) | decide +kernel
theorem pn2 : plainFor (⟨"java/lang/StringUTF16", "coderFromArrayLen", "([BI)B"⟩ : MethodName) = true := by first | exact plainFor_of_name (by first | (simp [plainName, overriddenIn]; done) | decide +kernel) | decide +kernel
theorem pn3 : plainFor (⟨"java/lang/String", "<init>", "([CIILjava/lang/Void;)V"⟩ : MethodName) = true := by first | exact plainFor_of_name (by first | (simp [plainName, overriddenIn]; done) | decide +kernel) | decide +kernel
theorem pn4 : plainFor (⟨"java/lang/String", "<init>", "([C)V"⟩ : MethodName) = true := by first | exact plainFor_of_name (by first | (simp [plainName, overriddenIn]; done) | decide +kernel) | decide +kernel
theorem pn5 : plainFor (⟨"java/lang/String", "coder", "()B"⟩ : MethodName) = true := by first | exact plainFor_of_name (by first | (simp [plainName, overriddenIn]; done) | decide +kernel) | decide +kernel
theorem pn6 : plainFor (⟨"java/lang/String", "length", "()I"⟩ : MethodName) = true := by first | exact plainFor_of_name (by first | (simp [plainName, overriddenIn]; done) | decide +kernel) | decide +kernel
theorem pn7 : plainFor (⟨"java/lang/Math", "min", "(II)I"⟩ : MethodName) = true := by first | exact plainFor_of_name (by first | (simp [plainName, overriddenIn]; done) | decide +kernel) | decide +kernel
theorem pn8 : plainFor (⟨"java/lang/Math", "max", "(II)I"⟩ : MethodName) = true := by first | exact plainFor_of_name (by first | (simp [plainName, overriddenIn]; done) | decide +kernel) | decide +kernel
theorem pn9 : plainFor (⟨"java/lang/StringLatin1", "canEncode", "(C)Z"⟩ : MethodName) = true := by first | exact plainFor_of_name (by first | (simp [plainName, overriddenIn]; done) | decide +kernel) | decide +kernel
theorem pn10 : plainFor (⟨"java/lang/StringLatin1", "toBytes", "(C)[B"⟩ : MethodName) = true := by first | exact plainFor_of_name (by first | (simp [plainName, overriddenIn]; done) | decide +kernel) | decide +kernel
theorem pn11 : plainFor (⟨"java/lang/String", "<init>", "([BB)V"⟩ : MethodName) = true := by first | exact plainFor_of_name (by first | (simp [plainName, overriddenIn]; done) | decide +kernel) | decide +kernel
theorem pn12 : plainFor (⟨"java/lang/String", "valueOf", "(C)Ljava/lang/String;"⟩ : MethodName) = true := by first | exact plainFor_of_name (by first | (simp [plainName, overriddenIn]; done) | decide +kernel) | decide +kernel
theorem pn13 : plainFor (⟨"jdk/internal/util/Preconditions", "checkIndex", "(IILjava/util/function/BiFunction;)I"⟩ : MethodName) = true := by first | exact plainFor_of_name (by first | (simp [plainName, overriddenIn]; done) | decide +kernel) | decide +kernel
theorem pn14 : plainFor (⟨"java/lang/AbstractStringBuilder", "<init>", "(I)V"⟩ : MethodName) = true := by first | exact plainFor_of_name (by first | (simp [plainName, overriddenIn]; done) | decide +kernel) | decide +kernel
theorem pn15 : plainFor (⟨"jdk/internal/util/ArraysSupport", "newLength", "(III)I"⟩ : MethodName) = true := by first | exact plainFor_of_name (by first | (simp [plainName, overriddenIn]; done) | decide +kernel) | decide +kernel
theorem pn16 : plainFor (⟨"java/lang/AbstractStringBuilder", "newCapacity", "(I)I"⟩ : MethodName) = true := by first | exact plainFor_of_name (by first | (simp [plainName, overriddenIn]; done) | decide +kernel) | decide +kernel
theorem pn17 : plainFor (⟨"java/util/Arrays", "copyOf", "([BI)[B"⟩ : MethodName) = true := by first | exact plainFor_of_name (by first | (simp [plainName, overriddenIn]; done) | decide +kernel) | decide +kernel
theorem pn18 : plainFor (⟨"java/lang/AbstractStringBuilder", "ensureCapacityInternal", "(I)V"⟩ : MethodName) = true := by first | exact plainFor_of_name (by first | (simp [plainName, overriddenIn]; done) | decide +kernel) | decide +kernel
theorem pn19 : plainFor (⟨"java/lang/StringBuilder", "<init>", "()V"⟩ : MethodName) = true := by first | exact plainFor_of_name (by first | (simp [plainName, overriddenIn]; done) | decide +kernel) | decide +kernel
theorem pn20 : plainFor (⟨"java/lang/AbstractStringBuilder", "inflateIfNeededFor", "(Ljava/lang/String;)V"⟩ : MethodName) = true := by first | exact plainFor_of_name (by first | (simp [plainName, overriddenIn]; done) | decide +kernel) | decide +kernel
theorem pn21 : plainFor (⟨"java/lang/String", "getBytes", "([BIB)V"⟩ : MethodName) = true := by first | exact plainFor_of_name (by first | (simp [plainName, overriddenIn]; done) | decide +kernel) | decide +kernel
theorem pn22 : plainFor (⟨"java/lang/AbstractStringBuilder", "putStringAt", "(ILjava/lang/String;)V"⟩ : MethodName) = true := by first | exact plainFor_of_name (by first | (simp [plainName, overriddenIn]; done) | decide +kernel) | decide +kernel
theorem pn23 : plainFor (⟨"java/lang/AbstractStringBuilder", "append", "(Ljava/lang/String;)Ljava/lang/AbstractStringBuilder;"⟩ : MethodName) = true := by first | exact plainFor_of_name (by first | (simp [plainName, overriddenIn]; done) | decide +kernel) | decide +kernel
theorem pn24 : plainFor (⟨"java/lang/StringBuilder", "append", "(Ljava/lang/String;)Ljava/lang/StringBuilder;"⟩ : MethodName) = true := by first | exact plainFor_of_name (by first | (simp [plainName, overriddenIn]; done) | decide +kernel) | decide +kernel
theorem pn25 : plainFor (⟨"java/lang/AbstractStringBuilder", "isLatin1", "()Z"⟩ : MethodName) = true := by first | exact plainFor_of_name (by first | (simp [plainName, overriddenIn]; done) | decide +kernel) | decide +kernel
theorem pn26 : plainFor (⟨"java/util/Arrays", "checkLength", "(II)V"⟩ : MethodName) = true := by first | exact plainFor_of_name (by first | (simp [plainName, overriddenIn]; done) | decide +kernel) | decide +kernel
theorem pn27 : plainFor (⟨"java/util/Arrays", "copyOfRangeByte", "([BII)[B"⟩ : MethodName) = true := by first | exact plainFor_of_name (by first | (simp [plainName, overriddenIn]; done) | decide +kernel) | decide +kernel
theorem pn28 : plainFor (⟨"java/util/Arrays", "copyOfRange", "([BII)[B"⟩ : MethodName) = true := by first | exact plainFor_of_name (by first | (simp [plainName, overriddenIn]; done) | decide +kernel) | decide +kernel
theorem pn29 : plainFor (⟨"java/lang/AbstractStringBuilder", "getValue", "()[B"⟩ : MethodName) = true := by first | exact plainFor_of_name (by first | (simp [plainName, overriddenIn]; done) | decide +kernel) | decide +kernel
theorem pn30 : plainFor (⟨"java/lang/AbstractStringBuilder", "length", "()I"⟩ : MethodName) = true := by first | exact plainFor_of_name (by first | (simp [plainName, overriddenIn]; done) | decide +kernel) | decide +kernel
theorem pn31 : plainFor (⟨"java/lang/StringBuilder", "length", "()I"⟩ : MethodName) = true := by first | exact plainFor_of_name (by first | (simp [plainName, overriddenIn]; done) | decide +kernel) | decide +kernel
theorem pn32 : plainFor (⟨"java/lang/String", "<init>", "(Ljava/lang/AbstractStringBuilder;Ljava/lang/Void;)V"⟩ : MethodName) = true := by first | exact plainFor_of_name (by first | (simp [plainName, overriddenIn]; done) | decide +kernel) | decide +kernel
theorem pn33 : plainFor (⟨"java/lang/String", "<init>", "(Ljava/lang/StringBuilder;)V"⟩ : MethodName) = true := by first | exact plainFor_of_name (by first | (simp [plainName, overriddenIn]; done) | decide +kernel) | decide +kernel
theorem pn34 : plainFor (⟨"java/lang/StringBuilder", "toString", "()Ljava/lang/String;"⟩ : MethodName) = true := by first | exact plainFor_of_name (by first | (simp [plainName, overriddenIn]; done) | decide +kernel) | decide +kernel
theorem pn35 : plainFor (⟨"java/util/AbstractCollection", "<init>", "()V"⟩ : MethodName) = true := by first | exact plainFor_of_name (by first | (simp [plainName, overriddenIn]; done) | decide +kernel) | decide +kernel
theorem pn36 : plainFor (⟨"java/util/AbstractList", "<init>", "()V"⟩ : MethodName) = true := by first | exact plainFor_of_name (by first | (simp [plainName, overriddenIn]; done) | decide +kernel) | decide +kernel
theorem pn37 : plainFor (⟨"java/util/ArrayList", "<init>", "()V"⟩ : MethodName) = true := by first | exact plainFor_of_name (by first | (simp [plainName, overriddenIn]; done) | decide +kernel) | decide +kernel
theorem pn38 : plainFor (⟨"java/util/ArrayList", "grow", "(I)[Ljava/lang/Object;"⟩ : MethodName) = true := by first | exact plainFor_of_name (by first | (simp [plainName, overriddenIn]; done) | decide +kernel) | decide +kernel
theorem pn39 : plainFor (⟨"java/util/ArrayList", "grow", "()[Ljava/lang/Object;"⟩ : MethodName) = true := by first | exact plainFor_of_name (by first | (simp [plainName, overriddenIn]; done) | decide +kernel) | decide +kernel
theorem pn40 : plainFor (⟨"java/util/ArrayList", "add", "(Ljava/lang/Object;[Ljava/lang/Object;I)V"⟩ : MethodName) = true := by first | exact plainFor_of_name (by first | (simp [plainName, overriddenIn]; done) | decide +kernel) | decide +kernel
theorem pn41 : plainFor (⟨"java/util/ArrayList", "add", "(Ljava/lang/Object;)Z"⟩ : MethodName) = true := by first | exact plainFor_of_name (by first | (simp [plainName, overriddenIn]; done) | decide +kernel) | decide +kernel
theorem pn42 : plainFor (⟨"java/util/ArrayList$Itr", "<init>", "(Ljava/util/ArrayList;)V"⟩ : MethodName) = true := by first | exact plainFor_of_name (by first | (simp [plainName, overriddenIn]; done) | decide +kernel) | decide +kernel
theorem pn43 : plainFor (⟨"java/util/ArrayList", "iterator", "()Ljava/util/Iterator;"⟩ : MethodName) = true := by first | exact plainFor_of_name (by first | (simp [plainName, overriddenIn]; done) | decide +kernel) | decide +kernel
theorem pn44 : plainFor (⟨"java/util/ArrayList$Itr", "hasNext", "()Z"⟩ : MethodName) = true := by first | exact plainFor_of_name (by first | (simp [plainName, overriddenIn]; done) | decide +kernel) | decide +kernel
theorem pn45 : plainFor (⟨"java/util/ArrayList$Itr", "checkForComodification", "()V"⟩ : MethodName) = true := by first | exact plainFor_of_name (by first | (simp [plainName, overriddenIn]; done) | decide +kernel) | decide +kernel
theorem pn46 : plainFor (⟨"java/util/ArrayList$Itr", "next", "()Ljava/lang/Object;"⟩ : MethodName) = true := by first | exact plainFor_of_name (by first | (simp [plainName, overriddenIn]; done) | decide +kernel) | decide +kernel
theorem pn47 : plainFor (⟨"java/util/ArrayList", "size", "()I"⟩ : MethodName) = true := by first | exact plainFor_of_name (by first | (simp [plainName, overriddenIn]; done) | decide +kernel) | decide +kernel
theorem pn48 : plainFor (⟨"java/util/Objects", "checkIndex", "(II)I"⟩ : MethodName) = true := by first | exact plainFor_of_name (by first | (simp [plainName, overriddenIn]; done) | decide +kernel) | decide +kernel
theorem pn49 : plainFor (⟨"java/util/ArrayList", "elementData", "(I)Ljava/lang/Object;"⟩ : MethodName) = true := by first | exact plainFor_of_name (by first | (simp [plainName, overriddenIn]; done) | decide +kernel) | decide +kernel
theorem pn50 : plainFor (⟨"java/util/ArrayList", "get", "(I)Ljava/lang/Object;"⟩ : MethodName) = true := by first | exact plainFor_of_name (by first | (simp [plainName, overriddenIn]; done) | decide +kernel) | decide +kernel
theorem pn51 : plainFor (⟨"java/lang/StringLatin1", "equals", "([B[B)Z"⟩ : MethodName) = true := by first | exact plainFor_of_name (by first | (simp [plainName, overriddenIn]; done) | decide +kernel) | decide +kernel
theorem pn52 : plainFor (⟨"java/lang/String", "equals", "(Ljava/lang/Object;)Z"⟩ : MethodName) = true := by first | exact plainFor_of_name (by first | (simp [plainName, overriddenIn]; done) | decide +kernel) | decide +kernel
theorem pn53 : plainFor (⟨"com/example/tiebreak/tiebreak/core/DuplicateRegistration", "<init>", "(Ljava/lang/String;Ljava/lang/String;Ljava/lang/String;)V"⟩ : MethodName) = true := by first | exact plainFor_of_name (by first | (simp [plainName, overriddenIn]; done) | decide +kernel) | decide +kernel
theorem pn54 : plainFor (⟨"com/example/tiebreak/tiebreak/core/DuplicateRegistration", "filterClass", "()Ljava/lang/String;"⟩ : MethodName) = true := by first | exact plainFor_of_name (by first | (simp [plainName, overriddenIn]; done) | decide +kernel) | decide +kernel
theorem pn55 : plainFor (⟨"com/example/tiebreak/tiebreak/core/DuplicateRegistration", "kept", "()Ljava/lang/String;"⟩ : MethodName) = true := by first | exact plainFor_of_name (by first | (simp [plainName, overriddenIn]; done) | decide +kernel) | decide +kernel
theorem pn56 : plainFor (⟨"com/example/tiebreak/tiebreak/core/DuplicateRegistration", "dropped", "()Ljava/lang/String;"⟩ : MethodName) = true := by first | exact plainFor_of_name (by first | (simp [plainName, overriddenIn]; done) | decide +kernel) | decide +kernel
theorem pn57 : plainFor (⟨"com/example/tiebreak/tiebreak/core/ChainReport", "prefix", "(Ljava/lang/String;)Ljava/lang/String;"⟩ : MethodName) = true := by first | exact plainFor_of_name (by first | (simp [plainName, overriddenIn]; done) | decide +kernel) | decide +kernel
theorem pn58 : plainFor (⟨"com/example/tiebreak/tiebreak/core/ChainReport", "duplicateLines", "(Ljava/lang/String;Ljava/util/List;)Ljava/util/List;"⟩ : MethodName) = true := by first | exact plainFor_of_name (by first | (simp [plainName, overriddenIn]; done) | decide +kernel) | decide +kernel
theorem pn59 : plainFor (⟨"com/example/tiebreak/tiebreak/core/ChainReportDuplicateLinesPinLaw", "expected", "(CCCC)Ljava/lang/String;"⟩ : MethodName) = true := by first | exact plainFor_of_name (by first | (simp [plainName, overriddenIn]; done) | decide +kernel) | decide +kernel
theorem pn60 : plainFor (⟨"com/example/tiebreak/tiebreak/core/ChainReportDuplicateLinesPinLaw", "law", "(IIII)Z"⟩ : MethodName) = true := by first | exact plainFor_of_name (by first | (simp [plainName, overriddenIn]; done) | decide +kernel) | decide +kernel
theorem d_jdk_52_method_21_3 : decode jdk_52_method_21_code 3 = .ok (.iload 5, 2) := by decide +kernel
theorem d_jdk_52_method_21_5 : decode jdk_52_method_21_code 5 = .ok (.iload 4, 2) := by decide +kernel
theorem d_jdk_52_method_21_7 : decode jdk_52_method_21_code 7 = .ok (.if_icmp .ge 37, 3) := by decide +kernel
theorem d_jdk_52_method_21_44 : decode jdk_52_method_21_code 44 = .ok (.iload 4, 2) := by decide +kernel
theorem d_jdk_52_method_21_46 : decode jdk_52_method_21_code 46 = .ok (.ireturn, 1) := by decide +kernel
theorem d_jdk_52_method_21_10 : decode jdk_52_method_21_code 10 = .ok (.aload_n 0, 1) := by decide +kernel
theorem d_jdk_52_method_21_11 : decode jdk_52_method_21_code 11 = .ok (.iload_n 1, 1) := by decide +kernel
theorem d_jdk_52_method_21_12 : decode jdk_52_method_21_code 12 = .ok (.caload, 1) := by decide +kernel
theorem d_jdk_52_method_21_13 : decode jdk_52_method_21_code 13 = .ok (.istore 6, 2) := by decide +kernel
theorem d_jdk_52_method_21_15 : decode jdk_52_method_21_code 15 = .ok (.iload 6, 2) := by decide +kernel
theorem d_jdk_52_method_21_17 : decode jdk_52_method_21_code 17 = .ok (.sipush 255, 3) := by decide +kernel
theorem d_jdk_52_method_21_20 : decode jdk_52_method_21_code 20 = .ok (.if_icmp .le 6, 3) := by decide +kernel
theorem d_jdk_52_method_21_23 : decode jdk_52_method_21_code 23 = .ok (.iload 5, 2) := by decide +kernel
theorem d_jdk_52_method_21_25 : decode jdk_52_method_21_code 25 = .ok (.ireturn, 1) := by decide +kernel
theorem d_jdk_52_method_21_26 : decode jdk_52_method_21_code 26 = .ok (.aload_n 2, 1) := by decide +kernel
theorem d_jdk_52_method_21_27 : decode jdk_52_method_21_code 27 = .ok (.iload_n 3, 1) := by decide +kernel
theorem d_jdk_52_method_21_28 : decode jdk_52_method_21_code 28 = .ok (.iload 6, 2) := by decide +kernel
theorem d_jdk_52_method_21_30 : decode jdk_52_method_21_code 30 = .ok (.i2b, 1) := by decide +kernel
theorem d_jdk_52_method_21_31 : decode jdk_52_method_21_code 31 = .ok (.bastore, 1) := by decide +kernel
theorem d_jdk_52_method_21_32 : decode jdk_52_method_21_code 32 = .ok (.iinc 1 1, 3) := by decide +kernel
theorem d_jdk_52_method_21_35 : decode jdk_52_method_21_code 35 = .ok (.iinc 3 1, 3) := by decide +kernel
theorem d_jdk_52_method_21_38 : decode jdk_52_method_21_code 38 = .ok (.iinc 5 1, 3) := by decide +kernel
theorem d_jdk_52_method_21_41 : decode jdk_52_method_21_code 41 = .ok (.goto (-38), 3) := by decide +kernel
theorem d_jdk_52_method_21_0 : decode jdk_52_method_21_code 0 = .ok (.iconst 0, 1) := by decide +kernel
theorem d_jdk_52_method_21_1 : decode jdk_52_method_21_code 1 = .ok (.istore 5, 2) := by decide +kernel
theorem d_jdk_52_method_16_0 : decode jdk_52_method_16_code 0 = .ok (.iload_n 2, 1) := by decide +kernel
theorem d_jdk_52_method_16_1 : decode jdk_52_method_16_code 1 = .ok (.newarray .byte, 2) := by decide +kernel
theorem d_jdk_52_method_16_3 : decode jdk_52_method_16_code 3 = .ok (.astore_n 3, 1) := by decide +kernel
theorem d_jdk_52_method_16_4 : decode jdk_52_method_16_code 4 = .ok (.aload_n 0, 1) := by decide +kernel
theorem d_jdk_52_method_16_5 : decode jdk_52_method_16_code 5 = .ok (.iload_n 1, 1) := by decide +kernel
theorem d_jdk_52_method_16_6 : decode jdk_52_method_16_code 6 = .ok (.aload_n 3, 1) := by decide +kernel
theorem d_jdk_52_method_16_7 : decode jdk_52_method_16_code 7 = .ok (.iconst 0, 1) := by decide +kernel
theorem d_jdk_52_method_16_8 : decode jdk_52_method_16_code 8 = .ok (.iload_n 2, 1) := by decide +kernel
theorem d_jdk_52_method_16_9 : decode jdk_52_method_16_code 9 = .ok (.invokestatic 115, 3) := by decide +kernel
theorem d_jdk_52_method_16_12 : decode jdk_52_method_16_code 12 = .ok (.istore 4, 2) := by decide +kernel
theorem d_jdk_52_method_16_14 : decode jdk_52_method_16_code 14 = .ok (.iload 4, 2) := by decide +kernel
theorem d_jdk_52_method_16_16 : decode jdk_52_method_16_code 16 = .ok (.iload_n 2, 1) := by decide +kernel
theorem d_jdk_52_method_16_17 : decode jdk_52_method_16_code 17 = .ok (.if_icmp .eq 40, 3) := by decide +kernel
theorem d_jdk_52_method_16_57 : decode jdk_52_method_16_code 57 = .ok (.aload_n 3, 1) := by decide +kernel
theorem d_jdk_52_method_16_58 : decode jdk_52_method_16_code 58 = .ok (.areturn, 1) := by decide +kernel
theorem d_jdk_52_method_15_0 : decode jdk_52_method_15_code 0 = .ok (.iload_n 1, 1) := by decide +kernel
theorem d_jdk_52_method_15_1 : decode jdk_52_method_15_code 1 = .ok (.aload_n 0, 1) := by decide +kernel
theorem d_jdk_52_method_15_2 : decode jdk_52_method_15_code 2 = .ok (.arraylength, 1) := by decide +kernel
theorem d_jdk_52_method_15_3 : decode jdk_52_method_15_code 3 = .ok (.isub, 1) := by decide +kernel
theorem d_jdk_52_method_15_4 : decode jdk_52_method_15_code 4 = .ok (.bipush 31, 2) := by decide +kernel
theorem d_jdk_52_method_15_6 : decode jdk_52_method_15_code 6 = .ok (.iushr, 1) := by decide +kernel
theorem d_jdk_52_method_15_7 : decode jdk_52_method_15_code 7 = .ok (.i2b, 1) := by decide +kernel
theorem d_jdk_52_method_15_8 : decode jdk_52_method_15_code 8 = .ok (.ireturn, 1) := by decide +kernel
theorem d_jdk_42_method_149_0 : decode jdk_42_method_149_code 0 = .ok (.aload_n 0, 1) := by decide +kernel
theorem d_jdk_42_method_149_1 : decode jdk_42_method_149_code 1 = .ok (.invokespecial 1, 3) := by decide +kernel
theorem d_jdk_42_method_149_4 : decode jdk_42_method_149_code 4 = .ok (.iload_n 3, 1) := by decide +kernel
theorem d_jdk_42_method_149_5 : decode jdk_42_method_149_code 5 = .ok (.ifCond .ne 22, 3) := by decide +kernel
theorem d_jdk_42_method_149_27 : decode jdk_42_method_149_code 27 = .ok (.getstatic 38, 3) := by decide +kernel
theorem d_jdk_42_method_149_30 : decode jdk_42_method_149_code 30 = .ok (.ifCond .eq 28, 3) := by decide +kernel
theorem d_jdk_42_method_149_33 : decode jdk_42_method_149_code 33 = .ok (.aload_n 1, 1) := by decide +kernel
theorem d_jdk_42_method_149_34 : decode jdk_42_method_149_code 34 = .ok (.iload_n 2, 1) := by decide +kernel
theorem d_jdk_42_method_149_35 : decode jdk_42_method_149_code 35 = .ok (.iload_n 3, 1) := by decide +kernel
theorem d_jdk_42_method_149_36 : decode jdk_42_method_149_code 36 = .ok (.invokestatic 177, 3) := by decide +kernel
theorem d_jdk_42_method_149_39 : decode jdk_42_method_149_code 39 = .ok (.astore 5, 2) := by decide +kernel
theorem d_jdk_42_method_149_41 : decode jdk_42_method_149_code 41 = .ok (.aload_n 0, 1) := by decide +kernel
theorem d_jdk_42_method_149_42 : decode jdk_42_method_149_code 42 = .ok (.aload 5, 2) := by decide +kernel
theorem d_jdk_42_method_149_44 : decode jdk_42_method_149_code 44 = .ok (.iload_n 3, 1) := by decide +kernel
theorem d_jdk_42_method_149_45 : decode jdk_42_method_149_code 45 = .ok (.invokestatic 47, 3) := by decide +kernel
theorem d_jdk_42_method_149_48 : decode jdk_42_method_149_code 48 = .ok (.putfield 15, 3) := by decide +kernel
theorem d_jdk_42_method_149_51 : decode jdk_42_method_149_code 51 = .ok (.aload_n 0, 1) := by decide +kernel
theorem d_jdk_42_method_149_52 : decode jdk_42_method_149_code 52 = .ok (.aload 5, 2) := by decide +kernel
theorem d_jdk_42_method_149_54 : decode jdk_42_method_149_code 54 = .ok (.putfield 9, 3) := by decide +kernel
theorem d_jdk_42_method_149_57 : decode jdk_42_method_149_code 57 = .ok (.return_, 1) := by decide +kernel
theorem d_jdk_42_method_3_0 : decode jdk_42_method_3_code 0 = .ok (.aload_n 0, 1) := by decide +kernel
theorem d_jdk_42_method_3_1 : decode jdk_42_method_3_code 1 = .ok (.aload_n 1, 1) := by decide +kernel
theorem d_jdk_42_method_3_2 : decode jdk_42_method_3_code 2 = .ok (.iconst 0, 1) := by decide +kernel
theorem d_jdk_42_method_3_3 : decode jdk_42_method_3_code 3 = .ok (.aload_n 1, 1) := by decide +kernel
theorem d_jdk_42_method_3_4 : decode jdk_42_method_3_code 4 = .ok (.arraylength, 1) := by decide +kernel
theorem d_jdk_42_method_3_5 : decode jdk_42_method_3_code 5 = .ok (.aconst_null, 1) := by decide +kernel
theorem d_jdk_42_method_3_6 : decode jdk_42_method_3_code 6 = .ok (.invokespecial 27, 3) := by decide +kernel
theorem d_jdk_42_method_3_9 : decode jdk_42_method_3_code 9 = .ok (.return_, 1) := by decide +kernel
theorem d_jdk_42_method_152_0 : decode jdk_42_method_152_code 0 = .ok (.getstatic 38, 3) := by decide +kernel
theorem d_jdk_42_method_152_3 : decode jdk_42_method_152_code 3 = .ok (.ifCond .eq 10, 3) := by decide +kernel
theorem d_jdk_42_method_152_6 : decode jdk_42_method_152_code 6 = .ok (.aload_n 0, 1) := by decide +kernel
theorem d_jdk_42_method_152_7 : decode jdk_42_method_152_code 7 = .ok (.getfield 15, 3) := by decide +kernel
theorem d_jdk_42_method_152_10 : decode jdk_42_method_152_code 10 = .ok (.goto 4, 3) := by decide +kernel
theorem d_jdk_42_method_152_14 : decode jdk_42_method_152_code 14 = .ok (.ireturn, 1) := by decide +kernel
theorem d_jdk_42_method_54_0 : decode jdk_42_method_54_code 0 = .ok (.aload_n 0, 1) := by decide +kernel
theorem d_jdk_42_method_54_1 : decode jdk_42_method_54_code 1 = .ok (.getfield 9, 3) := by decide +kernel
theorem d_jdk_42_method_54_4 : decode jdk_42_method_54_code 4 = .ok (.arraylength, 1) := by decide +kernel
theorem d_jdk_42_method_54_5 : decode jdk_42_method_54_code 5 = .ok (.aload_n 0, 1) := by decide +kernel
theorem d_jdk_42_method_54_6 : decode jdk_42_method_54_code 6 = .ok (.invokevirtual 335, 3) := by decide +kernel
theorem d_jdk_42_method_54_9 : decode jdk_42_method_54_code 9 = .ok (.ishr, 1) := by decide +kernel
theorem d_jdk_42_method_54_10 : decode jdk_42_method_54_code 10 = .ok (.ireturn, 1) := by decide +kernel
theorem d_jdk_29_method_69_0 : decode jdk_29_method_69_code 0 = .ok (.iload_n 0, 1) := by decide +kernel
theorem d_jdk_29_method_69_1 : decode jdk_29_method_69_code 1 = .ok (.iload_n 1, 1) := by decide +kernel
theorem d_jdk_29_method_69_2 : decode jdk_29_method_69_code 2 = .ok (.if_icmp .gt 7, 3) := by decide +kernel
theorem d_jdk_29_method_69_9 : decode jdk_29_method_69_code 9 = .ok (.iload_n 1, 1) := by decide +kernel
theorem d_jdk_29_method_69_10 : decode jdk_29_method_69_code 10 = .ok (.ireturn, 1) := by decide +kernel
theorem d_jdk_29_method_69_5 : decode jdk_29_method_69_code 5 = .ok (.iload_n 0, 1) := by decide +kernel
theorem d_jdk_29_method_69_6 : decode jdk_29_method_69_code 6 = .ok (.goto 4, 3) := by decide +kernel
theorem d_jdk_29_method_65_0 : decode jdk_29_method_65_code 0 = .ok (.iload_n 0, 1) := by decide +kernel
theorem d_jdk_29_method_65_1 : decode jdk_29_method_65_code 1 = .ok (.iload_n 1, 1) := by decide +kernel
theorem d_jdk_29_method_65_2 : decode jdk_29_method_65_code 2 = .ok (.if_icmp .lt 7, 3) := by decide +kernel
theorem d_jdk_29_method_65_9 : decode jdk_29_method_65_code 9 = .ok (.iload_n 1, 1) := by decide +kernel
theorem d_jdk_29_method_65_10 : decode jdk_29_method_65_code 10 = .ok (.ireturn, 1) := by decide +kernel
theorem d_jdk_29_method_65_5 : decode jdk_29_method_65_code 5 = .ok (.iload_n 0, 1) := by decide +kernel
theorem d_jdk_29_method_65_6 : decode jdk_29_method_65_code 6 = .ok (.goto 4, 3) := by decide +kernel
theorem d_jdk_43_method_3_0 : decode jdk_43_method_3_code 0 = .ok (.iload_n 0, 1) := by decide +kernel
theorem d_jdk_43_method_3_1 : decode jdk_43_method_3_code 1 = .ok (.sipush 255, 3) := by decide +kernel
theorem d_jdk_43_method_3_4 : decode jdk_43_method_3_code 4 = .ok (.if_icmp .gt 7, 3) := by decide +kernel
theorem d_jdk_43_method_3_7 : decode jdk_43_method_3_code 7 = .ok (.iconst 1, 1) := by decide +kernel
theorem d_jdk_43_method_3_8 : decode jdk_43_method_3_code 8 = .ok (.goto 4, 3) := by decide +kernel
theorem d_jdk_43_method_3_12 : decode jdk_43_method_3_code 12 = .ok (.ireturn, 1) := by decide +kernel
theorem d_jdk_43_method_46_0 : decode jdk_43_method_46_code 0 = .ok (.iconst 1, 1) := by decide +kernel
theorem d_jdk_43_method_46_1 : decode jdk_43_method_46_code 1 = .ok (.newarray .byte, 2) := by decide +kernel
theorem d_jdk_43_method_46_3 : decode jdk_43_method_46_code 3 = .ok (.dup, 1) := by decide +kernel
theorem d_jdk_43_method_46_4 : decode jdk_43_method_46_code 4 = .ok (.iconst 0, 1) := by decide +kernel
theorem d_jdk_43_method_46_5 : decode jdk_43_method_46_code 5 = .ok (.iload_n 0, 1) := by decide +kernel
theorem d_jdk_43_method_46_6 : decode jdk_43_method_46_code 6 = .ok (.i2b, 1) := by decide +kernel
theorem d_jdk_43_method_46_7 : decode jdk_43_method_46_code 7 = .ok (.bastore, 1) := by decide +kernel
theorem d_jdk_43_method_46_8 : decode jdk_43_method_46_code 8 = .ok (.areturn, 1) := by decide +kernel
theorem d_jdk_42_method_151_0 : decode jdk_42_method_151_code 0 = .ok (.aload_n 0, 1) := by decide +kernel
theorem d_jdk_42_method_151_1 : decode jdk_42_method_151_code 1 = .ok (.invokespecial 1, 3) := by decide +kernel
theorem d_jdk_42_method_151_4 : decode jdk_42_method_151_code 4 = .ok (.aload_n 0, 1) := by decide +kernel
theorem d_jdk_42_method_151_5 : decode jdk_42_method_151_code 5 = .ok (.aload_n 1, 1) := by decide +kernel
theorem d_jdk_42_method_151_6 : decode jdk_42_method_151_code 6 = .ok (.putfield 9, 3) := by decide +kernel
theorem d_jdk_42_method_151_9 : decode jdk_42_method_151_code 9 = .ok (.aload_n 0, 1) := by decide +kernel
theorem d_jdk_42_method_151_10 : decode jdk_42_method_151_code 10 = .ok (.iload_n 2, 1) := by decide +kernel
theorem d_jdk_42_method_151_11 : decode jdk_42_method_151_code 11 = .ok (.putfield 15, 3) := by decide +kernel
theorem d_jdk_42_method_151_14 : decode jdk_42_method_151_code 14 = .ok (.return_, 1) := by decide +kernel
theorem d_jdk_42_method_139_0 : decode jdk_42_method_139_code 0 = .ok (.getstatic 38, 3) := by decide +kernel
theorem d_jdk_42_method_139_3 : decode jdk_42_method_139_code 3 = .ok (.ifCond .eq 23, 3) := by decide +kernel
theorem d_jdk_42_method_139_6 : decode jdk_42_method_139_code 6 = .ok (.iload_n 0, 1) := by decide +kernel
theorem d_jdk_42_method_139_7 : decode jdk_42_method_139_code 7 = .ok (.invokestatic 1015, 3) := by decide +kernel
theorem d_jdk_42_method_139_10 : decode jdk_42_method_139_code 10 = .ok (.ifCond .eq 16, 3) := by decide +kernel
theorem d_jdk_42_method_139_13 : decode jdk_42_method_139_code 13 = .ok (.new 10, 3) := by decide +kernel
theorem d_jdk_42_method_139_16 : decode jdk_42_method_139_code 16 = .ok (.dup, 1) := by decide +kernel
theorem d_jdk_42_method_139_17 : decode jdk_42_method_139_code 17 = .ok (.iload_n 0, 1) := by decide +kernel
theorem d_jdk_42_method_139_18 : decode jdk_42_method_139_code 18 = .ok (.invokestatic 1018, 3) := by decide +kernel
theorem d_jdk_42_method_139_21 : decode jdk_42_method_139_code 21 = .ok (.iconst 0, 1) := by decide +kernel
theorem d_jdk_42_method_139_22 : decode jdk_42_method_139_code 22 = .ok (.invokespecial 209, 3) := by decide +kernel
theorem d_jdk_42_method_139_25 : decode jdk_42_method_139_code 25 = .ok (.areturn, 1) := by decide +kernel
theorem d_jdk_41_method_11_0 : decode jdk_41_method_11_code 0 = .ok (.iload_n 0, 1) := by decide +kernel
theorem d_jdk_41_method_11_1 : decode jdk_41_method_11_code 1 = .ok (.ifCond .lt 8, 3) := by decide +kernel
theorem d_jdk_41_method_11_4 : decode jdk_41_method_11_code 4 = .ok (.iload_n 0, 1) := by decide +kernel
theorem d_jdk_41_method_11_5 : decode jdk_41_method_11_code 5 = .ok (.iload_n 1, 1) := by decide +kernel
theorem d_jdk_41_method_11_6 : decode jdk_41_method_11_code 6 = .ok (.if_icmp .lt 10, 3) := by decide +kernel
theorem d_jdk_41_method_11_16 : decode jdk_41_method_11_code 16 = .ok (.iload_n 0, 1) := by decide +kernel
theorem d_jdk_41_method_11_17 : decode jdk_41_method_11_code 17 = .ok (.ireturn, 1) := by decide +kernel
theorem d_jdk_68_method_2_0 : decode jdk_68_method_2_code 0 = .ok (.aload_n 0, 1) := by decide +kernel
theorem d_jdk_68_method_2_1 : decode jdk_68_method_2_code 1 = .ok (.invokespecial 3, 3) := by decide +kernel
theorem d_jdk_68_method_2_4 : decode jdk_68_method_2_code 4 = .ok (.getstatic 18, 3) := by decide +kernel
theorem d_jdk_68_method_2_7 : decode jdk_68_method_2_code 7 = .ok (.ifCond .eq 18, 3) := by decide +kernel
theorem d_jdk_68_method_2_10 : decode jdk_68_method_2_code 10 = .ok (.aload_n 0, 1) := by decide +kernel
theorem d_jdk_68_method_2_11 : decode jdk_68_method_2_code 11 = .ok (.iload_n 1, 1) := by decide +kernel
theorem d_jdk_68_method_2_12 : decode jdk_68_method_2_code 12 = .ok (.newarray .byte, 2) := by decide +kernel
theorem d_jdk_68_method_2_14 : decode jdk_68_method_2_code 14 = .ok (.putfield 15, 3) := by decide +kernel
theorem d_jdk_68_method_2_17 : decode jdk_68_method_2_code 17 = .ok (.aload_n 0, 1) := by decide +kernel
theorem d_jdk_68_method_2_18 : decode jdk_68_method_2_code 18 = .ok (.iconst 0, 1) := by decide +kernel
theorem d_jdk_68_method_2_19 : decode jdk_68_method_2_code 19 = .ok (.putfield 22, 3) := by decide +kernel
theorem d_jdk_68_method_2_22 : decode jdk_68_method_2_code 22 = .ok (.goto 16, 3) := by decide +kernel
theorem d_jdk_68_method_2_38 : decode jdk_68_method_2_code 38 = .ok (.return_, 1) := by decide +kernel
theorem d_jdk_48_method_27_0 : decode jdk_48_method_27_code 0 = .ok (.iload_n 0, 1) := by decide +kernel
theorem d_jdk_48_method_27_1 : decode jdk_48_method_27_code 1 = .ok (.iload_n 1, 1) := by decide +kernel
theorem d_jdk_48_method_27_2 : decode jdk_48_method_27_code 2 = .ok (.iload_n 2, 1) := by decide +kernel
theorem d_jdk_48_method_27_3 : decode jdk_48_method_27_code 3 = .ok (.invokestatic 194, 3) := by decide +kernel
theorem d_jdk_48_method_27_6 : decode jdk_48_method_27_code 6 = .ok (.iadd, 1) := by decide +kernel
theorem d_jdk_48_method_27_7 : decode jdk_48_method_27_code 7 = .ok (.istore_n 3, 1) := by decide +kernel
theorem d_jdk_48_method_27_8 : decode jdk_48_method_27_code 8 = .ok (.iconst 0, 1) := by decide +kernel
theorem d_jdk_48_method_27_9 : decode jdk_48_method_27_code 9 = .ok (.iload_n 3, 1) := by decide +kernel
theorem d_jdk_48_method_27_10 : decode jdk_48_method_27_code 10 = .ok (.if_icmp .ge 11, 3) := by decide +kernel
theorem d_jdk_48_method_27_13 : decode jdk_48_method_27_code 13 = .ok (.iload_n 3, 1) := by decide +kernel
theorem d_jdk_48_method_27_14 : decode jdk_48_method_27_code 14 = .ok (.ldc 200, 2) := by decide +kernel
theorem d_jdk_48_method_27_16 : decode jdk_48_method_27_code 16 = .ok (.if_icmp .gt 5, 3) := by decide +kernel
theorem d_jdk_48_method_27_19 : decode jdk_48_method_27_code 19 = .ok (.iload_n 3, 1) := by decide +kernel
theorem d_jdk_48_method_27_20 : decode jdk_48_method_27_code 20 = .ok (.ireturn, 1) := by decide +kernel
theorem d_jdk_68_method_10_0 : decode jdk_68_method_10_code 0 = .ok (.aload_n 0, 1) := by decide +kernel
theorem d_jdk_68_method_10_1 : decode jdk_68_method_10_code 1 = .ok (.getfield 15, 3) := by decide +kernel
theorem d_jdk_68_method_10_4 : decode jdk_68_method_10_code 4 = .ok (.arraylength, 1) := by decide +kernel
theorem d_jdk_68_method_10_5 : decode jdk_68_method_10_code 5 = .ok (.istore_n 2, 1) := by decide +kernel
theorem d_jdk_68_method_10_6 : decode jdk_68_method_10_code 6 = .ok (.iload_n 1, 1) := by decide +kernel
theorem d_jdk_68_method_10_7 : decode jdk_68_method_10_code 7 = .ok (.aload_n 0, 1) := by decide +kernel
theorem d_jdk_68_method_10_8 : decode jdk_68_method_10_code 8 = .ok (.getfield 22, 3) := by decide +kernel
theorem d_jdk_68_method_10_11 : decode jdk_68_method_10_code 11 = .ok (.ishl, 1) := by decide +kernel
theorem d_jdk_68_method_10_12 : decode jdk_68_method_10_code 12 = .ok (.istore_n 3, 1) := by decide +kernel
theorem d_jdk_68_method_10_13 : decode jdk_68_method_10_code 13 = .ok (.iload_n 3, 1) := by decide +kernel
theorem d_jdk_68_method_10_14 : decode jdk_68_method_10_code 14 = .ok (.iload_n 2, 1) := by decide +kernel
theorem d_jdk_68_method_10_15 : decode jdk_68_method_10_code 15 = .ok (.isub, 1) := by decide +kernel
theorem d_jdk_68_method_10_16 : decode jdk_68_method_10_code 16 = .ok (.istore 4, 2) := by decide +kernel
theorem d_jdk_68_method_10_18 : decode jdk_68_method_10_code 18 = .ok (.iload_n 2, 1) := by decide +kernel
theorem d_jdk_68_method_10_19 : decode jdk_68_method_10_code 19 = .ok (.iload 4, 2) := by decide +kernel
theorem d_jdk_68_method_10_21 : decode jdk_68_method_10_code 21 = .ok (.iload_n 2, 1) := by decide +kernel
theorem d_jdk_68_method_10_22 : decode jdk_68_method_10_code 22 = .ok (.iconst 2, 1) := by decide +kernel
theorem d_jdk_68_method_10_23 : decode jdk_68_method_10_code 23 = .ok (.aload_n 0, 1) := by decide +kernel
theorem d_jdk_68_method_10_24 : decode jdk_68_method_10_code 24 = .ok (.getfield 22, 3) := by decide +kernel
theorem d_jdk_68_method_10_27 : decode jdk_68_method_10_code 27 = .ok (.ishl, 1) := by decide +kernel
theorem d_jdk_68_method_10_28 : decode jdk_68_method_10_code 28 = .ok (.iadd, 1) := by decide +kernel
theorem d_jdk_68_method_10_29 : decode jdk_68_method_10_code 29 = .ok (.invokestatic 114, 3) := by decide +kernel
theorem d_jdk_68_method_10_32 : decode jdk_68_method_10_code 32 = .ok (.istore 5, 2) := by decide +kernel
theorem d_jdk_68_method_10_34 : decode jdk_68_method_10_code 34 = .ok (.iload 5, 2) := by decide +kernel
theorem d_jdk_68_method_10_36 : decode jdk_68_method_10_code 36 = .ok (.ldc 39, 2) := by decide +kernel
theorem d_jdk_68_method_10_38 : decode jdk_68_method_10_code 38 = .ok (.if_icmp .ne 13, 3) := by decide +kernel
theorem d_jdk_68_method_10_51 : decode jdk_68_method_10_code 51 = .ok (.iload 5, 2) := by decide +kernel
theorem d_jdk_68_method_10_53 : decode jdk_68_method_10_code 53 = .ok (.aload_n 0, 1) := by decide +kernel
theorem d_jdk_68_method_10_54 : decode jdk_68_method_10_code 54 = .ok (.getfield 22, 3) := by decide +kernel
theorem d_jdk_68_method_10_57 : decode jdk_68_method_10_code 57 = .ok (.ishr, 1) := by decide +kernel
theorem d_jdk_68_method_10_58 : decode jdk_68_method_10_code 58 = .ok (.ireturn, 1) := by decide +kernel
theorem d_jdk_65_method_121_0 : decode jdk_65_method_121_code 0 = .ok (.iload_n 1, 1) := by decide +kernel
theorem d_jdk_65_method_121_1 : decode jdk_65_method_121_code 1 = .ok (.aload_n 0, 1) := by decide +kernel
theorem d_jdk_65_method_121_2 : decode jdk_65_method_121_code 2 = .ok (.arraylength, 1) := by decide +kernel
theorem d_jdk_65_method_121_3 : decode jdk_65_method_121_code 3 = .ok (.if_icmp .ne 11, 3) := by decide +kernel
theorem d_jdk_65_method_121_14 : decode jdk_65_method_121_code 14 = .ok (.iload_n 1, 1) := by decide +kernel
theorem d_jdk_65_method_121_15 : decode jdk_65_method_121_code 15 = .ok (.newarray .byte, 2) := by decide +kernel
theorem d_jdk_65_method_121_17 : decode jdk_65_method_121_code 17 = .ok (.astore_n 2, 1) := by decide +kernel
theorem d_jdk_65_method_121_18 : decode jdk_65_method_121_code 18 = .ok (.aload_n 0, 1) := by decide +kernel
theorem d_jdk_65_method_121_19 : decode jdk_65_method_121_code 19 = .ok (.iconst 0, 1) := by decide +kernel
theorem d_jdk_65_method_121_20 : decode jdk_65_method_121_code 20 = .ok (.aload_n 2, 1) := by decide +kernel
theorem d_jdk_65_method_121_21 : decode jdk_65_method_121_code 21 = .ok (.iconst 0, 1) := by decide +kernel
theorem d_jdk_65_method_121_22 : decode jdk_65_method_121_code 22 = .ok (.aload_n 0, 1) := by decide +kernel
theorem d_jdk_65_method_121_23 : decode jdk_65_method_121_code 23 = .ok (.arraylength, 1) := by decide +kernel
theorem d_jdk_65_method_121_24 : decode jdk_65_method_121_code 24 = .ok (.iload_n 1, 1) := by decide +kernel
theorem d_jdk_65_method_121_25 : decode jdk_65_method_121_code 25 = .ok (.invokestatic 304, 3) := by decide +kernel
theorem d_jdk_65_method_121_28 : decode jdk_65_method_121_code 28 = .ok (.invokestatic 150, 3) := by decide +kernel
theorem d_jdk_65_method_121_31 : decode jdk_65_method_121_code 31 = .ok (.aload_n 2, 1) := by decide +kernel
theorem d_jdk_65_method_121_32 : decode jdk_65_method_121_code 32 = .ok (.areturn, 1) := by decide +kernel
theorem d_jdk_68_method_9_0 : decode jdk_68_method_9_code 0 = .ok (.aload_n 0, 1) := by decide +kernel
theorem d_jdk_68_method_9_1 : decode jdk_68_method_9_code 1 = .ok (.getfield 15, 3) := by decide +kernel
theorem d_jdk_68_method_9_4 : decode jdk_68_method_9_code 4 = .ok (.arraylength, 1) := by decide +kernel
theorem d_jdk_68_method_9_5 : decode jdk_68_method_9_code 5 = .ok (.aload_n 0, 1) := by decide +kernel
theorem d_jdk_68_method_9_6 : decode jdk_68_method_9_code 6 = .ok (.getfield 22, 3) := by decide +kernel
theorem d_jdk_68_method_9_9 : decode jdk_68_method_9_code 9 = .ok (.ishr, 1) := by decide +kernel
theorem d_jdk_68_method_9_10 : decode jdk_68_method_9_code 10 = .ok (.istore_n 2, 1) := by decide +kernel
theorem d_jdk_68_method_9_11 : decode jdk_68_method_9_code 11 = .ok (.iload_n 1, 1) := by decide +kernel
theorem d_jdk_68_method_9_12 : decode jdk_68_method_9_code 12 = .ok (.iload_n 2, 1) := by decide +kernel
theorem d_jdk_68_method_9_13 : decode jdk_68_method_9_code 13 = .ok (.isub, 1) := by decide +kernel
theorem d_jdk_68_method_9_14 : decode jdk_68_method_9_code 14 = .ok (.ifCond .le 24, 3) := by decide +kernel
theorem d_jdk_68_method_9_38 : decode jdk_68_method_9_code 38 = .ok (.return_, 1) := by decide +kernel
theorem d_jdk_68_method_9_17 : decode jdk_68_method_9_code 17 = .ok (.aload_n 0, 1) := by decide +kernel
theorem d_jdk_68_method_9_18 : decode jdk_68_method_9_code 18 = .ok (.aload_n 0, 1) := by decide +kernel
theorem d_jdk_68_method_9_19 : decode jdk_68_method_9_code 19 = .ok (.getfield 15, 3) := by decide +kernel
theorem d_jdk_68_method_9_22 : decode jdk_68_method_9_code 22 = .ok (.aload_n 0, 1) := by decide +kernel
theorem d_jdk_68_method_9_23 : decode jdk_68_method_9_code 23 = .ok (.iload_n 1, 1) := by decide +kernel
theorem d_jdk_68_method_9_24 : decode jdk_68_method_9_code 24 = .ok (.invokevirtual 104, 3) := by decide +kernel
theorem d_jdk_68_method_9_27 : decode jdk_68_method_9_code 27 = .ok (.aload_n 0, 1) := by decide +kernel
theorem d_jdk_68_method_9_28 : decode jdk_68_method_9_code 28 = .ok (.getfield 22, 3) := by decide +kernel
theorem d_jdk_68_method_9_31 : decode jdk_68_method_9_code 31 = .ok (.ishl, 1) := by decide +kernel
theorem d_jdk_68_method_9_32 : decode jdk_68_method_9_code 32 = .ok (.invokestatic 108, 3) := by decide +kernel
theorem d_jdk_68_method_9_35 : decode jdk_68_method_9_code 35 = .ok (.putfield 15, 3) := by decide +kernel
theorem d_jdk_67_method_1_0 : decode jdk_67_method_1_code 0 = .ok (.aload_n 0, 1) := by decide +kernel
theorem d_jdk_67_method_1_1 : decode jdk_67_method_1_code 1 = .ok (.bipush 16, 2) := by decide +kernel
theorem d_jdk_67_method_1_3 : decode jdk_67_method_1_code 3 = .ok (.invokespecial 1, 3) := by decide +kernel
theorem d_jdk_67_method_1_6 : decode jdk_67_method_1_code 6 = .ok (.return_, 1) := by decide +kernel
theorem d_jdk_68_method_71_0 : decode jdk_68_method_71_code 0 = .ok (.getstatic 18, 3) := by decide +kernel
theorem d_jdk_68_method_71_3 : decode jdk_68_method_71_code 3 = .ok (.ifCond .eq 18, 3) := by decide +kernel
theorem d_jdk_68_method_71_6 : decode jdk_68_method_71_code 6 = .ok (.aload_n 0, 1) := by decide +kernel
theorem d_jdk_68_method_71_7 : decode jdk_68_method_71_code 7 = .ok (.getfield 22, 3) := by decide +kernel
theorem d_jdk_68_method_71_10 : decode jdk_68_method_71_code 10 = .ok (.aload_n 1, 1) := by decide +kernel
theorem d_jdk_68_method_71_11 : decode jdk_68_method_71_code 11 = .ok (.invokevirtual 40, 3) := by decide +kernel
theorem d_jdk_68_method_71_14 : decode jdk_68_method_71_code 14 = .ok (.if_icmp .eq 7, 3) := by decide +kernel
theorem d_jdk_68_method_71_21 : decode jdk_68_method_71_code 21 = .ok (.return_, 1) := by decide +kernel
theorem d_jdk_42_method_147_0 : decode jdk_42_method_147_code 0 = .ok (.aload_n 0, 1) := by decide +kernel
theorem d_jdk_42_method_147_1 : decode jdk_42_method_147_code 1 = .ok (.invokevirtual 335, 3) := by decide +kernel
theorem d_jdk_42_method_147_4 : decode jdk_42_method_147_code 4 = .ok (.iload_n 3, 1) := by decide +kernel
theorem d_jdk_42_method_147_5 : decode jdk_42_method_147_code 5 = .ok (.if_icmp .ne 23, 3) := by decide +kernel
theorem d_jdk_42_method_147_8 : decode jdk_42_method_147_code 8 = .ok (.aload_n 0, 1) := by decide +kernel
theorem d_jdk_42_method_147_9 : decode jdk_42_method_147_code 9 = .ok (.getfield 9, 3) := by decide +kernel
theorem d_jdk_42_method_147_12 : decode jdk_42_method_147_code 12 = .ok (.iconst 0, 1) := by decide +kernel
theorem d_jdk_42_method_147_13 : decode jdk_42_method_147_code 13 = .ok (.aload_n 1, 1) := by decide +kernel
theorem d_jdk_42_method_147_14 : decode jdk_42_method_147_code 14 = .ok (.iload_n 2, 1) := by decide +kernel
theorem d_jdk_42_method_147_15 : decode jdk_42_method_147_code 15 = .ok (.iload_n 3, 1) := by decide +kernel
theorem d_jdk_42_method_147_16 : decode jdk_42_method_147_code 16 = .ok (.ishl, 1) := by decide +kernel
theorem d_jdk_42_method_147_17 : decode jdk_42_method_147_code 17 = .ok (.aload_n 0, 1) := by decide +kernel
theorem d_jdk_42_method_147_18 : decode jdk_42_method_147_code 18 = .ok (.getfield 9, 3) := by decide +kernel
theorem d_jdk_42_method_147_21 : decode jdk_42_method_147_code 21 = .ok (.arraylength, 1) := by decide +kernel
theorem d_jdk_42_method_147_22 : decode jdk_42_method_147_code 22 = .ok (.invokestatic 212, 3) := by decide +kernel
theorem d_jdk_42_method_147_25 : decode jdk_42_method_147_code 25 = .ok (.goto 18, 3) := by decide +kernel
theorem d_jdk_42_method_147_43 : decode jdk_42_method_147_code 43 = .ok (.return_, 1) := by decide +kernel
theorem d_jdk_68_method_73_0 : decode jdk_68_method_73_code 0 = .ok (.aload_n 0, 1) := by decide +kernel
theorem d_jdk_68_method_73_1 : decode jdk_68_method_73_code 1 = .ok (.aload_n 2, 1) := by decide +kernel
theorem d_jdk_68_method_73_2 : decode jdk_68_method_73_code 2 = .ok (.invokevirtual 397, 3) := by decide +kernel
theorem d_jdk_68_method_73_5 : decode jdk_68_method_73_code 5 = .ok (.aload_n 2, 1) := by decide +kernel
theorem d_jdk_68_method_73_6 : decode jdk_68_method_73_code 6 = .ok (.aload_n 0, 1) := by decide +kernel
theorem d_jdk_68_method_73_7 : decode jdk_68_method_73_code 7 = .ok (.getfield 15, 3) := by decide +kernel
theorem d_jdk_68_method_73_10 : decode jdk_68_method_73_code 10 = .ok (.iload_n 1, 1) := by decide +kernel
theorem d_jdk_68_method_73_11 : decode jdk_68_method_73_code 11 = .ok (.aload_n 0, 1) := by decide +kernel
theorem d_jdk_68_method_73_12 : decode jdk_68_method_73_code 12 = .ok (.getfield 22, 3) := by decide +kernel
theorem d_jdk_68_method_73_15 : decode jdk_68_method_73_code 15 = .ok (.invokevirtual 399, 3) := by decide +kernel
theorem d_jdk_68_method_73_18 : decode jdk_68_method_73_code 18 = .ok (.return_, 1) := by decide +kernel
theorem d_jdk_68_method_22_0 : decode jdk_68_method_22_code 0 = .ok (.aload_n 1, 1) := by decide +kernel
theorem d_jdk_68_method_22_1 : decode jdk_68_method_22_code 1 = .ok (.ifnonnull 8, 3) := by decide +kernel
theorem d_jdk_68_method_22_9 : decode jdk_68_method_22_code 9 = .ok (.aload_n 1, 1) := by decide +kernel
theorem d_jdk_68_method_22_10 : decode jdk_68_method_22_code 10 = .ok (.invokevirtual 32, 3) := by decide +kernel
theorem d_jdk_68_method_22_13 : decode jdk_68_method_22_code 13 = .ok (.istore_n 2, 1) := by decide +kernel
theorem d_jdk_68_method_22_14 : decode jdk_68_method_22_code 14 = .ok (.aload_n 0, 1) := by decide +kernel
theorem d_jdk_68_method_22_15 : decode jdk_68_method_22_code 15 = .ok (.aload_n 0, 1) := by decide +kernel
theorem d_jdk_68_method_22_16 : decode jdk_68_method_22_code 16 = .ok (.getfield 79, 3) := by decide +kernel
theorem d_jdk_68_method_22_19 : decode jdk_68_method_22_code 19 = .ok (.iload_n 2, 1) := by decide +kernel
theorem d_jdk_68_method_22_20 : decode jdk_68_method_22_code 20 = .ok (.iadd, 1) := by decide +kernel
theorem d_jdk_68_method_22_21 : decode jdk_68_method_22_code 21 = .ok (.invokevirtual 100, 3) := by decide +kernel
theorem d_jdk_68_method_22_24 : decode jdk_68_method_22_code 24 = .ok (.aload_n 0, 1) := by decide +kernel
theorem d_jdk_68_method_22_25 : decode jdk_68_method_22_code 25 = .ok (.aload_n 0, 1) := by decide +kernel
theorem d_jdk_68_method_22_26 : decode jdk_68_method_22_code 26 = .ok (.getfield 79, 3) := by decide +kernel
theorem d_jdk_68_method_22_29 : decode jdk_68_method_22_code 29 = .ok (.aload_n 1, 1) := by decide +kernel
theorem d_jdk_68_method_22_30 : decode jdk_68_method_22_code 30 = .ok (.invokevirtual 208, 3) := by decide +kernel
theorem d_jdk_68_method_22_33 : decode jdk_68_method_22_code 33 = .ok (.aload_n 0, 1) := by decide +kernel
theorem d_jdk_68_method_22_34 : decode jdk_68_method_22_code 34 = .ok (.dup, 1) := by decide +kernel
theorem d_jdk_68_method_22_35 : decode jdk_68_method_22_code 35 = .ok (.getfield 79, 3) := by decide +kernel
theorem d_jdk_68_method_22_38 : decode jdk_68_method_22_code 38 = .ok (.iload_n 2, 1) := by decide +kernel
theorem d_jdk_68_method_22_39 : decode jdk_68_method_22_code 39 = .ok (.iadd, 1) := by decide +kernel
theorem d_jdk_68_method_22_40 : decode jdk_68_method_22_code 40 = .ok (.putfield 79, 3) := by decide +kernel
theorem d_jdk_68_method_22_43 : decode jdk_68_method_22_code 43 = .ok (.aload_n 0, 1) := by decide +kernel
theorem d_jdk_68_method_22_44 : decode jdk_68_method_22_code 44 = .ok (.areturn, 1) := by decide +kernel
theorem d_jdk_67_method_7_0 : decode jdk_67_method_7_code 0 = .ok (.aload_n 0, 1) := by decide +kernel
theorem d_jdk_67_method_7_1 : decode jdk_67_method_7_code 1 = .ok (.aload_n 1, 1) := by decide +kernel
theorem d_jdk_67_method_7_2 : decode jdk_67_method_7_code 2 = .ok (.invokespecial 29, 3) := by decide +kernel
theorem d_jdk_67_method_7_5 : decode jdk_67_method_7_code 5 = .ok (.pop, 1) := by decide +kernel
theorem d_jdk_67_method_7_6 : decode jdk_67_method_7_code 6 = .ok (.aload_n 0, 1) := by decide +kernel
theorem d_jdk_67_method_7_7 : decode jdk_67_method_7_code 7 = .ok (.areturn, 1) := by decide +kernel
theorem d_jdk_68_method_68_0 : decode jdk_68_method_68_code 0 = .ok (.getstatic 18, 3) := by decide +kernel
theorem d_jdk_68_method_68_3 : decode jdk_68_method_68_code 3 = .ok (.ifCond .eq 14, 3) := by decide +kernel
theorem d_jdk_68_method_68_6 : decode jdk_68_method_68_code 6 = .ok (.aload_n 0, 1) := by decide +kernel
theorem d_jdk_68_method_68_7 : decode jdk_68_method_68_code 7 = .ok (.getfield 22, 3) := by decide +kernel
theorem d_jdk_68_method_68_10 : decode jdk_68_method_68_code 10 = .ok (.ifCond .ne 7, 3) := by decide +kernel
theorem d_jdk_68_method_68_13 : decode jdk_68_method_68_code 13 = .ok (.iconst 1, 1) := by decide +kernel
theorem d_jdk_68_method_68_14 : decode jdk_68_method_68_code 14 = .ok (.goto 4, 3) := by decide +kernel
theorem d_jdk_68_method_68_18 : decode jdk_68_method_68_code 18 = .ok (.ireturn, 1) := by decide +kernel
theorem d_jdk_65_method_131_0 : decode jdk_65_method_131_code 0 = .ok (.iload_n 1, 1) := by decide +kernel
theorem d_jdk_65_method_131_1 : decode jdk_65_method_131_code 1 = .ok (.iload_n 0, 1) := by decide +kernel
theorem d_jdk_65_method_131_2 : decode jdk_65_method_131_code 2 = .ok (.if_icmp .ge 35, 3) := by decide +kernel
theorem d_jdk_65_method_131_37 : decode jdk_65_method_131_code 37 = .ok (.return_, 1) := by decide +kernel
theorem d_jdk_65_method_133_0 : decode jdk_65_method_133_code 0 = .ok (.iload_n 1, 1) := by decide +kernel
theorem d_jdk_65_method_133_1 : decode jdk_65_method_133_code 1 = .ok (.iload_n 2, 1) := by decide +kernel
theorem d_jdk_65_method_133_2 : decode jdk_65_method_133_code 2 = .ok (.invokestatic 343, 3) := by decide +kernel
theorem d_jdk_65_method_133_5 : decode jdk_65_method_133_code 5 = .ok (.iload_n 2, 1) := by decide +kernel
theorem d_jdk_65_method_133_6 : decode jdk_65_method_133_code 6 = .ok (.iload_n 1, 1) := by decide +kernel
theorem d_jdk_65_method_133_7 : decode jdk_65_method_133_code 7 = .ok (.isub, 1) := by decide +kernel
theorem d_jdk_65_method_133_8 : decode jdk_65_method_133_code 8 = .ok (.istore_n 3, 1) := by decide +kernel
theorem d_jdk_65_method_133_9 : decode jdk_65_method_133_code 9 = .ok (.iload_n 3, 1) := by decide +kernel
theorem d_jdk_65_method_133_10 : decode jdk_65_method_133_code 10 = .ok (.newarray .byte, 2) := by decide +kernel
theorem d_jdk_65_method_133_12 : decode jdk_65_method_133_code 12 = .ok (.astore 4, 2) := by decide +kernel
theorem d_jdk_65_method_133_14 : decode jdk_65_method_133_code 14 = .ok (.aload_n 0, 1) := by decide +kernel
theorem d_jdk_65_method_133_15 : decode jdk_65_method_133_code 15 = .ok (.iload_n 1, 1) := by decide +kernel
theorem d_jdk_65_method_133_16 : decode jdk_65_method_133_code 16 = .ok (.aload 4, 2) := by decide +kernel
theorem d_jdk_65_method_133_18 : decode jdk_65_method_133_code 18 = .ok (.iconst 0, 1) := by decide +kernel
theorem d_jdk_65_method_133_19 : decode jdk_65_method_133_code 19 = .ok (.aload_n 0, 1) := by decide +kernel
theorem d_jdk_65_method_133_20 : decode jdk_65_method_133_code 20 = .ok (.arraylength, 1) := by decide +kernel
theorem d_jdk_65_method_133_21 : decode jdk_65_method_133_code 21 = .ok (.iload_n 1, 1) := by decide +kernel
theorem d_jdk_65_method_133_22 : decode jdk_65_method_133_code 22 = .ok (.isub, 1) := by decide +kernel
theorem d_jdk_65_method_133_23 : decode jdk_65_method_133_code 23 = .ok (.iload_n 3, 1) := by decide +kernel
theorem d_jdk_65_method_133_24 : decode jdk_65_method_133_code 24 = .ok (.invokestatic 304, 3) := by decide +kernel
theorem d_jdk_65_method_133_27 : decode jdk_65_method_133_code 27 = .ok (.invokestatic 150, 3) := by decide +kernel
theorem d_jdk_65_method_133_30 : decode jdk_65_method_133_code 30 = .ok (.aload 4, 2) := by decide +kernel
theorem d_jdk_65_method_133_32 : decode jdk_65_method_133_code 32 = .ok (.areturn, 1) := by decide +kernel
theorem d_jdk_65_method_132_0 : decode jdk_65_method_132_code 0 = .ok (.iload_n 1, 1) := by decide +kernel
theorem d_jdk_65_method_132_1 : decode jdk_65_method_132_code 1 = .ok (.ifCond .ne 9, 3) := by decide +kernel
theorem d_jdk_65_method_132_4 : decode jdk_65_method_132_code 4 = .ok (.iload_n 2, 1) := by decide +kernel
theorem d_jdk_65_method_132_5 : decode jdk_65_method_132_code 5 = .ok (.aload_n 0, 1) := by decide +kernel
theorem d_jdk_65_method_132_6 : decode jdk_65_method_132_code 6 = .ok (.arraylength, 1) := by decide +kernel
theorem d_jdk_65_method_132_7 : decode jdk_65_method_132_code 7 = .ok (.if_icmp .eq 10, 3) := by decide +kernel
theorem d_jdk_65_method_132_10 : decode jdk_65_method_132_code 10 = .ok (.aload_n 0, 1) := by decide +kernel
theorem d_jdk_65_method_132_11 : decode jdk_65_method_132_code 11 = .ok (.iload_n 1, 1) := by decide +kernel
theorem d_jdk_65_method_132_12 : decode jdk_65_method_132_code 12 = .ok (.iload_n 2, 1) := by decide +kernel
theorem d_jdk_65_method_132_13 : decode jdk_65_method_132_code 13 = .ok (.invokestatic 339, 3) := by decide +kernel
theorem d_jdk_65_method_132_16 : decode jdk_65_method_132_code 16 = .ok (.areturn, 1) := by decide +kernel
theorem d_jdk_68_method_64_0 : decode jdk_68_method_64_code 0 = .ok (.aload_n 0, 1) := by decide +kernel
theorem d_jdk_68_method_64_1 : decode jdk_68_method_64_code 1 = .ok (.getfield 15, 3) := by decide +kernel
theorem d_jdk_68_method_64_4 : decode jdk_68_method_64_code 4 = .ok (.areturn, 1) := by decide +kernel
theorem d_jdk_68_method_6_0 : decode jdk_68_method_6_code 0 = .ok (.aload_n 0, 1) := by decide +kernel
theorem d_jdk_68_method_6_1 : decode jdk_68_method_6_code 1 = .ok (.getfield 79, 3) := by decide +kernel
theorem d_jdk_68_method_6_4 : decode jdk_68_method_6_code 4 = .ok (.ireturn, 1) := by decide +kernel
theorem d_jdk_67_method_93_0 : decode jdk_67_method_93_code 0 = .ok (.aload_n 0, 1) := by decide +kernel
theorem d_jdk_67_method_93_1 : decode jdk_67_method_93_code 1 = .ok (.invokespecial 343, 3) := by decide +kernel
theorem d_jdk_67_method_93_4 : decode jdk_67_method_93_code 4 = .ok (.ireturn, 1) := by decide +kernel
theorem d_jdk_42_method_150_0 : decode jdk_42_method_150_code 0 = .ok (.aload_n 0, 1) := by decide +kernel
theorem d_jdk_42_method_150_1 : decode jdk_42_method_150_code 1 = .ok (.invokespecial 1, 3) := by decide +kernel
theorem d_jdk_42_method_150_4 : decode jdk_42_method_150_code 4 = .ok (.aload_n 1, 1) := by decide +kernel
theorem d_jdk_42_method_150_5 : decode jdk_42_method_150_code 5 = .ok (.invokevirtual 552, 3) := by decide +kernel
theorem d_jdk_42_method_150_8 : decode jdk_42_method_150_code 8 = .ok (.astore_n 3, 1) := by decide +kernel
theorem d_jdk_42_method_150_9 : decode jdk_42_method_150_code 9 = .ok (.aload_n 1, 1) := by decide +kernel
theorem d_jdk_42_method_150_10 : decode jdk_42_method_150_code 10 = .ok (.invokevirtual 549, 3) := by decide +kernel
theorem d_jdk_42_method_150_13 : decode jdk_42_method_150_code 13 = .ok (.istore 4, 2) := by decide +kernel
theorem d_jdk_42_method_150_15 : decode jdk_42_method_150_code 15 = .ok (.aload_n 1, 1) := by decide +kernel
theorem d_jdk_42_method_150_16 : decode jdk_42_method_150_code 16 = .ok (.invokevirtual 1047, 3) := by decide +kernel
theorem d_jdk_42_method_150_19 : decode jdk_42_method_150_code 19 = .ok (.ifCond .eq 22, 3) := by decide +kernel
theorem d_jdk_42_method_150_22 : decode jdk_42_method_150_code 22 = .ok (.aload_n 0, 1) := by decide +kernel
theorem d_jdk_42_method_150_23 : decode jdk_42_method_150_code 23 = .ok (.iconst 0, 1) := by decide +kernel
theorem d_jdk_42_method_150_24 : decode jdk_42_method_150_code 24 = .ok (.putfield 15, 3) := by decide +kernel
theorem d_jdk_42_method_150_27 : decode jdk_42_method_150_code 27 = .ok (.aload_n 0, 1) := by decide +kernel
theorem d_jdk_42_method_150_28 : decode jdk_42_method_150_code 28 = .ok (.aload_n 3, 1) := by decide +kernel
theorem d_jdk_42_method_150_29 : decode jdk_42_method_150_code 29 = .ok (.iconst 0, 1) := by decide +kernel
theorem d_jdk_42_method_150_30 : decode jdk_42_method_150_code 30 = .ok (.iload 4, 2) := by decide +kernel
theorem d_jdk_42_method_150_32 : decode jdk_42_method_150_code 32 = .ok (.invokestatic 54, 3) := by decide +kernel
theorem d_jdk_42_method_150_35 : decode jdk_42_method_150_code 35 = .ok (.putfield 9, 3) := by decide +kernel
theorem d_jdk_42_method_150_38 : decode jdk_42_method_150_code 38 = .ok (.goto 59, 3) := by decide +kernel
theorem d_jdk_42_method_150_97 : decode jdk_42_method_150_code 97 = .ok (.return_, 1) := by decide +kernel
theorem d_jdk_42_method_53_0 : decode jdk_42_method_53_code 0 = .ok (.aload_n 0, 1) := by decide +kernel
theorem d_jdk_42_method_53_1 : decode jdk_42_method_53_code 1 = .ok (.aload_n 1, 1) := by decide +kernel
theorem d_jdk_42_method_53_2 : decode jdk_42_method_53_code 2 = .ok (.aconst_null, 1) := by decide +kernel
theorem d_jdk_42_method_53_3 : decode jdk_42_method_53_code 3 = .ok (.invokespecial 489, 3) := by decide +kernel
theorem d_jdk_42_method_53_6 : decode jdk_42_method_53_code 6 = .ok (.return_, 1) := by decide +kernel
theorem d_jdk_67_method_42_0 : decode jdk_67_method_42_code 0 = .ok (.new 18, 3) := by decide +kernel
theorem d_jdk_67_method_42_3 : decode jdk_67_method_42_code 3 = .ok (.dup, 1) := by decide +kernel
theorem d_jdk_67_method_42_4 : decode jdk_67_method_42_code 4 = .ok (.aload_n 0, 1) := by decide +kernel
theorem d_jdk_67_method_42_5 : decode jdk_67_method_42_code 5 = .ok (.invokespecial 137, 3) := by decide +kernel
theorem d_jdk_67_method_42_8 : decode jdk_67_method_42_code 8 = .ok (.areturn, 1) := by decide +kernel
theorem d_jdk_22_method_1_0 : decode jdk_22_method_1_code 0 = .ok (.aload_n 0, 1) := by decide +kernel
theorem d_jdk_22_method_1_1 : decode jdk_22_method_1_code 1 = .ok (.invokespecial 1, 3) := by decide +kernel
theorem d_jdk_22_method_1_4 : decode jdk_22_method_1_code 4 = .ok (.return_, 1) := by decide +kernel
theorem d_jdk_39_method_1_0 : decode jdk_39_method_1_code 0 = .ok (.aload_n 0, 1) := by decide +kernel
theorem d_jdk_39_method_1_1 : decode jdk_39_method_1_code 1 = .ok (.invokespecial 1, 3) := by decide +kernel
theorem d_jdk_39_method_1_4 : decode jdk_39_method_1_code 4 = .ok (.aload_n 0, 1) := by decide +kernel
theorem d_jdk_39_method_1_5 : decode jdk_39_method_1_code 5 = .ok (.iconst 0, 1) := by decide +kernel
theorem d_jdk_39_method_1_6 : decode jdk_39_method_1_code 6 = .ok (.putfield 7, 3) := by decide +kernel
theorem d_jdk_39_method_1_9 : decode jdk_39_method_1_code 9 = .ok (.return_, 1) := by decide +kernel
theorem d_jdk_38_method_2_0 : decode jdk_38_method_2_code 0 = .ok (.aload_n 0, 1) := by decide +kernel
theorem d_jdk_38_method_2_1 : decode jdk_38_method_2_code 1 = .ok (.invokespecial 1, 3) := by decide +kernel
theorem d_jdk_38_method_2_4 : decode jdk_38_method_2_code 4 = .ok (.aload_n 0, 1) := by decide +kernel
theorem d_jdk_38_method_2_5 : decode jdk_38_method_2_code 5 = .ok (.getstatic 39, 3) := by decide +kernel
theorem d_jdk_38_method_2_8 : decode jdk_38_method_2_code 8 = .ok (.putfield 9, 3) := by decide +kernel
theorem d_jdk_38_method_2_11 : decode jdk_38_method_2_code 11 = .ok (.return_, 1) := by decide +kernel
theorem d_jdk_38_method_6_0 : decode jdk_38_method_6_code 0 = .ok (.aload_n 0, 1) := by decide +kernel
theorem d_jdk_38_method_6_1 : decode jdk_38_method_6_code 1 = .ok (.getfield 9, 3) := by decide +kernel
theorem d_jdk_38_method_6_4 : decode jdk_38_method_6_code 4 = .ok (.arraylength, 1) := by decide +kernel
theorem d_jdk_38_method_6_5 : decode jdk_38_method_6_code 5 = .ok (.istore_n 2, 1) := by decide +kernel
theorem d_jdk_38_method_6_6 : decode jdk_38_method_6_code 6 = .ok (.iload_n 2, 1) := by decide +kernel
theorem d_jdk_38_method_6_7 : decode jdk_38_method_6_code 7 = .ok (.ifCond .gt 13, 3) := by decide +kernel
theorem d_jdk_38_method_6_10 : decode jdk_38_method_6_code 10 = .ok (.aload_n 0, 1) := by decide +kernel
theorem d_jdk_38_method_6_11 : decode jdk_38_method_6_code 11 = .ok (.getfield 9, 3) := by decide +kernel
theorem d_jdk_38_method_6_14 : decode jdk_38_method_6_code 14 = .ok (.getstatic 39, 3) := by decide +kernel
theorem d_jdk_38_method_6_17 : decode jdk_38_method_6_code 17 = .ok (.if_acmp .eq 28, 3) := by decide +kernel
theorem d_jdk_38_method_6_45 : decode jdk_38_method_6_code 45 = .ok (.aload_n 0, 1) := by decide +kernel
theorem d_jdk_38_method_6_46 : decode jdk_38_method_6_code 46 = .ok (.bipush 10, 2) := by decide +kernel
theorem d_jdk_38_method_6_48 : decode jdk_38_method_6_code 48 = .ok (.iload_n 1, 1) := by decide +kernel
theorem d_jdk_38_method_6_49 : decode jdk_38_method_6_code 49 = .ok (.invokestatic 79, 3) := by decide +kernel
theorem d_jdk_38_method_6_52 : decode jdk_38_method_6_code 52 = .ok (.anewarray 7, 3) := by decide +kernel
theorem d_jdk_38_method_6_55 : decode jdk_38_method_6_code 55 = .ok (.dup_x1, 1) := by decide +kernel
theorem d_jdk_38_method_6_56 : decode jdk_38_method_6_code 56 = .ok (.putfield 9, 3) := by decide +kernel
theorem d_jdk_38_method_6_59 : decode jdk_38_method_6_code 59 = .ok (.areturn, 1) := by decide +kernel
theorem d_jdk_38_method_7_0 : decode jdk_38_method_7_code 0 = .ok (.aload_n 0, 1) := by decide +kernel
theorem d_jdk_38_method_7_1 : decode jdk_38_method_7_code 1 = .ok (.aload_n 0, 1) := by decide +kernel
theorem d_jdk_38_method_7_2 : decode jdk_38_method_7_code 2 = .ok (.getfield 48, 3) := by decide +kernel
theorem d_jdk_38_method_7_5 : decode jdk_38_method_7_code 5 = .ok (.iconst 1, 1) := by decide +kernel
theorem d_jdk_38_method_7_6 : decode jdk_38_method_7_code 6 = .ok (.iadd, 1) := by decide +kernel
theorem d_jdk_38_method_7_7 : decode jdk_38_method_7_code 7 = .ok (.invokevirtual 69, 3) := by decide +kernel
theorem d_jdk_38_method_7_10 : decode jdk_38_method_7_code 10 = .ok (.areturn, 1) := by decide +kernel
theorem d_jdk_38_method_24_0 : decode jdk_38_method_24_code 0 = .ok (.iload_n 3, 1) := by decide +kernel
theorem d_jdk_38_method_24_1 : decode jdk_38_method_24_code 1 = .ok (.aload_n 2, 1) := by decide +kernel
theorem d_jdk_38_method_24_2 : decode jdk_38_method_24_code 2 = .ok (.arraylength, 1) := by decide +kernel
theorem d_jdk_38_method_24_3 : decode jdk_38_method_24_code 3 = .ok (.if_icmp .ne 8, 3) := by decide +kernel
theorem d_jdk_38_method_24_6 : decode jdk_38_method_24_code 6 = .ok (.aload_n 0, 1) := by decide +kernel
theorem d_jdk_38_method_24_7 : decode jdk_38_method_24_code 7 = .ok (.invokevirtual 129, 3) := by decide +kernel
theorem d_jdk_38_method_24_10 : decode jdk_38_method_24_code 10 = .ok (.astore_n 2, 1) := by decide +kernel
theorem d_jdk_38_method_24_11 : decode jdk_38_method_24_code 11 = .ok (.aload_n 2, 1) := by decide +kernel
theorem d_jdk_38_method_24_12 : decode jdk_38_method_24_code 12 = .ok (.iload_n 3, 1) := by decide +kernel
theorem d_jdk_38_method_24_13 : decode jdk_38_method_24_code 13 = .ok (.aload_n 1, 1) := by decide +kernel
theorem d_jdk_38_method_24_14 : decode jdk_38_method_24_code 14 = .ok (.aastore, 1) := by decide +kernel
theorem d_jdk_38_method_24_15 : decode jdk_38_method_24_code 15 = .ok (.aload_n 0, 1) := by decide +kernel
theorem d_jdk_38_method_24_16 : decode jdk_38_method_24_code 16 = .ok (.iload_n 3, 1) := by decide +kernel
theorem d_jdk_38_method_24_17 : decode jdk_38_method_24_code 17 = .ok (.iconst 1, 1) := by decide +kernel
theorem d_jdk_38_method_24_18 : decode jdk_38_method_24_code 18 = .ok (.iadd, 1) := by decide +kernel
theorem d_jdk_38_method_24_19 : decode jdk_38_method_24_code 19 = .ok (.putfield 48, 3) := by decide +kernel
theorem d_jdk_38_method_24_22 : decode jdk_38_method_24_code 22 = .ok (.return_, 1) := by decide +kernel
theorem d_jdk_38_method_25_0 : decode jdk_38_method_25_code 0 = .ok (.aload_n 0, 1) := by decide +kernel
theorem d_jdk_38_method_25_1 : decode jdk_38_method_25_code 1 = .ok (.dup, 1) := by decide +kernel
theorem d_jdk_38_method_25_2 : decode jdk_38_method_25_code 2 = .ok (.getfield 63, 3) := by decide +kernel
theorem d_jdk_38_method_25_5 : decode jdk_38_method_25_code 5 = .ok (.iconst 1, 1) := by decide +kernel
theorem d_jdk_38_method_25_6 : decode jdk_38_method_25_code 6 = .ok (.iadd, 1) := by decide +kernel
theorem d_jdk_38_method_25_7 : decode jdk_38_method_25_code 7 = .ok (.putfield 63, 3) := by decide +kernel
theorem d_jdk_38_method_25_10 : decode jdk_38_method_25_code 10 = .ok (.aload_n 0, 1) := by decide +kernel
theorem d_jdk_38_method_25_11 : decode jdk_38_method_25_code 11 = .ok (.aload_n 1, 1) := by decide +kernel
theorem d_jdk_38_method_25_12 : decode jdk_38_method_25_code 12 = .ok (.aload_n 0, 1) := by decide +kernel
theorem d_jdk_38_method_25_13 : decode jdk_38_method_25_code 13 = .ok (.getfield 9, 3) := by decide +kernel
theorem d_jdk_38_method_25_16 : decode jdk_38_method_25_code 16 = .ok (.aload_n 0, 1) := by decide +kernel
theorem d_jdk_38_method_25_17 : decode jdk_38_method_25_code 17 = .ok (.getfield 48, 3) := by decide +kernel
theorem d_jdk_38_method_25_20 : decode jdk_38_method_25_code 20 = .ok (.invokevirtual 131, 3) := by decide +kernel
theorem d_jdk_38_method_25_23 : decode jdk_38_method_25_code 23 = .ok (.iconst 1, 1) := by decide +kernel
theorem d_jdk_38_method_25_24 : decode jdk_38_method_25_code 24 = .ok (.ireturn, 1) := by decide +kernel
theorem d_jdk_49_method_1_0 : decode jdk_49_method_1_code 0 = .ok (.aload_n 0, 1) := by decide +kernel
theorem d_jdk_49_method_1_1 : decode jdk_49_method_1_code 1 = .ok (.aload_n 1, 1) := by decide +kernel
theorem d_jdk_49_method_1_2 : decode jdk_49_method_1_code 2 = .ok (.putfield 1, 3) := by decide +kernel
theorem d_jdk_49_method_1_5 : decode jdk_49_method_1_code 5 = .ok (.aload_n 0, 1) := by decide +kernel
theorem d_jdk_49_method_1_6 : decode jdk_49_method_1_code 6 = .ok (.invokespecial 7, 3) := by decide +kernel
theorem d_jdk_49_method_1_9 : decode jdk_49_method_1_code 9 = .ok (.aload_n 0, 1) := by decide +kernel
theorem d_jdk_49_method_1_10 : decode jdk_49_method_1_code 10 = .ok (.iconst (-1), 1) := by decide +kernel
theorem d_jdk_49_method_1_11 : decode jdk_49_method_1_code 11 = .ok (.putfield 13, 3) := by decide +kernel
theorem d_jdk_49_method_1_14 : decode jdk_49_method_1_code 14 = .ok (.aload_n 0, 1) := by decide +kernel
theorem d_jdk_49_method_1_15 : decode jdk_49_method_1_code 15 = .ok (.aload_n 0, 1) := by decide +kernel
theorem d_jdk_49_method_1_16 : decode jdk_49_method_1_code 16 = .ok (.getfield 1, 3) := by decide +kernel
theorem d_jdk_49_method_1_19 : decode jdk_49_method_1_code 19 = .ok (.getfield 17, 3) := by decide +kernel
theorem d_jdk_49_method_1_22 : decode jdk_49_method_1_code 22 = .ok (.putfield 22, 3) := by decide +kernel
theorem d_jdk_49_method_1_25 : decode jdk_49_method_1_code 25 = .ok (.return_, 1) := by decide +kernel
theorem d_jdk_38_method_55_0 : decode jdk_38_method_55_code 0 = .ok (.new 267, 3) := by decide +kernel
theorem d_jdk_38_method_55_3 : decode jdk_38_method_55_code 3 = .ok (.dup, 1) := by decide +kernel
theorem d_jdk_38_method_55_4 : decode jdk_38_method_55_code 4 = .ok (.aload_n 0, 1) := by decide +kernel
theorem d_jdk_38_method_55_5 : decode jdk_38_method_55_code 5 = .ok (.invokespecial 269, 3) := by decide +kernel
theorem d_jdk_38_method_55_8 : decode jdk_38_method_55_code 8 = .ok (.areturn, 1) := by decide +kernel
theorem d_jdk_49_method_2_0 : decode jdk_49_method_2_code 0 = .ok (.aload_n 0, 1) := by decide +kernel
theorem d_jdk_49_method_2_1 : decode jdk_49_method_2_code 1 = .ok (.getfield 25, 3) := by decide +kernel
theorem d_jdk_49_method_2_4 : decode jdk_49_method_2_code 4 = .ok (.aload_n 0, 1) := by decide +kernel
theorem d_jdk_49_method_2_5 : decode jdk_49_method_2_code 5 = .ok (.getfield 1, 3) := by decide +kernel
theorem d_jdk_49_method_2_8 : decode jdk_49_method_2_code 8 = .ok (.getfield 28, 3) := by decide +kernel
theorem d_jdk_49_method_2_11 : decode jdk_49_method_2_code 11 = .ok (.if_icmp .eq 7, 3) := by decide +kernel
theorem d_jdk_49_method_2_18 : decode jdk_49_method_2_code 18 = .ok (.iconst 0, 1) := by decide +kernel
theorem d_jdk_49_method_2_19 : decode jdk_49_method_2_code 19 = .ok (.ireturn, 1) := by decide +kernel
theorem d_jdk_49_method_2_14 : decode jdk_49_method_2_code 14 = .ok (.iconst 1, 1) := by decide +kernel
theorem d_jdk_49_method_2_15 : decode jdk_49_method_2_code 15 = .ok (.goto 4, 3) := by decide +kernel
theorem d_jdk_49_method_6_0 : decode jdk_49_method_6_code 0 = .ok (.aload_n 0, 1) := by decide +kernel
theorem d_jdk_49_method_6_1 : decode jdk_49_method_6_code 1 = .ok (.getfield 1, 3) := by decide +kernel
theorem d_jdk_49_method_6_4 : decode jdk_49_method_6_code 4 = .ok (.getfield 17, 3) := by decide +kernel
theorem d_jdk_49_method_6_7 : decode jdk_49_method_6_code 7 = .ok (.aload_n 0, 1) := by decide +kernel
theorem d_jdk_49_method_6_8 : decode jdk_49_method_6_code 8 = .ok (.getfield 22, 3) := by decide +kernel
theorem d_jdk_49_method_6_11 : decode jdk_49_method_6_code 11 = .ok (.if_icmp .eq 11, 3) := by decide +kernel
theorem d_jdk_49_method_6_22 : decode jdk_49_method_6_code 22 = .ok (.return_, 1) := by decide +kernel
theorem d_jdk_49_method_3_0 : decode jdk_49_method_3_code 0 = .ok (.aload_n 0, 1) := by decide +kernel
theorem d_jdk_49_method_3_1 : decode jdk_49_method_3_code 1 = .ok (.invokevirtual 31, 3) := by decide +kernel
theorem d_jdk_49_method_3_4 : decode jdk_49_method_3_code 4 = .ok (.aload_n 0, 1) := by decide +kernel
theorem d_jdk_49_method_3_5 : decode jdk_49_method_3_code 5 = .ok (.getfield 25, 3) := by decide +kernel
theorem d_jdk_49_method_3_8 : decode jdk_49_method_3_code 8 = .ok (.istore_n 1, 1) := by decide +kernel
theorem d_jdk_49_method_3_9 : decode jdk_49_method_3_code 9 = .ok (.iload_n 1, 1) := by decide +kernel
theorem d_jdk_49_method_3_10 : decode jdk_49_method_3_code 10 = .ok (.aload_n 0, 1) := by decide +kernel
theorem d_jdk_49_method_3_11 : decode jdk_49_method_3_code 11 = .ok (.getfield 1, 3) := by decide +kernel
theorem d_jdk_49_method_3_14 : decode jdk_49_method_3_code 14 = .ok (.getfield 28, 3) := by decide +kernel
theorem d_jdk_49_method_3_17 : decode jdk_49_method_3_code 17 = .ok (.if_icmp .lt 11, 3) := by decide +kernel
theorem d_jdk_49_method_3_28 : decode jdk_49_method_3_code 28 = .ok (.aload_n 0, 1) := by decide +kernel
theorem d_jdk_49_method_3_29 : decode jdk_49_method_3_code 29 = .ok (.getfield 1, 3) := by decide +kernel
theorem d_jdk_49_method_3_32 : decode jdk_49_method_3_code 32 = .ok (.getfield 37, 3) := by decide +kernel
theorem d_jdk_49_method_3_35 : decode jdk_49_method_3_code 35 = .ok (.astore_n 2, 1) := by decide +kernel
theorem d_jdk_49_method_3_36 : decode jdk_49_method_3_code 36 = .ok (.iload_n 1, 1) := by decide +kernel
theorem d_jdk_49_method_3_37 : decode jdk_49_method_3_code 37 = .ok (.aload_n 2, 1) := by decide +kernel
theorem d_jdk_49_method_3_38 : decode jdk_49_method_3_code 38 = .ok (.arraylength, 1) := by decide +kernel
theorem d_jdk_49_method_3_39 : decode jdk_49_method_3_code 39 = .ok (.if_icmp .lt 11, 3) := by decide +kernel
theorem d_jdk_49_method_3_50 : decode jdk_49_method_3_code 50 = .ok (.aload_n 0, 1) := by decide +kernel
theorem d_jdk_49_method_3_51 : decode jdk_49_method_3_code 51 = .ok (.iload_n 1, 1) := by decide +kernel
theorem d_jdk_49_method_3_52 : decode jdk_49_method_3_code 52 = .ok (.iconst 1, 1) := by decide +kernel
theorem d_jdk_49_method_3_53 : decode jdk_49_method_3_code 53 = .ok (.iadd, 1) := by decide +kernel
theorem d_jdk_49_method_3_54 : decode jdk_49_method_3_code 54 = .ok (.putfield 25, 3) := by decide +kernel
theorem d_jdk_49_method_3_57 : decode jdk_49_method_3_code 57 = .ok (.aload_n 2, 1) := by decide +kernel
theorem d_jdk_49_method_3_58 : decode jdk_49_method_3_code 58 = .ok (.aload_n 0, 1) := by decide +kernel
theorem d_jdk_49_method_3_59 : decode jdk_49_method_3_code 59 = .ok (.iload_n 1, 1) := by decide +kernel
theorem d_jdk_49_method_3_60 : decode jdk_49_method_3_code 60 = .ok (.dup_x1, 1) := by decide +kernel
theorem d_jdk_49_method_3_61 : decode jdk_49_method_3_code 61 = .ok (.putfield 13, 3) := by decide +kernel
theorem d_jdk_49_method_3_64 : decode jdk_49_method_3_code 64 = .ok (.aaload, 1) := by decide +kernel
theorem d_jdk_49_method_3_65 : decode jdk_49_method_3_code 65 = .ok (.areturn, 1) := by decide +kernel
theorem d_jdk_38_method_8_0 : decode jdk_38_method_8_code 0 = .ok (.aload_n 0, 1) := by decide +kernel
theorem d_jdk_38_method_8_1 : decode jdk_38_method_8_code 1 = .ok (.getfield 48, 3) := by decide +kernel
theorem d_jdk_38_method_8_4 : decode jdk_38_method_8_code 4 = .ok (.ireturn, 1) := by decide +kernel
theorem d_jdk_31_method_17_0 : decode jdk_31_method_17_code 0 = .ok (.iload_n 0, 1) := by decide +kernel
theorem d_jdk_31_method_17_1 : decode jdk_31_method_17_code 1 = .ok (.iload_n 1, 1) := by decide +kernel
theorem d_jdk_31_method_17_2 : decode jdk_31_method_17_code 2 = .ok (.aconst_null, 1) := by decide +kernel
theorem d_jdk_31_method_17_3 : decode jdk_31_method_17_code 3 = .ok (.invokestatic 105, 3) := by decide +kernel
theorem d_jdk_31_method_17_6 : decode jdk_31_method_17_code 6 = .ok (.ireturn, 1) := by decide +kernel
theorem d_jdk_38_method_18_0 : decode jdk_38_method_18_code 0 = .ok (.aload_n 0, 1) := by decide +kernel
theorem d_jdk_38_method_18_1 : decode jdk_38_method_18_code 1 = .ok (.getfield 9, 3) := by decide +kernel
theorem d_jdk_38_method_18_4 : decode jdk_38_method_18_code 4 = .ok (.iload_n 1, 1) := by decide +kernel
theorem d_jdk_38_method_18_5 : decode jdk_38_method_18_code 5 = .ok (.aaload, 1) := by decide +kernel
theorem d_jdk_38_method_18_6 : decode jdk_38_method_18_code 6 = .ok (.areturn, 1) := by decide +kernel
theorem d_jdk_38_method_20_0 : decode jdk_38_method_20_code 0 = .ok (.iload_n 1, 1) := by decide +kernel
theorem d_jdk_38_method_20_1 : decode jdk_38_method_20_code 1 = .ok (.aload_n 0, 1) := by decide +kernel
theorem d_jdk_38_method_20_2 : decode jdk_38_method_20_code 2 = .ok (.getfield 48, 3) := by decide +kernel
theorem d_jdk_38_method_20_5 : decode jdk_38_method_20_code 5 = .ok (.invokestatic 118, 3) := by decide +kernel
theorem d_jdk_38_method_20_8 : decode jdk_38_method_20_code 8 = .ok (.pop, 1) := by decide +kernel
theorem d_jdk_38_method_20_9 : decode jdk_38_method_20_code 9 = .ok (.aload_n 0, 1) := by decide +kernel
theorem d_jdk_38_method_20_10 : decode jdk_38_method_20_code 10 = .ok (.iload_n 1, 1) := by decide +kernel
theorem d_jdk_38_method_20_11 : decode jdk_38_method_20_code 11 = .ok (.invokevirtual 123, 3) := by decide +kernel
theorem d_jdk_38_method_20_14 : decode jdk_38_method_20_code 14 = .ok (.areturn, 1) := by decide +kernel
theorem d_jdk_43_method_13_9 : decode jdk_43_method_13_code 9 = .ok (.iload_n 2, 1) := by decide +kernel
theorem d_jdk_43_method_13_10 : decode jdk_43_method_13_code 10 = .ok (.aload_n 0, 1) := by decide +kernel
theorem d_jdk_43_method_13_11 : decode jdk_43_method_13_code 11 = .ok (.arraylength, 1) := by decide +kernel
theorem d_jdk_43_method_13_12 : decode jdk_43_method_13_code 12 = .ok (.if_icmp .ge 20, 3) := by decide +kernel
theorem d_jdk_43_method_13_32 : decode jdk_43_method_13_code 32 = .ok (.iconst 1, 1) := by decide +kernel
theorem d_jdk_43_method_13_33 : decode jdk_43_method_13_code 33 = .ok (.ireturn, 1) := by decide +kernel
theorem d_jdk_43_method_13_15 : decode jdk_43_method_13_code 15 = .ok (.aload_n 0, 1) := by decide +kernel
theorem d_jdk_43_method_13_16 : decode jdk_43_method_13_code 16 = .ok (.iload_n 2, 1) := by decide +kernel
theorem d_jdk_43_method_13_17 : decode jdk_43_method_13_code 17 = .ok (.baload, 1) := by decide +kernel
theorem d_jdk_43_method_13_18 : decode jdk_43_method_13_code 18 = .ok (.aload_n 1, 1) := by decide +kernel
theorem d_jdk_43_method_13_19 : decode jdk_43_method_13_code 19 = .ok (.iload_n 2, 1) := by decide +kernel
theorem d_jdk_43_method_13_20 : decode jdk_43_method_13_code 20 = .ok (.baload, 1) := by decide +kernel
theorem d_jdk_43_method_13_21 : decode jdk_43_method_13_code 21 = .ok (.if_icmp .eq 5, 3) := by decide +kernel
theorem d_jdk_43_method_13_26 : decode jdk_43_method_13_code 26 = .ok (.iinc 2 1, 3) := by decide +kernel
theorem d_jdk_43_method_13_29 : decode jdk_43_method_13_code 29 = .ok (.goto (-20), 3) := by decide +kernel
theorem d_jdk_43_method_13_0 : decode jdk_43_method_13_code 0 = .ok (.aload_n 0, 1) := by decide +kernel
theorem d_jdk_43_method_13_1 : decode jdk_43_method_13_code 1 = .ok (.arraylength, 1) := by decide +kernel
theorem d_jdk_43_method_13_2 : decode jdk_43_method_13_code 2 = .ok (.aload_n 1, 1) := by decide +kernel
theorem d_jdk_43_method_13_3 : decode jdk_43_method_13_code 3 = .ok (.arraylength, 1) := by decide +kernel
theorem d_jdk_43_method_13_4 : decode jdk_43_method_13_code 4 = .ok (.if_icmp .ne 30, 3) := by decide +kernel
theorem d_jdk_43_method_13_7 : decode jdk_43_method_13_code 7 = .ok (.iconst 0, 1) := by decide +kernel
theorem d_jdk_43_method_13_8 : decode jdk_43_method_13_code 8 = .ok (.istore_n 2, 1) := by decide +kernel
theorem d_jdk_42_method_66_0 : decode jdk_42_method_66_code 0 = .ok (.aload_n 0, 1) := by decide +kernel
theorem d_jdk_42_method_66_1 : decode jdk_42_method_66_code 1 = .ok (.aload_n 1, 1) := by decide +kernel
theorem d_jdk_42_method_66_2 : decode jdk_42_method_66_code 2 = .ok (.if_acmp .ne 5, 3) := by decide +kernel
theorem d_jdk_42_method_66_7 : decode jdk_42_method_66_code 7 = .ok (.aload_n 1, 1) := by decide +kernel
theorem d_jdk_42_method_66_8 : decode jdk_42_method_66_code 8 = .ok (.instanceof 10, 3) := by decide +kernel
theorem d_jdk_42_method_66_11 : decode jdk_42_method_66_code 11 = .ok (.ifCond .eq 43, 3) := by decide +kernel
theorem d_jdk_42_method_66_14 : decode jdk_42_method_66_code 14 = .ok (.aload_n 1, 1) := by decide +kernel
theorem d_jdk_42_method_66_15 : decode jdk_42_method_66_code 15 = .ok (.checkcast 10, 3) := by decide +kernel
theorem d_jdk_42_method_66_18 : decode jdk_42_method_66_code 18 = .ok (.astore_n 2, 1) := by decide +kernel
theorem d_jdk_42_method_66_19 : decode jdk_42_method_66_code 19 = .ok (.getstatic 38, 3) := by decide +kernel
theorem d_jdk_42_method_66_22 : decode jdk_42_method_66_code 22 = .ok (.ifCond .eq 14, 3) := by decide +kernel
theorem d_jdk_42_method_66_25 : decode jdk_42_method_66_code 25 = .ok (.aload_n 0, 1) := by decide +kernel
theorem d_jdk_42_method_66_26 : decode jdk_42_method_66_code 26 = .ok (.getfield 15, 3) := by decide +kernel
theorem d_jdk_42_method_66_29 : decode jdk_42_method_66_code 29 = .ok (.aload_n 2, 1) := by decide +kernel
theorem d_jdk_42_method_66_30 : decode jdk_42_method_66_code 30 = .ok (.getfield 15, 3) := by decide +kernel
theorem d_jdk_42_method_66_33 : decode jdk_42_method_66_code 33 = .ok (.if_icmp .ne 21, 3) := by decide +kernel
theorem d_jdk_42_method_66_36 : decode jdk_42_method_66_code 36 = .ok (.aload_n 0, 1) := by decide +kernel
theorem d_jdk_42_method_66_37 : decode jdk_42_method_66_code 37 = .ok (.getfield 9, 3) := by decide +kernel
theorem d_jdk_42_method_66_40 : decode jdk_42_method_66_code 40 = .ok (.aload_n 2, 1) := by decide +kernel
theorem d_jdk_42_method_66_41 : decode jdk_42_method_66_code 41 = .ok (.getfield 9, 3) := by decide +kernel
theorem d_jdk_42_method_66_44 : decode jdk_42_method_66_code 44 = .ok (.invokestatic 541, 3) := by decide +kernel
theorem d_jdk_42_method_66_47 : decode jdk_42_method_66_code 47 = .ok (.ifCond .eq 7, 3) := by decide +kernel
theorem d_jdk_42_method_66_50 : decode jdk_42_method_66_code 50 = .ok (.iconst 1, 1) := by decide +kernel
theorem d_jdk_42_method_66_51 : decode jdk_42_method_66_code 51 = .ok (.goto 4, 3) := by decide +kernel
theorem d_jdk_42_method_66_55 : decode jdk_42_method_66_code 55 = .ok (.ireturn, 1) := by decide +kernel
theorem d_prog_4_method_1_0 : decode prog_4_method_1_code 0 = .ok (.aload_n 0, 1) := by decide +kernel
theorem d_prog_4_method_1_1 : decode prog_4_method_1_code 1 = .ok (.invokespecial 1, 3) := by decide +kernel
theorem d_prog_4_method_1_4 : decode prog_4_method_1_code 4 = .ok (.aload_n 0, 1) := by decide +kernel
theorem d_prog_4_method_1_5 : decode prog_4_method_1_code 5 = .ok (.aload_n 1, 1) := by decide +kernel
theorem d_prog_4_method_1_6 : decode prog_4_method_1_code 6 = .ok (.putfield 7, 3) := by decide +kernel
theorem d_prog_4_method_1_9 : decode prog_4_method_1_code 9 = .ok (.aload_n 0, 1) := by decide +kernel
theorem d_prog_4_method_1_10 : decode prog_4_method_1_code 10 = .ok (.aload_n 2, 1) := by decide +kernel
theorem d_prog_4_method_1_11 : decode prog_4_method_1_code 11 = .ok (.putfield 13, 3) := by decide +kernel
theorem d_prog_4_method_1_14 : decode prog_4_method_1_code 14 = .ok (.aload_n 0, 1) := by decide +kernel
theorem d_prog_4_method_1_15 : decode prog_4_method_1_code 15 = .ok (.aload_n 3, 1) := by decide +kernel
theorem d_prog_4_method_1_16 : decode prog_4_method_1_code 16 = .ok (.putfield 16, 3) := by decide +kernel
theorem d_prog_4_method_1_19 : decode prog_4_method_1_code 19 = .ok (.return_, 1) := by decide +kernel
theorem d_prog_4_method_2_0 : decode prog_4_method_2_code 0 = .ok (.aload_n 0, 1) := by decide +kernel
theorem d_prog_4_method_2_1 : decode prog_4_method_2_code 1 = .ok (.getfield 7, 3) := by decide +kernel
theorem d_prog_4_method_2_4 : decode prog_4_method_2_code 4 = .ok (.areturn, 1) := by decide +kernel
theorem d_prog_4_method_3_0 : decode prog_4_method_3_code 0 = .ok (.aload_n 0, 1) := by decide +kernel
theorem d_prog_4_method_3_1 : decode prog_4_method_3_code 1 = .ok (.getfield 13, 3) := by decide +kernel
theorem d_prog_4_method_3_4 : decode prog_4_method_3_code 4 = .ok (.areturn, 1) := by decide +kernel
theorem d_prog_4_method_4_0 : decode prog_4_method_4_code 0 = .ok (.aload_n 0, 1) := by decide +kernel
theorem d_prog_4_method_4_1 : decode prog_4_method_4_code 1 = .ok (.getfield 16, 3) := by decide +kernel
theorem d_prog_4_method_4_4 : decode prog_4_method_4_code 4 = .ok (.areturn, 1) := by decide +kernel
theorem d_prog_2_method_7_0 : decode prog_2_method_7_code 0 = .ok (.new 16, 3) := by decide +kernel
theorem d_prog_2_method_7_3 : decode prog_2_method_7_code 3 = .ok (.dup, 1) := by decide +kernel
theorem d_prog_2_method_7_4 : decode prog_2_method_7_code 4 = .ok (.invokespecial 18, 3) := by decide +kernel
theorem d_prog_2_method_7_7 : decode prog_2_method_7_code 7 = .ok (.ldc 171, 2) := by decide +kernel
theorem d_prog_2_method_7_9 : decode prog_2_method_7_code 9 = .ok (.invokevirtual 19, 3) := by decide +kernel
theorem d_prog_2_method_7_12 : decode prog_2_method_7_code 12 = .ok (.aload_n 0, 1) := by decide +kernel
theorem d_prog_2_method_7_13 : decode prog_2_method_7_code 13 = .ok (.invokevirtual 19, 3) := by decide +kernel
theorem d_prog_2_method_7_16 : decode prog_2_method_7_code 16 = .ok (.invokevirtual 36, 3) := by decide +kernel
theorem d_prog_2_method_7_19 : decode prog_2_method_7_code 19 = .ok (.areturn, 1) := by decide +kernel
theorem d_prog_2_method_4_0 : decode prog_2_method_4_code 0 = .ok (.aload_n 0, 1) := by decide +kernel
theorem d_prog_2_method_4_1 : decode prog_2_method_4_code 1 = .ok (.invokestatic 7, 3) := by decide +kernel
theorem d_prog_2_method_4_4 : decode prog_2_method_4_code 4 = .ok (.astore_n 2, 1) := by decide +kernel
theorem d_prog_2_method_4_5 : decode prog_2_method_4_code 5 = .ok (.new 13, 3) := by decide +kernel
theorem d_prog_2_method_4_8 : decode prog_2_method_4_code 8 = .ok (.dup, 1) := by decide +kernel
theorem d_prog_2_method_4_9 : decode prog_2_method_4_code 9 = .ok (.invokespecial 15, 3) := by decide +kernel
theorem d_prog_2_method_4_12 : decode prog_2_method_4_code 12 = .ok (.astore_n 3, 1) := by decide +kernel
theorem d_prog_2_method_4_13 : decode prog_2_method_4_code 13 = .ok (.aload_n 1, 1) := by decide +kernel
theorem d_prog_2_method_4_14 : decode prog_2_method_4_code 14 = .ok (.invokeinterface 107 1, 5) := by decide +kernel
theorem d_prog_2_method_4_19 : decode prog_2_method_4_code 19 = .ok (.astore 4, 2) := by decide +kernel
theorem d_prog_2_method_4_21 : decode prog_2_method_4_code 21 = .ok (.aload 4, 2) := by decide +kernel
theorem d_prog_2_method_4_23 : decode prog_2_method_4_code 23 = .ok (.invokeinterface 111 1, 5) := by decide +kernel
theorem d_prog_2_method_4_28 : decode prog_2_method_4_code 28 = .ok (.ifCond .eq 91, 3) := by decide +kernel
theorem d_prog_2_method_4_119 : decode prog_2_method_4_code 119 = .ok (.aload_n 3, 1) := by decide +kernel
theorem d_prog_2_method_4_120 : decode prog_2_method_4_code 120 = .ok (.areturn, 1) := by decide +kernel
theorem d_prog_2_method_4_31 : decode prog_2_method_4_code 31 = .ok (.aload 4, 2) := by decide +kernel
theorem d_prog_2_method_4_33 : decode prog_2_method_4_code 33 = .ok (.invokeinterface 116 1, 5) := by decide +kernel
theorem d_prog_2_method_4_38 : decode prog_2_method_4_code 38 = .ok (.checkcast 120, 3) := by decide +kernel
theorem d_prog_2_method_4_41 : decode prog_2_method_4_code 41 = .ok (.astore 5, 2) := by decide +kernel
theorem d_prog_2_method_4_43 : decode prog_2_method_4_code 43 = .ok (.aload_n 3, 1) := by decide +kernel
theorem d_prog_2_method_4_44 : decode prog_2_method_4_code 44 = .ok (.new 16, 3) := by decide +kernel
theorem d_prog_2_method_4_47 : decode prog_2_method_4_code 47 = .ok (.dup, 1) := by decide +kernel
theorem d_prog_2_method_4_48 : decode prog_2_method_4_code 48 = .ok (.invokespecial 18, 3) := by decide +kernel
theorem d_prog_2_method_4_51 : decode prog_2_method_4_code 51 = .ok (.aload_n 2, 1) := by decide +kernel
theorem d_prog_2_method_4_52 : decode prog_2_method_4_code 52 = .ok (.invokevirtual 19, 3) := by decide +kernel
theorem d_prog_2_method_4_55 : decode prog_2_method_4_code 55 = .ok (.ldc 122, 2) := by decide +kernel
theorem d_prog_2_method_4_57 : decode prog_2_method_4_code 57 = .ok (.invokevirtual 19, 3) := by decide +kernel
theorem d_prog_2_method_4_60 : decode prog_2_method_4_code 60 = .ok (.aload 5, 2) := by decide +kernel
theorem d_prog_2_method_4_62 : decode prog_2_method_4_code 62 = .ok (.invokevirtual 124, 3) := by decide +kernel
theorem d_prog_2_method_4_65 : decode prog_2_method_4_code 65 = .ok (.invokevirtual 19, 3) := by decide +kernel
theorem d_prog_2_method_4_68 : decode prog_2_method_4_code 68 = .ok (.ldc 127, 2) := by decide +kernel
theorem d_prog_2_method_4_70 : decode prog_2_method_4_code 70 = .ok (.invokevirtual 19, 3) := by decide +kernel
theorem d_prog_2_method_4_73 : decode prog_2_method_4_code 73 = .ok (.aload 5, 2) := by decide +kernel
theorem d_prog_2_method_4_75 : decode prog_2_method_4_code 75 = .ok (.invokevirtual 129, 3) := by decide +kernel
theorem d_prog_2_method_4_78 : decode prog_2_method_4_code 78 = .ok (.invokevirtual 19, 3) := by decide +kernel
theorem d_prog_2_method_4_81 : decode prog_2_method_4_code 81 = .ok (.ldc 132, 2) := by decide +kernel
theorem d_prog_2_method_4_83 : decode prog_2_method_4_code 83 = .ok (.invokevirtual 19, 3) := by decide +kernel
theorem d_prog_2_method_4_86 : decode prog_2_method_4_code 86 = .ok (.aload 5, 2) := by decide +kernel
theorem d_prog_2_method_4_88 : decode prog_2_method_4_code 88 = .ok (.invokevirtual 134, 3) := by decide +kernel
theorem d_prog_2_method_4_91 : decode prog_2_method_4_code 91 = .ok (.invokevirtual 19, 3) := by decide +kernel
theorem d_prog_2_method_4_94 : decode prog_2_method_4_code 94 = .ok (.ldc 137, 2) := by decide +kernel
theorem d_prog_2_method_4_96 : decode prog_2_method_4_code 96 = .ok (.invokevirtual 19, 3) := by decide +kernel
theorem d_prog_2_method_4_99 : decode prog_2_method_4_code 99 = .ok (.aload 5, 2) := by decide +kernel
theorem d_prog_2_method_4_101 : decode prog_2_method_4_code 101 = .ok (.invokevirtual 129, 3) := by decide +kernel
theorem d_prog_2_method_4_104 : decode prog_2_method_4_code 104 = .ok (.invokevirtual 19, 3) := by decide +kernel
theorem d_prog_2_method_4_107 : decode prog_2_method_4_code 107 = .ok (.invokevirtual 36, 3) := by decide +kernel
theorem d_prog_2_method_4_110 : decode prog_2_method_4_code 110 = .ok (.invokeinterface 40 2, 5) := by decide +kernel
theorem d_prog_2_method_4_115 : decode prog_2_method_4_code 115 = .ok (.pop, 1) := by decide +kernel
theorem d_prog_2_method_4_116 : decode prog_2_method_4_code 116 = .ok (.goto (-95), 3) := by decide +kernel
theorem d_method_2_0 : decode method_2_code 0 = .ok (.bipush 53, 2) := by decide +kernel
theorem d_method_2_2 : decode method_2_code 2 = .ok (.newarray .char, 2) := by decide +kernel
theorem d_method_2_4 : decode method_2_code 4 = .ok (.dup, 1) := by decide +kernel
theorem d_method_2_5 : decode method_2_code 5 = .ok (.iconst 0, 1) := by decide +kernel
theorem d_method_2_6 : decode method_2_code 6 = .ok (.bipush 116, 2) := by decide +kernel
theorem d_method_2_8 : decode method_2_code 8 = .ok (.castore, 1) := by decide +kernel
theorem d_method_2_9 : decode method_2_code 9 = .ok (.dup, 1) := by decide +kernel
theorem d_method_2_10 : decode method_2_code 10 = .ok (.iconst 1, 1) := by decide +kernel
theorem d_method_2_11 : decode method_2_code 11 = .ok (.bipush 105, 2) := by decide +kernel
theorem d_method_2_13 : decode method_2_code 13 = .ok (.castore, 1) := by decide +kernel
theorem d_method_2_14 : decode method_2_code 14 = .ok (.dup, 1) := by decide +kernel
theorem d_method_2_15 : decode method_2_code 15 = .ok (.iconst 2, 1) := by decide +kernel
theorem d_method_2_16 : decode method_2_code 16 = .ok (.bipush 101, 2) := by decide +kernel
theorem d_method_2_18 : decode method_2_code 18 = .ok (.castore, 1) := by decide +kernel
theorem d_method_2_19 : decode method_2_code 19 = .ok (.dup, 1) := by decide +kernel
theorem d_method_2_20 : decode method_2_code 20 = .ok (.iconst 3, 1) := by decide +kernel
theorem d_method_2_21 : decode method_2_code 21 = .ok (.bipush 98, 2) := by decide +kernel
theorem d_method_2_23 : decode method_2_code 23 = .ok (.castore, 1) := by decide +kernel
theorem d_method_2_24 : decode method_2_code 24 = .ok (.dup, 1) := by decide +kernel
theorem d_method_2_25 : decode method_2_code 25 = .ok (.iconst 4, 1) := by decide +kernel
theorem d_method_2_26 : decode method_2_code 26 = .ok (.bipush 114, 2) := by decide +kernel
theorem d_method_2_28 : decode method_2_code 28 = .ok (.castore, 1) := by decide +kernel
theorem d_method_2_29 : decode method_2_code 29 = .ok (.dup, 1) := by decide +kernel
theorem d_method_2_30 : decode method_2_code 30 = .ok (.iconst 5, 1) := by decide +kernel
theorem d_method_2_31 : decode method_2_code 31 = .ok (.bipush 101, 2) := by decide +kernel
theorem d_method_2_33 : decode method_2_code 33 = .ok (.castore, 1) := by decide +kernel
theorem d_method_2_34 : decode method_2_code 34 = .ok (.dup, 1) := by decide +kernel
theorem d_method_2_35 : decode method_2_code 35 = .ok (.bipush 6, 2) := by decide +kernel
theorem d_method_2_37 : decode method_2_code 37 = .ok (.bipush 97, 2) := by decide +kernel
theorem d_method_2_39 : decode method_2_code 39 = .ok (.castore, 1) := by decide +kernel
theorem d_method_2_40 : decode method_2_code 40 = .ok (.dup, 1) := by decide +kernel
theorem d_method_2_41 : decode method_2_code 41 = .ok (.bipush 7, 2) := by decide +kernel
theorem d_method_2_43 : decode method_2_code 43 = .ok (.bipush 107, 2) := by decide +kernel
theorem d_method_2_45 : decode method_2_code 45 = .ok (.castore, 1) := by decide +kernel
theorem d_method_2_46 : decode method_2_code 46 = .ok (.dup, 1) := by decide +kernel
theorem d_method_2_47 : decode method_2_code 47 = .ok (.bipush 8, 2) := by decide +kernel
theorem d_method_2_49 : decode method_2_code 49 = .ok (.bipush 32, 2) := by decide +kernel
theorem d_method_2_51 : decode method_2_code 51 = .ok (.castore, 1) := by decide +kernel
theorem d_method_2_52 : decode method_2_code 52 = .ok (.dup, 1) := by decide +kernel
theorem d_method_2_53 : decode method_2_code 53 = .ok (.bipush 9, 2) := by decide +kernel
theorem d_method_2_55 : decode method_2_code 55 = .ok (.iload_n 0, 1) := by decide +kernel
theorem d_method_2_56 : decode method_2_code 56 = .ok (.castore, 1) := by decide +kernel
theorem d_method_2_57 : decode method_2_code 57 = .ok (.dup, 1) := by decide +kernel
theorem d_method_2_58 : decode method_2_code 58 = .ok (.bipush 10, 2) := by decide +kernel
theorem d_method_2_60 : decode method_2_code 60 = .ok (.bipush 32, 2) := by decide +kernel
theorem d_method_2_62 : decode method_2_code 62 = .ok (.castore, 1) := by decide +kernel
theorem d_method_2_63 : decode method_2_code 63 = .ok (.dup, 1) := by decide +kernel
theorem d_method_2_64 : decode method_2_code 64 = .ok (.bipush 11, 2) := by decide +kernel
theorem d_method_2_66 : decode method_2_code 66 = .ok (.bipush 100, 2) := by decide +kernel
theorem d_method_2_68 : decode method_2_code 68 = .ok (.castore, 1) := by decide +kernel
theorem d_method_2_69 : decode method_2_code 69 = .ok (.dup, 1) := by decide +kernel
theorem d_method_2_70 : decode method_2_code 70 = .ok (.bipush 12, 2) := by decide +kernel
theorem d_method_2_72 : decode method_2_code 72 = .ok (.bipush 117, 2) := by decide +kernel
theorem d_method_2_74 : decode method_2_code 74 = .ok (.castore, 1) := by decide +kernel
theorem d_method_2_75 : decode method_2_code 75 = .ok (.dup, 1) := by decide +kernel
theorem d_method_2_76 : decode method_2_code 76 = .ok (.bipush 13, 2) := by decide +kernel
theorem d_method_2_78 : decode method_2_code 78 = .ok (.bipush 112, 2) := by decide +kernel
theorem d_method_2_80 : decode method_2_code 80 = .ok (.castore, 1) := by decide +kernel
theorem d_method_2_81 : decode method_2_code 81 = .ok (.dup, 1) := by decide +kernel
theorem d_method_2_82 : decode method_2_code 82 = .ok (.bipush 14, 2) := by decide +kernel
theorem d_method_2_84 : decode method_2_code 84 = .ok (.bipush 108, 2) := by decide +kernel
theorem d_method_2_86 : decode method_2_code 86 = .ok (.castore, 1) := by decide +kernel
theorem d_method_2_87 : decode method_2_code 87 = .ok (.dup, 1) := by decide +kernel
theorem d_method_2_88 : decode method_2_code 88 = .ok (.bipush 15, 2) := by decide +kernel
theorem d_method_2_90 : decode method_2_code 90 = .ok (.bipush 105, 2) := by decide +kernel
theorem d_method_2_92 : decode method_2_code 92 = .ok (.castore, 1) := by decide +kernel
theorem d_method_2_93 : decode method_2_code 93 = .ok (.dup, 1) := by decide +kernel
theorem d_method_2_94 : decode method_2_code 94 = .ok (.bipush 16, 2) := by decide +kernel
theorem d_method_2_96 : decode method_2_code 96 = .ok (.bipush 99, 2) := by decide +kernel
theorem d_method_2_98 : decode method_2_code 98 = .ok (.castore, 1) := by decide +kernel
theorem d_method_2_99 : decode method_2_code 99 = .ok (.dup, 1) := by decide +kernel
theorem d_method_2_100 : decode method_2_code 100 = .ok (.bipush 17, 2) := by decide +kernel
theorem d_method_2_102 : decode method_2_code 102 = .ok (.bipush 97, 2) := by decide +kernel
theorem d_method_2_104 : decode method_2_code 104 = .ok (.castore, 1) := by decide +kernel
theorem d_method_2_105 : decode method_2_code 105 = .ok (.dup, 1) := by decide +kernel
theorem d_method_2_106 : decode method_2_code 106 = .ok (.bipush 18, 2) := by decide +kernel
theorem d_method_2_108 : decode method_2_code 108 = .ok (.bipush 116, 2) := by decide +kernel
theorem d_method_2_110 : decode method_2_code 110 = .ok (.castore, 1) := by decide +kernel
theorem d_method_2_111 : decode method_2_code 111 = .ok (.dup, 1) := by decide +kernel
theorem d_method_2_112 : decode method_2_code 112 = .ok (.bipush 19, 2) := by decide +kernel
theorem d_method_2_114 : decode method_2_code 114 = .ok (.bipush 101, 2) := by decide +kernel
theorem d_method_2_116 : decode method_2_code 116 = .ok (.castore, 1) := by decide +kernel
theorem d_method_2_117 : decode method_2_code 117 = .ok (.dup, 1) := by decide +kernel
theorem d_method_2_118 : decode method_2_code 118 = .ok (.bipush 20, 2) := by decide +kernel
theorem d_method_2_120 : decode method_2_code 120 = .ok (.bipush 58, 2) := by decide +kernel
theorem d_method_2_122 : decode method_2_code 122 = .ok (.castore, 1) := by decide +kernel
theorem d_method_2_123 : decode method_2_code 123 = .ok (.dup, 1) := by decide +kernel
theorem d_method_2_124 : decode method_2_code 124 = .ok (.bipush 21, 2) := by decide +kernel
theorem d_method_2_126 : decode method_2_code 126 = .ok (.bipush 32, 2) := by decide +kernel
theorem d_method_2_128 : decode method_2_code 128 = .ok (.castore, 1) := by decide +kernel
theorem d_method_2_129 : decode method_2_code 129 = .ok (.dup, 1) := by decide +kernel
theorem d_method_2_130 : decode method_2_code 130 = .ok (.bipush 22, 2) := by decide +kernel
theorem d_method_2_132 : decode method_2_code 132 = .ok (.iload_n 1, 1) := by decide +kernel
theorem d_method_2_133 : decode method_2_code 133 = .ok (.castore, 1) := by decide +kernel
theorem d_method_2_134 : decode method_2_code 134 = .ok (.dup, 1) := by decide +kernel
theorem d_method_2_135 : decode method_2_code 135 = .ok (.bipush 23, 2) := by decide +kernel
theorem d_method_2_137 : decode method_2_code 137 = .ok (.bipush 32, 2) := by decide +kernel
theorem d_method_2_139 : decode method_2_code 139 = .ok (.castore, 1) := by decide +kernel
theorem d_method_2_140 : decode method_2_code 140 = .ok (.dup, 1) := by decide +kernel
theorem d_method_2_141 : decode method_2_code 141 = .ok (.bipush 24, 2) := by decide +kernel
theorem d_method_2_143 : decode method_2_code 143 = .ok (.bipush 114, 2) := by decide +kernel
theorem d_method_2_145 : decode method_2_code 145 = .ok (.castore, 1) := by decide +kernel
theorem d_method_2_146 : decode method_2_code 146 = .ok (.dup, 1) := by decide +kernel
theorem d_method_2_147 : decode method_2_code 147 = .ok (.bipush 25, 2) := by decide +kernel
theorem d_method_2_149 : decode method_2_code 149 = .ok (.bipush 101, 2) := by decide +kernel
theorem d_method_2_151 : decode method_2_code 151 = .ok (.castore, 1) := by decide +kernel
theorem d_method_2_152 : decode method_2_code 152 = .ok (.dup, 1) := by decide +kernel
theorem d_method_2_153 : decode method_2_code 153 = .ok (.bipush 26, 2) := by decide +kernel
theorem d_method_2_155 : decode method_2_code 155 = .ok (.bipush 103, 2) := by decide +kernel
theorem d_method_2_157 : decode method_2_code 157 = .ok (.castore, 1) := by decide +kernel
theorem d_method_2_158 : decode method_2_code 158 = .ok (.dup, 1) := by decide +kernel
theorem d_method_2_159 : decode method_2_code 159 = .ok (.bipush 27, 2) := by decide +kernel
theorem d_method_2_161 : decode method_2_code 161 = .ok (.bipush 105, 2) := by decide +kernel
theorem d_method_2_163 : decode method_2_code 163 = .ok (.castore, 1) := by decide +kernel
theorem d_method_2_164 : decode method_2_code 164 = .ok (.dup, 1) := by decide +kernel
theorem d_method_2_165 : decode method_2_code 165 = .ok (.bipush 28, 2) := by decide +kernel
theorem d_method_2_167 : decode method_2_code 167 = .ok (.bipush 115, 2) := by decide +kernel
theorem d_method_2_169 : decode method_2_code 169 = .ok (.castore, 1) := by decide +kernel
theorem d_method_2_170 : decode method_2_code 170 = .ok (.dup, 1) := by decide +kernel
theorem d_method_2_171 : decode method_2_code 171 = .ok (.bipush 29, 2) := by decide +kernel
theorem d_method_2_173 : decode method_2_code 173 = .ok (.bipush 116, 2) := by decide +kernel
theorem d_method_2_175 : decode method_2_code 175 = .ok (.castore, 1) := by decide +kernel
theorem d_method_2_176 : decode method_2_code 176 = .ok (.dup, 1) := by decide +kernel
theorem d_method_2_177 : decode method_2_code 177 = .ok (.bipush 30, 2) := by decide +kernel
theorem d_method_2_179 : decode method_2_code 179 = .ok (.bipush 101, 2) := by decide +kernel
theorem d_method_2_181 : decode method_2_code 181 = .ok (.castore, 1) := by decide +kernel
theorem d_method_2_182 : decode method_2_code 182 = .ok (.dup, 1) := by decide +kernel
theorem d_method_2_183 : decode method_2_code 183 = .ok (.bipush 31, 2) := by decide +kernel
theorem d_method_2_185 : decode method_2_code 185 = .ok (.bipush 114, 2) := by decide +kernel
theorem d_method_2_187 : decode method_2_code 187 = .ok (.castore, 1) := by decide +kernel
theorem d_method_2_188 : decode method_2_code 188 = .ok (.dup, 1) := by decide +kernel
theorem d_method_2_189 : decode method_2_code 189 = .ok (.bipush 32, 2) := by decide +kernel
theorem d_method_2_191 : decode method_2_code 191 = .ok (.bipush 101, 2) := by decide +kernel
theorem d_method_2_193 : decode method_2_code 193 = .ok (.castore, 1) := by decide +kernel
theorem d_method_2_194 : decode method_2_code 194 = .ok (.dup, 1) := by decide +kernel
theorem d_method_2_195 : decode method_2_code 195 = .ok (.bipush 33, 2) := by decide +kernel
theorem d_method_2_197 : decode method_2_code 197 = .ok (.bipush 100, 2) := by decide +kernel
theorem d_method_2_199 : decode method_2_code 199 = .ok (.castore, 1) := by decide +kernel
theorem d_method_2_200 : decode method_2_code 200 = .ok (.dup, 1) := by decide +kernel
theorem d_method_2_201 : decode method_2_code 201 = .ok (.bipush 34, 2) := by decide +kernel
theorem d_method_2_203 : decode method_2_code 203 = .ok (.bipush 32, 2) := by decide +kernel
theorem d_method_2_205 : decode method_2_code 205 = .ok (.castore, 1) := by decide +kernel
theorem d_method_2_206 : decode method_2_code 206 = .ok (.dup, 1) := by decide +kernel
theorem d_method_2_207 : decode method_2_code 207 = .ok (.bipush 35, 2) := by decide +kernel
theorem d_method_2_209 : decode method_2_code 209 = .ok (.bipush 97, 2) := by decide +kernel
theorem d_method_2_211 : decode method_2_code 211 = .ok (.castore, 1) := by decide +kernel
theorem d_method_2_212 : decode method_2_code 212 = .ok (.dup, 1) := by decide +kernel
theorem d_method_2_213 : decode method_2_code 213 = .ok (.bipush 36, 2) := by decide +kernel
theorem d_method_2_215 : decode method_2_code 215 = .ok (.bipush 115, 2) := by decide +kernel
theorem d_method_2_217 : decode method_2_code 217 = .ok (.castore, 1) := by decide +kernel
theorem d_method_2_218 : decode method_2_code 218 = .ok (.dup, 1) := by decide +kernel
theorem d_method_2_219 : decode method_2_code 219 = .ok (.bipush 37, 2) := by decide +kernel
theorem d_method_2_221 : decode method_2_code 221 = .ok (.bipush 32, 2) := by decide +kernel
theorem d_method_2_223 : decode method_2_code 223 = .ok (.castore, 1) := by decide +kernel
theorem d_method_2_224 : decode method_2_code 224 = .ok (.dup, 1) := by decide +kernel
theorem d_method_2_225 : decode method_2_code 225 = .ok (.bipush 38, 2) := by decide +kernel
theorem d_method_2_227 : decode method_2_code 227 = .ok (.iload_n 2, 1) := by decide +kernel
theorem d_method_2_228 : decode method_2_code 228 = .ok (.castore, 1) := by decide +kernel
theorem d_method_2_229 : decode method_2_code 229 = .ok (.dup, 1) := by decide +kernel
theorem d_method_2_230 : decode method_2_code 230 = .ok (.bipush 39, 2) := by decide +kernel
theorem d_method_2_232 : decode method_2_code 232 = .ok (.bipush 32, 2) := by decide +kernel
theorem d_method_2_234 : decode method_2_code 234 = .ok (.castore, 1) := by decide +kernel
theorem d_method_2_235 : decode method_2_code 235 = .ok (.dup, 1) := by decide +kernel
theorem d_method_2_236 : decode method_2_code 236 = .ok (.bipush 40, 2) := by decide +kernel
theorem d_method_2_238 : decode method_2_code 238 = .ok (.bipush 97, 2) := by decide +kernel
theorem d_method_2_240 : decode method_2_code 240 = .ok (.castore, 1) := by decide +kernel
theorem d_method_2_241 : decode method_2_code 241 = .ok (.dup, 1) := by decide +kernel
theorem d_method_2_242 : decode method_2_code 242 = .ok (.bipush 41, 2) := by decide +kernel
theorem d_method_2_244 : decode method_2_code 244 = .ok (.bipush 110, 2) := by decide +kernel
theorem d_method_2_246 : decode method_2_code 246 = .ok (.castore, 1) := by decide +kernel
theorem d_method_2_247 : decode method_2_code 247 = .ok (.dup, 1) := by decide +kernel
theorem d_method_2_248 : decode method_2_code 248 = .ok (.bipush 42, 2) := by decide +kernel
theorem d_method_2_250 : decode method_2_code 250 = .ok (.bipush 100, 2) := by decide +kernel
theorem d_method_2_252 : decode method_2_code 252 = .ok (.castore, 1) := by decide +kernel
theorem d_method_2_253 : decode method_2_code 253 = .ok (.dup, 1) := by decide +kernel
theorem d_method_2_254 : decode method_2_code 254 = .ok (.bipush 43, 2) := by decide +kernel
theorem d_method_2_256 : decode method_2_code 256 = .ok (.bipush 32, 2) := by decide +kernel
theorem d_method_2_258 : decode method_2_code 258 = .ok (.castore, 1) := by decide +kernel
theorem d_method_2_259 : decode method_2_code 259 = .ok (.dup, 1) := by decide +kernel
theorem d_method_2_260 : decode method_2_code 260 = .ok (.bipush 44, 2) := by decide +kernel
theorem d_method_2_262 : decode method_2_code 262 = .ok (.iload_n 3, 1) := by decide +kernel
theorem d_method_2_263 : decode method_2_code 263 = .ok (.castore, 1) := by decide +kernel
theorem d_method_2_264 : decode method_2_code 264 = .ok (.dup, 1) := by decide +kernel
theorem d_method_2_265 : decode method_2_code 265 = .ok (.bipush 45, 2) := by decide +kernel
theorem d_method_2_267 : decode method_2_code 267 = .ok (.bipush 59, 2) := by decide +kernel
theorem d_method_2_269 : decode method_2_code 269 = .ok (.castore, 1) := by decide +kernel
theorem d_method_2_270 : decode method_2_code 270 = .ok (.dup, 1) := by decide +kernel
theorem d_method_2_271 : decode method_2_code 271 = .ok (.bipush 46, 2) := by decide +kernel
theorem d_method_2_273 : decode method_2_code 273 = .ok (.bipush 32, 2) := by decide +kernel
theorem d_method_2_275 : decode method_2_code 275 = .ok (.castore, 1) := by decide +kernel
theorem d_method_2_276 : decode method_2_code 276 = .ok (.dup, 1) := by decide +kernel
theorem d_method_2_277 : decode method_2_code 277 = .ok (.bipush 47, 2) := by decide +kernel
theorem d_method_2_279 : decode method_2_code 279 = .ok (.bipush 107, 2) := by decide +kernel
theorem d_method_2_281 : decode method_2_code 281 = .ok (.castore, 1) := by decide +kernel
theorem d_method_2_282 : decode method_2_code 282 = .ok (.dup, 1) := by decide +kernel
theorem d_method_2_283 : decode method_2_code 283 = .ok (.bipush 48, 2) := by decide +kernel
theorem d_method_2_285 : decode method_2_code 285 = .ok (.bipush 101, 2) := by decide +kernel
theorem d_method_2_287 : decode method_2_code 287 = .ok (.castore, 1) := by decide +kernel
theorem d_method_2_288 : decode method_2_code 288 = .ok (.dup, 1) := by decide +kernel
theorem d_method_2_289 : decode method_2_code 289 = .ok (.bipush 49, 2) := by decide +kernel
theorem d_method_2_291 : decode method_2_code 291 = .ok (.bipush 112, 2) := by decide +kernel
theorem d_method_2_293 : decode method_2_code 293 = .ok (.castore, 1) := by decide +kernel
theorem d_method_2_294 : decode method_2_code 294 = .ok (.dup, 1) := by decide +kernel
theorem d_method_2_295 : decode method_2_code 295 = .ok (.bipush 50, 2) := by decide +kernel
theorem d_method_2_297 : decode method_2_code 297 = .ok (.bipush 116, 2) := by decide +kernel
theorem d_method_2_299 : decode method_2_code 299 = .ok (.castore, 1) := by decide +kernel
theorem d_method_2_300 : decode method_2_code 300 = .ok (.dup, 1) := by decide +kernel
theorem d_method_2_301 : decode method_2_code 301 = .ok (.bipush 51, 2) := by decide +kernel
theorem d_method_2_303 : decode method_2_code 303 = .ok (.bipush 32, 2) := by decide +kernel
theorem d_method_2_305 : decode method_2_code 305 = .ok (.castore, 1) := by decide +kernel
theorem d_method_2_306 : decode method_2_code 306 = .ok (.dup, 1) := by decide +kernel
theorem d_method_2_307 : decode method_2_code 307 = .ok (.bipush 52, 2) := by decide +kernel
theorem d_method_2_309 : decode method_2_code 309 = .ok (.iload_n 2, 1) := by decide +kernel
theorem d_method_2_310 : decode method_2_code 310 = .ok (.castore, 1) := by decide +kernel
theorem d_method_2_311 : decode method_2_code 311 = .ok (.astore 4, 2) := by decide +kernel
theorem d_method_2_313 : decode method_2_code 313 = .ok (.new 7, 3) := by decide +kernel
theorem d_method_2_316 : decode method_2_code 316 = .ok (.dup, 1) := by decide +kernel
theorem d_method_2_317 : decode method_2_code 317 = .ok (.aload 4, 2) := by decide +kernel
theorem d_method_2_319 : decode method_2_code 319 = .ok (.invokespecial 9, 3) := by decide +kernel
theorem d_method_2_322 : decode method_2_code 322 = .ok (.areturn, 1) := by decide +kernel
abbrev EL1 : List (String × Nat) := consts_1
theorem wS {Z : State} {a0 : Array Value} (hw : Hw Z a0) : ∀ a ∈ Bundle.stringAtoms, a.before a0 Z = true := by
  intro a ha
  simp only [Bundle.stringAtoms, List.mem_cons, List.not_mem_nil, or_false] at ha
  rcases ha with rfl | rfl | rfl | rfl | rfl | rfl | rfl
  · exact (w2 hw)
  · exact (w10 hw)
  · exact (w14 hw)
  · exact (w23 hw)
  · exact (w25 hw)
  · exact (w76 hw)
  · exact (w77 hw)
theorem el {Z : State} {a0 : Array Value} (hw : Hw Z a0) : EW Z a0 EL1 := (EW.cons (w278 hw) (by decide) (EW.cons (w299 hw) (by decide) (EW.cons (w305 hw) (by decide) (EW.cons (w311 hw) (by decide) (EW.cons (w75 hw) (by decide) EW.nil)))))
theorem L1c {c : Int32} {cs : List Int32} (h : L1 c) (t : ∀ x ∈ cs, L1 x) : ∀ x ∈ c :: cs, L1 x := fun x hx => (List.mem_cons.mp hx).elim (fun e => e ▸ h) (t x)
theorem L1n : ∀ x ∈ ([] : List Int32), L1 x := fun _ h => nomatch h
theorem len_size {Z : State} {args : Array Value} {t : Term} {sd : Addr} {SA : Cell} {n : Int32} (hev : t.eval args Z none [] Z = some (.ref sd)) (harrAt : Z.arrayAt? sd = some SA) (h31 : SA.slots.size < 2147483648) (hlen : (Term.length t).eval args Z none [] Z = some (.int n)) : Int32.ofNat SA.slots.size = n := by
  have e : (Term.length t).eval args Z none [] Z = some (.int (Int32.ofNat SA.slots.size)) := by simp [Term.eval, hev, harrAt, h31]
  simpa using Option.some.inj (e.symm.trans hlen)
/-- ArrayList's default array -/
def DE (Z : State) (de : Addr) (kde : ClassId) : Prop := Sta Z Z.heap "java/util/ArrayList" "DEFAULTCAPACITY_EMPTY_ELEMENTDATA" "[Ljava/lang/Object;" (.ref de) ∧ Arv Z Z.heap de kde (.object "java/lang/Object") 0 [] .null
theorem de_of {Z : State} {args : Array Value} (wl : (Cond.laysStatic "java/util/ArrayList" "DEFAULTCAPACITY_EMPTY_ELEMENTDATA" "[Ljava/lang/Object;").before args Z = true) (wa : (Cond.arrayOf (.static "java/util/ArrayList" "DEFAULTCAPACITY_EMPTY_ELEMENTDATA" "[Ljava/lang/Object;") (.object "java/lang/Object")).before args Z = true) (wn : (Cond.eq (.length (.static "java/util/ArrayList" "DEFAULTCAPACITY_EMPTY_ELEMENTDATA" "[Ljava/lang/Object;")) (.int 0)).before args Z = true) (wz : (Cond.initialized "java/util/ArrayList").before args Z = true) : ∃ de kde, DE Z de kde := by
  have hlen := eqv_i (Term.int_eval 0) (Cond.before_iff.mp wn)
  obtain ⟨sd, SA, hev, harrAt, -⟩ := Term.length_spec hlen
  have h31 := SBG.length_lt hev harrAt hlen
  have hsz : SA.slots.size = 0 := by
    have h2 : Int32.ofNat SA.slots.size = (0 : Int32) := len_size hev harrAt h31 hlen
    have := congrArg Int32.toInt h2
    rw [Int32.toInt_ofNat_small h31] at this
    have e0 : (0 : Int32).toInt = 0 := rfl
    omega
  have hcell := (arrayAt_cell harrAt).1
  have hA := Cond.arrayOf_spec (show (Cond.arrayOf _ _).holds args Z none Z [] = true from wa) hev hcell
  refine ⟨sd, SA.cls, Sta.start hev (Or.inr ⟨wz, wl⟩), SA, ⟨hcell, hA.1, hA.2⟩, rfl, by rw [hsz]; rfl, by decide, fun j hj => ?_, fun j hj => ?_⟩
  · rw [hsz] at hj; exact absurd hj (Nat.not_lt_zero _)
  · rw [hsz] at hj; exact absurd hj (Nat.not_lt_zero _)
def ALE (Z : State) (h : Heap) (l de : Addr) : Prop := Exa Z h l "java/util/ArrayList" ∧ Fld Z h l "java/util/ArrayList" "elementData" "[Ljava/lang/Object;" (.ref de) ∧ Fld Z h l "java/util/ArrayList" "size" "I" (.int 0) ∧ Fld Z h l "java/util/AbstractList" "modCount" "I" (.int 0)
theorem ALE.keep {Z : State} {h h' : Heap} {l de : Addr} {ws : List Addr} (F : ALE Z h l de) (K : Keep h h' ws) (q : l ∉ ws) : ALE Z h' l de := ⟨F.1.keep K, F.2.1.keep K q, F.2.2.1.keep K q, F.2.2.2.keep K q⟩
theorem ALE.lt {Z : State} {h : Heap} {l de : Addr} (F : ALE Z h l de) : l < h.size := F.1.lt
def ALF (Z : State) (h : Heap) (l d : Addr) (kd : ClassId) (n : Int32) (els : List Value) : Prop := Exa Z h l "java/util/ArrayList" ∧ Fld Z h l "java/util/ArrayList" "elementData" "[Ljava/lang/Object;" (.ref d) ∧ Fld Z h l "java/util/ArrayList" "size" "I" (.int n) ∧ Fld Z h l "java/util/AbstractList" "modCount" "I" (.int n) ∧ Arv Z h d kd (.object "java/lang/Object") 10 els .null ∧ Ovr Z kd "java/lang/Object"
theorem ALF.keep {Z : State} {h h' : Heap} {l d : Addr} {kd : ClassId} {n : Int32} {els : List Value} {ws : List Addr} (F : ALF Z h l d kd n els) (K : Keep h h' ws) (q : l ∉ ws) (q' : d ∉ ws) : ALF Z h' l d kd n els := ⟨F.1.keep K, F.2.1.keep K q, F.2.2.1.keep K q, F.2.2.2.1.keep K q, F.2.2.2.2.1.keep K q', F.2.2.2.2.2⟩
theorem ALF.lt {Z : State} {h : Heap} {l d : Addr} {kd : ClassId} {n : Int32} {els : List Value} (F : ALF Z h l d kd n els) : l < h.size := F.1.lt
theorem ALF.ltb {Z : State} {h : Heap} {l d : Addr} {kd : ClassId} {n : Int32} {els : List Value} (F : ALF Z h l d kd n els) : d < h.size := F.2.2.2.2.1.lt
def IT (Z : State) (h : Heap) (it l : Addr) (cur mc : Int32) : Prop := Exa Z h it "java/util/ArrayList$Itr" ∧ Fld Z h it "java/util/ArrayList$Itr" "this$0" "Ljava/util/ArrayList;" (.ref l) ∧ Fld Z h it "java/util/ArrayList$Itr" "cursor" "I" (.int cur) ∧ (∃ lr : Int32, Fld Z h it "java/util/ArrayList$Itr" "lastRet" "I" (.int lr)) ∧ Fld Z h it "java/util/ArrayList$Itr" "expectedModCount" "I" (.int mc)
theorem IT.keep {Z : State} {h h' : Heap} {it l : Addr} {cur mc : Int32} {ws : List Addr} (F : IT Z h it l cur mc) (K : Keep h h' ws) (q : it ∉ ws) : IT Z h' it l cur mc := by
  obtain ⟨a, b, c, ⟨r, d⟩, e⟩ := F
  exact ⟨a.keep K, b.keep K q, c.keep K q, ⟨r, d.keep K q⟩, e.keep K q⟩
theorem IT.lt {Z : State} {h : Heap} {it l : Addr} {cur mc : Int32} (F : IT Z h it l cur mc) : it < h.size := F.1.lt
def DRB (Z : State) (h : Heap) (o : Addr) (c k d : Int32) : Prop := ∃ (a1 b1 : Addr) (k1 : ClassId) (a2 b2 : Addr) (k2 : ClassId) (a3 b3 : Addr) (k3 : ClassId), Exa Z h o "com/example/tiebreak/tiebreak/core/DuplicateRegistration" ∧
  (Fld Z h o "com/example/tiebreak/tiebreak/core/DuplicateRegistration" "filterClass" "Ljava/lang/String;" (.ref a1) ∧ LatB Z h a1 b1 k1 [c]) ∧ (Fld Z h o "com/example/tiebreak/tiebreak/core/DuplicateRegistration" "kept" "Ljava/lang/String;" (.ref a2) ∧ LatB Z h a2 b2 k2 [k]) ∧ (Fld Z h o "com/example/tiebreak/tiebreak/core/DuplicateRegistration" "dropped" "Ljava/lang/String;" (.ref a3) ∧ LatB Z h a3 b3 k3 [d])
set_option maxRecDepth 65536 in
set_option maxHeartbeats 40000000 in
theorem lp_compress {p : Program} {l : Launch} {e : Env} {R : Room} {s : State} {m : MethodId} {args : Array Value} {below : List Frame} {meth : Method} {c : Code} {Z : State} {a0 : Array Value} (hw : Hw Z a0) {n0 : Nat} {cells slots : Nat} (hc : cells ≤ R.cells) (hl : slots ≤ R.slots) {a d : Addr} {ka kd : ClassId} {cs : List Int32} {n : Nat} (hn : cs.length = n) (hbig : n < 2147483648) {hh : Heap} (hne : a ≠ d) : ∀ (r i : Nat), i + r = n → ∀ (T : State) (vm : Vm) (h : Heap) (o : Slot), One o → (∀ c ∈ cs.take i, ¬ 255 < c) → Wk p l e R s m args below meth c Z a0 EL1 n0 "java/lang/StringUTF16" "compress" jdk_52_method_21_code 7 (some .int) T vm h cells slots → Arv Z h a ka .char (Int32.ofNat n) (cs.map cv) (.int 0) → Arv Z h d kd .byte (Int32.ofNat n) ((cs.take i).map bv ++ List.replicate (n - i) (.int 0)) (.int 0) → Mine Z EL1 n0 vm h d → Keep hh h [d] → Go p e below s R Z EL1 n0 (fun v vm' h' => ∃ k, k ≤ n ∧ v = some (.int (Int32.ofNat k)) ∧ (∀ c ∈ cs.take k, ¬ 255 < c) ∧ (k < n → 255 < cs.getD k 0) ∧ Keep hh h' [d] ∧ Arv Z h' d kd .byte (Int32.ofNat n) ((cs.take k).map bv ++ List.replicate (n - k) (.int 0)) (.int 0)) (T.setTop (mkF m 3 #[rv a, iv (Int32.ofNat i), rv d, iv (Int32.ofNat i), iv (Int32.ofNat n), iv (Int32.ofNat i), o] [])) := by
  intro r
  induction r with
  | zero =>
    intro i hi T vm h o ho hle W A D M K
    obtain rfl : i = n := by omega
    refine s_iload (pc' := 5) W d_jdk_52_method_21_3 rfl rfl ?_
    refine s_iload (pc' := 7) W d_jdk_52_method_21_5 rfl rfl ?_
    refine s_icmpge (pc' := 10) (pcT := 44) W d_jdk_52_method_21_7 (by decide) rfl rfl (fun _ => ?_) (fun hq => absurd hq (n_ge (Nat.le_refl _) hbig))
    refine s_iload (pc' := 46) W d_jdk_52_method_21_44 rfl rfl ?_
    refine s_ireturn W rfl d_jdk_52_method_21_46 hc hl ?_
    intro vm' C'
    exact ⟨i, Nat.le_refl _, rfl, hle, fun q => absurd q (Nat.lt_irrefl _), K, D⟩
  | succ r ih =>
    intro i hi T vm h o ho hle W A D M K
    have hin : i < n := by omega
    have hi31 : i < 2147483648 := by omega
    refine s_iload (pc' := 5) W d_jdk_52_method_21_3 rfl rfl ?_
    refine s_iload (pc' := 7) W d_jdk_52_method_21_5 rfl rfl ?_
    refine s_icmpge (pc' := 10) (pcT := 44) W d_jdk_52_method_21_7 (by decide) rfl rfl (fun hq => absurd (n_lt hin hbig) hq) (fun _ => ?_)
    refine s_aload_n (pc' := 11) W d_jdk_52_method_21_10 rfl rfl rfl ?_
    refine s_iload_n (pc' := 12) W d_jdk_52_method_21_11 rfl rfl ?_
    refine s_caload (pc' := 13) W (.int (cs.getD i 0)) A (n_nn hi31) (n_lt hin hbig) (by rw [n_clamp hi31]; exact cv_getD cs i) d_jdk_52_method_21_12 rfl ?_
    refine s_istore (pc' := 15) W #[rv a, iv (Int32.ofNat i), rv d, iv (Int32.ofNat i), iv (Int32.ofNat n), iv (Int32.ofNat i), iv (cs.getD i 0)] d_jdk_52_method_21_13 (Jvm.Free.XS.store1 (i := 6) rfl ho rfl) rfl ?_
    refine s_iload (pc' := 17) W d_jdk_52_method_21_15 rfl rfl ?_
    refine s_sipush (pc' := 20) W (255 : Int32) d_jdk_52_method_21_17 rfl rfl ?_
    refine s_icmple (pc' := 23) (pcT := 26) W d_jdk_52_method_21_20 (by decide) rfl rfl (fun hx => ?_) (fun hx => ?_)
    · refine s_aload_n (pc' := 27) W d_jdk_52_method_21_26 rfl rfl rfl ?_
      refine s_iload_n (pc' := 28) W d_jdk_52_method_21_27 rfl rfl ?_
      refine s_iload (pc' := 30) W d_jdk_52_method_21_28 rfl rfl ?_
      refine s_i2b (pc' := 31) W d_jdk_52_method_21_30 rfl ?_
      refine s_bastore (pc' := 32) W i D M (n_clamp hi31) (n_nn hi31) (n_lt hin hbig) (by rw [len_mid hn (Nat.le_of_lt hin)]; exact hin) d_jdk_52_method_21_31 rfl ?_
      intro T h W K1 C1 Vn1
      replace A := A.keep K1 (ninS hne nin0)
      replace M := M.mv C1
      have D := Vn1
      clear Vn1
      replace K := K.trans K1 (fun x hx => Or.inl hx)
      rw [bb, set_step hn hin (x := .int (cs.getD i 0).toInt8.toInt32) rfl] at D
      refine s_iinc (pc' := 35) W (1 : Int32) #[rv a, iv ((Int32.ofNat i) + (1 : Int32)), rv d, iv (Int32.ofNat i), iv (Int32.ofNat n), iv (Int32.ofNat i), iv (cs.getD i 0)] d_jdk_52_method_21_32 rfl rfl rfl rfl ?_
      refine s_iinc (pc' := 38) W (1 : Int32) #[rv a, iv ((Int32.ofNat i) + (1 : Int32)), rv d, iv ((Int32.ofNat i) + (1 : Int32)), iv (Int32.ofNat n), iv (Int32.ofNat i), iv (cs.getD i 0)] d_jdk_52_method_21_35 rfl rfl rfl rfl ?_
      refine s_iinc (pc' := 41) W (1 : Int32) #[rv a, iv ((Int32.ofNat i) + (1 : Int32)), rv d, iv ((Int32.ofNat i) + (1 : Int32)), iv (Int32.ofNat n), iv ((Int32.ofNat i) + (1 : Int32)), iv (cs.getD i 0)] d_jdk_52_method_21_38 rfl rfl rfl rfl ?_
      refine s_goto (pc' := 3) W d_jdk_52_method_21_41 (by decide) rfl ?_
      simp only [n_succ]
      exact ih (i + 1) (by omega) T _ h _ (One.val rfl) (mem_take_succ (by omega) hle hx) W A D M K
    · refine s_iload (pc' := 25) W d_jdk_52_method_21_23 rfl rfl ?_
      refine s_ireturn W rfl d_jdk_52_method_21_25 hc hl ?_
      intro vm' C'
      exact ⟨i, Nat.le_of_lt hin, rfl, hle, fun _ => hx, K, D⟩
set_option maxRecDepth 65536 in
set_option maxHeartbeats 40000000 in
theorem ef_compress5 (m : MethodId) (x0 : Addr) (x1 : Int32) (x2 : Addr) (x3 : Int32) (x4 : Int32) : entryFrame m #[(.ref x0), (.int x1), (.ref x2), (.int x3), (.int x4)] 7 = mkF m 0 #[.val (.ref x0), .val (.int x1), .val (.ref x2), .val (.int x3), .val (.int x4), .unset, .unset] [] := by first | (simp [entryFrame, mkF, argsToLocals, Value.category]; done) | rfl
set_option maxRecDepth 65536 in
set_option maxHeartbeats 40000000 in
theorem c_compress5 (l : Launch) {Z : State} {a0 : Array Value} (hw : Hw Z a0) {n0 : Nat} {h : Heap} (O : Old Z n0 h) {a d : Nat} {ka kd : ClassId} {cs : List Int32} {n : Nat} (hn : cs.length = n) (hbig : n < 2147483648) (hne : a ≠ d) (A : Arv Z h a ka .char (Int32.ofNat n) (cs.map cv) (.int 0)) (D : Arv Z h d kd .byte (Int32.ofNat n) (List.replicate n (.int 0)) (.int 0)) (M0 : n0 ≤ d) (Md : d < h.size) :
    Con l Z EL1 n0 (⟨"java/lang/StringUTF16", "compress", "([CI[BII)I"⟩ : MethodName) jdk_52_method_21_code 7 (some .int) [] ({ frames := 0, cells := 0, slots := 0, locals := 0 } : Room) #[(.ref a), (.int (0 : Int32)), (.ref d), (.int (0 : Int32)), (.int (Int32.ofNat n))] h [d] (fun v vm' h' => ∃ k, k ≤ n ∧ v = some (.int (Int32.ofNat k)) ∧ (∀ c ∈ cs.take k, ¬ 255 < c) ∧ (k < n → 255 < cs.getD k 0) ∧ Keep h h' [d] ∧ Arv Z h' d kd .byte (Int32.ofNat n) ((cs.take k).map bv ++ List.replicate (n - k) (.int 0)) (.int 0)) := by
  refine Con.of pn0 O (el hw) ?_
  intro pg_ e s m below meth cd_ T W hs_ hSf
  rw [ef_compress5]
  refine s_iconst (pc' := 1) W (0 : Int32) d_jdk_52_method_21_0 rfl rfl ?_
  refine s_istore (pc' := 3) W #[rv a, iv (0 : Int32), rv d, iv (0 : Int32), iv (Int32.ofNat n), iv (0 : Int32), .unset] d_jdk_52_method_21_1 rfl rfl ?_
  have Qs := lp_compress (e := e) (R := ({ frames := 0, cells := 0, slots := 0, locals := 0 } : Room)) hw (Nat.le_refl _) (Nat.le_refl _) (cs := cs) (n := n) hn hbig (hh := h) hne n 0 (Nat.zero_add n) T s.vm h .unset One.u (fun c hc => by simp at hc) W A (by simpa using D) ⟨M0, Md, hSf d (by simp)⟩ (Keep.refl _ _)
  exact Qs
set_option maxRecDepth 65536 in
set_option maxHeartbeats 40000000 in
theorem ef_compress3 (m : MethodId) (x0 : Addr) (x1 : Int32) (x2 : Int32) : entryFrame m #[(.ref x0), (.int x1), (.int x2)] 6 = mkF m 0 #[.val (.ref x0), .val (.int x1), .val (.int x2), .unset, .unset, .unset] [] := by first | (simp [entryFrame, mkF, argsToLocals, Value.category]; done) | rfl
set_option maxRecDepth 65536 in
set_option maxHeartbeats 40000000 in
theorem c_compress3 (l : Launch) {Z : State} {a0 : Array Value} (hw : Hw Z a0) {n0 : Nat} {h : Heap} (O : Old Z n0 h) {a : Nat} {ka : ClassId} {cs : List Int32} {n : Nat} (hn : cs.length = n) (hbig : n ≤ 4096) (hL : ∀ c ∈ cs, L1 c) (A : Arv Z h a ka .char (Int32.ofNat n) (cs.map cv) (.int 0)) :
    Con l Z EL1 n0 (⟨"java/lang/StringUTF16", "compress", "([CII)[B"⟩ : MethodName) jdk_52_method_16_code 6 (some (.array .byte)) [] ({ frames := 1, cells := 1, slots := n, locals := 18 } : Room) #[(.ref a), (.int (0 : Int32)), (.int (Int32.ofNat n))] h [] (fun v vm' h' => ∃ b kb, v = some (.ref b) ∧ Keep h h' [] ∧ Arv Z h' b kb .byte (Int32.ofNat n) (cs.map bv) (.int 0) ∧ h.size ≤ b) := by
  refine Con.of pn1 O (el hw) ?_
  intro pg_ e s m below meth cd_ T W hs_ hSf
  rw [ef_compress3]
  have hn31 : n < 2147483648 := by omega
  refine s_iload_n (pc' := 1) W d_jdk_52_method_16_0 rfl rfl ?_
  refine s_newarr (pc' := 3) W (aty := .byte) n "[B" (by decide) (w14 hw) d_jdk_52_method_16_1 (n_nn hn31) (by rw [n_clamp hn31]; exact Nat.le_refl _) (by omega) (by (try dsimp only) <;> omega) (by (try dsimp only) <;> omega) rfl ?_
  intro b T h k_b g_b
  have ne_a_b : @Ne Nat a b := by have := nlt A.lt; omega
  intro W K1 C1 M_b V_b X_b
  replace A := A.keep K1 nin0
  have V_b : Arv Z h b k_b .byte (Int32.ofNat n) (List.replicate n (.int 0)) (.int 0) := by have q := V_b; rw [n_clamp hn31] at q; exact q
  have K0 := K1
  refine s_astore_n (pc' := 4) W #[rv a, iv (0 : Int32), iv (Int32.ofNat n), rv b, .unset, .unset] d_jdk_52_method_16_3 rfl rfl rfl ?_
  refine s_aload_n (pc' := 5) W d_jdk_52_method_16_4 rfl rfl rfl ?_
  refine s_iload_n (pc' := 6) W d_jdk_52_method_16_5 rfl rfl ?_
  refine s_aload_n (pc' := 7) W d_jdk_52_method_16_6 rfl rfl rfl ?_
  refine s_iconst (pc' := 8) W (0 : Int32) d_jdk_52_method_16_7 rfl rfl ?_
  refine s_iload_n (pc' := 9) W d_jdk_52_method_16_8 rfl rfl ?_
  refine s_static (pc' := 12) W (w330 hw) (w331 hw) (w328 hw) (w332 hw) (by decide) pd0 [(.ref a), (.int (0 : Int32)), (.ref b), (.int (0 : Int32)), (.int (Int32.ofNat n))] rfl (c_compress5 l hw W.old hn hn31 ne_a_b A V_b M_b.1 M_b.2.1) (allS ⟨M_b.2.1, M_b.2.2⟩ all0) rfl d_jdk_52_method_16_9 0 (le rfl) (bl rfl) (bl rfl) (by (try dsimp only) <;> omega) (by (try dsimp only) <;> omega) rfl ?_
  rintro _ T vm h W C2 ⟨k, hk, rfl, hle, hgt, K2, Vn⟩
  replace A := A.keep K2 (ninS ne_a_b nin0)
  replace M_b := M_b.mv C2
  replace X_b := X_b.keep K2
  obtain rfl : k = n := by
      rcases Nat.lt_or_ge k n with q | q
      · exact absurd (hgt q) (hL _ (mem_getD (by omega))).2
      · omega
  refine s_istore (pc' := 14) W #[rv a, iv (0 : Int32), iv (Int32.ofNat k), rv b, iv (Int32.ofNat k), .unset] d_jdk_52_method_16_12 rfl rfl ?_
  refine s_iload (pc' := 16) W d_jdk_52_method_16_14 rfl rfl ?_
  refine s_iload_n (pc' := 17) W d_jdk_52_method_16_16 rfl rfl ?_
  refine s_icmpeq (pc' := 20) (pcT := 57) W d_jdk_52_method_16_17 (by decide) rfl rfl (fun _ => ?_) (fun hq => absurd (rfl : (Int32.ofNat k) = Int32.ofNat k) hq)
  refine s_aload_n (pc' := 58) W d_jdk_52_method_16_57 rfl rfl rfl ?_
  refine s_areturn W rfl rfl rfl d_jdk_52_method_16_58 (by (try dsimp only) <;> omega) (by (try dsimp only) <;> omega) ?_
  intro vm' C'
  exact ⟨b, k_b, rfl, K0.trans K2 (fun x hx => Or.inr (by cases List.mem_singleton.mp hx; omega)), by simpa [List.take_of_length_le (Nat.le_of_eq hn)] using Vn, by omega⟩
set_option maxRecDepth 65536 in
set_option maxHeartbeats 40000000 in
theorem ef_coderfrom (m : MethodId) (x0 : Addr) (x1 : Int32) : entryFrame m #[(.ref x0), (.int x1)] 2 = mkF m 0 #[.val (.ref x0), .val (.int x1)] [] := by first | (simp [entryFrame, mkF, argsToLocals, Value.category]; done) | rfl
set_option maxRecDepth 65536 in
set_option maxHeartbeats 40000000 in
theorem c_coderfrom (l : Launch) {Z : State} {a0 : Array Value} (hw : Hw Z a0) {n0 : Nat} {h : Heap} (O : Old Z n0 h) {a : Nat} {ka : ClassId} {z : Int32} {vs : List Value} {dv : Value} (A : Arv Z h a ka .byte z vs dv) :
    Con l Z EL1 n0 (⟨"java/lang/StringUTF16", "coderFromArrayLen", "([BI)B"⟩ : MethodName) jdk_52_method_15_code 2 (some .byte) [] ({ frames := 0, cells := 0, slots := 0, locals := 0 } : Room) #[(.ref a), (.int z)] h [] (fun v vm' h' => v = some (.int 0) ∧ h = h') := by
  refine Con.of pn2 O (el hw) ?_
  intro pg_ e s m below meth cd_ T W hs_ hSf
  rw [ef_coderfrom]
  refine s_iload_n (pc' := 1) W d_jdk_52_method_15_0 rfl rfl ?_
  refine s_aload_n (pc' := 2) W d_jdk_52_method_15_1 rfl rfl rfl ?_
  refine s_alen (pc' := 3) W A d_jdk_52_method_15_2 rfl ?_
  refine s_isub (pc' := 4) W d_jdk_52_method_15_3 rfl ?_
  refine s_bipush (pc' := 6) W (31 : Int32) d_jdk_52_method_15_4 rfl rfl ?_
  refine s_iushr (pc' := 7) W d_jdk_52_method_15_6 rfl ?_
  refine s_i2b (pc' := 8) W d_jdk_52_method_15_7 rfl ?_
  refine s_nreturn W (t := .byte) rfl (by simp) d_jdk_52_method_15_8 (bl rfl) (bl rfl) ?_
  intro vm' C'
  exact ⟨by rw [sub_self32]; rfl, rfl⟩
set_option maxRecDepth 65536 in
set_option maxHeartbeats 40000000 in
theorem ef_strinit4 (m : MethodId) (x0 : Addr) (x1 : Addr) (x2 : Int32) (x3 : Int32) : entryFrame m #[(.ref x0), (.ref x1), (.int x2), (.int x3), .null] 6 = mkF m 0 #[.val (.ref x0), .val (.ref x1), .val (.int x2), .val (.int x3), .val .null, .unset] [] := by first | (simp [entryFrame, mkF, argsToLocals, Value.category]; done) | rfl
set_option maxRecDepth 65536 in
set_option maxHeartbeats 40000000 in
theorem c_strinit4 (l : Launch) {Z : State} {a0 : Array Value} (hw : Hw Z a0) {n0 : Nat} {h : Heap} (O : Old Z n0 h) {a : Nat} {cs : List Int32} {n : Nat} (CS0 : CS Z) (hn : cs.length = n) (hbig : n ≤ 4096) (hL : ∀ c ∈ cs, L1 c) (E : Exa Z h a "java/lang/String") (M0 : n0 ≤ a) (Ma : a < h.size) (Fc : Fld Z h a "java/lang/String" "coder" "B" (.int 0)) (Fv : Fld Z h a "java/lang/String" "value" "[B" .null) {d : Nat} {kd : ClassId} (A : Arv Z h d kd .char (Int32.ofNat n) (cs.map cv) (.int 0)) (hpos : 0 < n) :
    Con l Z EL1 n0 (⟨"java/lang/String", "<init>", "([CIILjava/lang/Void;)V"⟩ : MethodName) jdk_42_method_149_code 6 none [] ({ frames := 2, cells := 1, slots := n, locals := 35 } : Room) #[(.ref a), (.ref d), (.int (0 : Int32)), (.int (Int32.ofNat n)), .null] h [a] (fun v vm' h' => v = none ∧ Keep h h' [a] ∧ ∃ b kb, LatB Z h' a b kb cs) := by
  refine Con.of pn3 O (el hw) ?_
  intro pg_ e s m below meth cd_ T W hs_ hSf
  rw [ef_strinit4]
  have M : Mine Z EL1 n0 s.vm h a := ⟨M0, Ma, hSf a (by simp)⟩
  refine s_aload_n (pc' := 1) W d_jdk_42_method_149_0 rfl rfl rfl ?_
  refine s_objinit (pc' := 4) W (w19 hw) (w20 hw) (w21 hw) rfl d_jdk_42_method_149_1 0 (le rfl) (bl rfl) (bl rfl) rfl ?_
  intro T W
  refine s_iload_n (pc' := 5) W d_jdk_42_method_149_4 rfl rfl ?_
  refine s_ifne (pc' := 8) (pcT := 27) W d_jdk_42_method_149_5 (by decide) rfl rfl (fun _ => ?_) (fun hq => absurd hq (fun q => by have := n_inj (j := 0) (by omega) (by omega) q; omega))
  obtain ⟨vc, Sc, hvc⟩ := CS0
  refine s_gets (pc' := 30) W (w4 hw) Via.refl Sc d_jdk_42_method_149_27 rfl ?_
  intro T W
  refine s_ifeq (pc' := 33) (pcT := 58) W d_jdk_42_method_149_30 (by decide) rfl rfl (fun hq => absurd hq hvc) (fun _ => ?_)
  refine s_aload_n (pc' := 34) W d_jdk_42_method_149_33 rfl rfl rfl ?_
  refine s_iload_n (pc' := 35) W d_jdk_42_method_149_34 rfl rfl ?_
  refine s_iload_n (pc' := 36) W d_jdk_42_method_149_35 rfl rfl ?_
  refine s_static (pc' := 39) W (w326 hw) (w327 hw) (w328 hw) (w329 hw) (by decide) pd1 [(.ref d), (.int (0 : Int32)), (.int (Int32.ofNat n))] rfl (c_compress3 l hw W.old hn hbig hL A) all0 rfl d_jdk_42_method_149_36 0 (le rfl) (bl rfl) (bl rfl) (by (try dsimp only) <;> omega) (by (try dsimp only) <;> omega) rfl ?_
  rintro _ T vm h W C1 ⟨b, kb, rfl, K1, V_b, hb⟩
  replace E := E.keep K1
  replace Fc := Fc.keep K1 nin0
  replace Fv := Fv.keep K1 nin0
  replace M := M.mv C1
  replace A := A.keep K1 nin0
  have Kt := K1
  have nab : @Ne Nat a b := by omega
  refine s_astore (pc' := 41) W #[rv a, rv d, iv (0 : Int32), iv (Int32.ofNat n), .val .null, rv b] d_jdk_42_method_149_39 rfl rfl rfl ?_
  refine s_aload_n (pc' := 42) W d_jdk_42_method_149_41 rfl rfl rfl ?_
  refine s_aload (pc' := 44) W d_jdk_42_method_149_42 rfl rfl rfl ?_
  refine s_iload_n (pc' := 45) W d_jdk_42_method_149_44 rfl rfl ?_
  refine s_static (pc' := 48) W (w333 hw) (w334 hw) (w328 hw) (w335 hw) (by decide) pd2 [(.ref b), (.int (Int32.ofNat n))] rfl (c_coderfrom l hw W.old V_b) all0 rfl d_jdk_42_method_149_45 1 (le rfl) (bl rfl) (bl rfl) (by (try dsimp only) <;> omega) (by (try dsimp only) <;> omega) rfl ?_
  rintro _ T vm _ W C2 ⟨rfl, rfl⟩
  replace M := M.mv C2
  refine s_putfn (pc' := 51) W (w24 hw) Via.refl Fc E M (Or.inr ⟨(w25 hw), rfl, rfl⟩) (w10 hw) (ty := .byte) (v' := .int 0) (by decide) rfl rfl d_jdk_42_method_149_48 rfl ?_
  intro T h W K3 C3 Wr3 Fn3
  replace Fv := Fv.other Wr3 (Or.inr (slot_ne (Or.inr (w23 hw)) (Or.inr (w25 hw)) (by decide) (by decide : parseFieldDescriptor "[B" = some (.array .byte)) (by decide : parseFieldDescriptor "B" = some .byte)))
  replace E := E.keep K3
  replace M := M.mv C3
  replace V_b := V_b.keep K3 (ninS (Ne.symm nab) nin0)
  have Fc := Fn3
  clear Fn3
  replace Kt := ((Keep.refl _ [a]).trans Kt all0).trans K3 (fun x hx => Or.inl hx)
  refine s_aload_n (pc' := 52) W d_jdk_42_method_149_51 rfl rfl rfl ?_
  refine s_aload (pc' := 54) W d_jdk_42_method_149_52 rfl rfl rfl ?_
  refine s_putf (pc' := 57) W (w22 hw) Via.refl Fv E M (Or.inr ⟨(w23 hw), rfl, rfl⟩) (w10 hw) (ty := (.array .byte)) (by decide) rfl rfl d_jdk_42_method_149_54 rfl ?_
  intro T h W K4 C4 Wr4 Fn4
  replace Fc := Fc.other Wr4 (Or.inr (slot_ne (Or.inr (w25 hw)) (Or.inr (w23 hw)) (by decide) (by decide : parseFieldDescriptor "B" = some .byte) (by decide : parseFieldDescriptor "[B" = some (.array .byte))))
  replace E := E.keep K4
  replace M := M.mv C4
  replace V_b := V_b.keep K4 (ninS (Ne.symm nab) nin0)
  have Fv := Fn4
  clear Fn4
  replace Kt := Kt.trans K4 (fun x hx => Or.inl hx)
  refine s_ret W rfl d_jdk_42_method_149_57 (by (try dsimp only) <;> omega) (by (try dsimp only) <;> omega) ?_
  intro vm' C'
  exact ⟨rfl, Kt, b, kb, E, Fc, Fv, by rw [hn]; exact V_b, hL, by omega⟩
set_option maxRecDepth 65536 in
set_option maxHeartbeats 40000000 in
theorem ef_strinit (m : MethodId) (x0 : Addr) (x1 : Addr) : entryFrame m #[(.ref x0), (.ref x1)] 2 = mkF m 0 #[.val (.ref x0), .val (.ref x1)] [] := by first | (simp [entryFrame, mkF, argsToLocals, Value.category]; done) | rfl
set_option maxRecDepth 65536 in
set_option maxHeartbeats 40000000 in
theorem c_strinit (l : Launch) {Z : State} {a0 : Array Value} (hw : Hw Z a0) {n0 : Nat} {h : Heap} (O : Old Z n0 h) {a : Nat} {cs : List Int32} {n : Nat} (CS0 : CS Z) (hn : cs.length = n) (hbig : n ≤ 4096) (hL : ∀ c ∈ cs, L1 c) (E : Exa Z h a "java/lang/String") (M0 : n0 ≤ a) (Ma : a < h.size) (Fc : Fld Z h a "java/lang/String" "coder" "B" (.int 0)) (Fv : Fld Z h a "java/lang/String" "value" "[B" .null) {d : Nat} {kd : ClassId} (A : Arv Z h d kd .char (Int32.ofNat n) (cs.map cv) (.int 0)) (hpos : 0 < n) :
    Con l Z EL1 n0 (⟨"java/lang/String", "<init>", "([C)V"⟩ : MethodName) jdk_42_method_3_code 2 none [] ({ frames := 3, cells := 1, slots := n, locals := 52 } : Room) #[(.ref a), (.ref d)] h [a] (fun v vm' h' => v = none ∧ Keep h h' [a] ∧ ∃ b kb, LatB Z h' a b kb cs) := by
  refine Con.of pn4 O (el hw) ?_
  intro pg_ e s m below meth cd_ T W hs_ hSf
  rw [ef_strinit]
  have Sa := hSf a (by simp)
  refine s_aload_n (pc' := 1) W d_jdk_42_method_3_0 rfl rfl rfl ?_
  refine s_aload_n (pc' := 2) W d_jdk_42_method_3_1 rfl rfl rfl ?_
  refine s_iconst (pc' := 3) W (0 : Int32) d_jdk_42_method_3_2 rfl rfl ?_
  refine s_aload_n (pc' := 4) W d_jdk_42_method_3_3 rfl rfl rfl ?_
  refine s_alen (pc' := 5) W A d_jdk_42_method_3_4 rfl ?_
  refine s_aconst_null (pc' := 6) W d_jdk_42_method_3_5 rfl ?_
  refine s_init (pc' := 9) W rfl (w323 hw) (w324 hw) (w2 hw) (w325 hw) (by decide) pd3 [(.ref d), (.int (0 : Int32)), (.int (Int32.ofNat n)), .null] rfl (c_strinit4 l hw W.old CS0 hn hbig hL E M0 Ma Fc Fv A hpos) (allS ⟨Ma, Sa⟩ all0) rfl d_jdk_42_method_3_6 0 (le rfl) (bl rfl) (bl rfl) (by (try dsimp only) <;> omega) (by (try dsimp only) <;> omega) rfl ?_
  rintro _ T vm h W C1 ⟨rfl, K1, L⟩
  refine s_ret W rfl d_jdk_42_method_3_9 (by (try dsimp only) <;> omega) (by (try dsimp only) <;> omega) ?_
  intro vm' C'
  exact ⟨rfl, K1, L⟩
set_option maxRecDepth 65536 in
set_option maxHeartbeats 40000000 in
theorem ef_strcoder (m : MethodId) (x0 : Addr) : entryFrame m #[(.ref x0)] 1 = mkF m 0 #[.val (.ref x0)] [] := by first | (simp [entryFrame, mkF, argsToLocals, Value.category]; done) | rfl
set_option maxRecDepth 65536 in
set_option maxHeartbeats 40000000 in
theorem c_strcoder (l : Launch) {Z : State} {a0 : Array Value} (hw : Hw Z a0) {n0 : Nat} {h : Heap} (O : Old Z n0 h) (CS0 : CS Z) {a b : Nat} {kb : ClassId} {cs : List Int32} (F : LatB Z h a b kb cs) :
    Con l Z EL1 n0 (⟨"java/lang/String", "coder", "()B"⟩ : MethodName) jdk_42_method_152_code 1 (some .byte) [] ({ frames := 0, cells := 0, slots := 0, locals := 0 } : Room) #[(.ref a)] h [] (fun v vm' h' => v = some (.int 0) ∧ h = h') := by
  refine Con.of pn5 O (el hw) ?_
  intro pg_ e s m below meth cd_ T W hs_ hSf
  rw [ef_strcoder]
  obtain ⟨vc, Sc, hvc⟩ := CS0
  refine s_gets (pc' := 3) W (w4 hw) Via.refl Sc d_jdk_42_method_152_0 rfl ?_
  intro T W
  refine s_ifeq (pc' := 6) (pcT := 13) W d_jdk_42_method_152_3 (by decide) rfl rfl (fun hq => absurd hq hvc) (fun _ => ?_)
  refine s_aload_n (pc' := 7) W d_jdk_42_method_152_6 rfl rfl rfl ?_
  refine s_getf (pc' := 10) W (w24 hw) Via.refl F.2.1 d_jdk_42_method_152_7 rfl ?_
  intro T W
  refine s_goto (pc' := 14) W d_jdk_42_method_152_10 (by decide) rfl ?_
  refine s_nreturn W (t := .byte) rfl (by simp) d_jdk_42_method_152_14 (bl rfl) (bl rfl) ?_
  intro vm' C'
  exact ⟨rfl, rfl⟩
set_option maxRecDepth 65536 in
set_option maxHeartbeats 40000000 in
theorem ef_strlength (m : MethodId) (x0 : Addr) : entryFrame m #[(.ref x0)] 1 = mkF m 0 #[.val (.ref x0)] [] := by first | (simp [entryFrame, mkF, argsToLocals, Value.category]; done) | rfl
set_option maxRecDepth 65536 in
set_option maxHeartbeats 40000000 in
theorem c_strlength (l : Launch) {Z : State} {a0 : Array Value} (hw : Hw Z a0) {n0 : Nat} {h : Heap} (O : Old Z n0 h) (CS0 : CS Z) {a b : Nat} {kb : ClassId} {cs : List Int32} (F : LatB Z h a b kb cs) :
    Con l Z EL1 n0 (⟨"java/lang/String", "length", "()I"⟩ : MethodName) jdk_42_method_54_code 1 (some .int) [] ({ frames := 1, cells := 0, slots := 0, locals := 13 } : Room) #[(.ref a)] h [] (fun v vm' h' => v = some (.int (Int32.ofNat cs.length)) ∧ h = h') := by
  refine Con.of pn6 O (el hw) ?_
  intro pg_ e s m below meth cd_ T W hs_ hSf
  rw [ef_strlength]
  refine s_aload_n (pc' := 1) W d_jdk_42_method_54_0 rfl rfl rfl ?_
  refine s_getf (pc' := 4) W (w22 hw) Via.refl F.2.2.1 d_jdk_42_method_54_1 rfl ?_
  intro T W
  refine s_alen (pc' := 5) W F.2.2.2.1 d_jdk_42_method_54_4 rfl ?_
  refine s_aload_n (pc' := 6) W d_jdk_42_method_54_5 rfl rfl rfl ?_
  refine s_virt (pc' := 9) W (C0 := "java/lang/String") (w93 hw) (w94 hw) (w96 hw) (w95 hw) (w2 hw) (w97 hw) (notFace_of_selects (args := a0) (w96 hw)) (by decide) pd4 [] rfl F.1 (c_strcoder l hw W.old CS0 F) all0 rfl d_jdk_42_method_54_6 1 (le rfl) (bl rfl) (bl rfl) (bl rfl) (bl rfl) rfl ?_
  rintro _ T vm _ W C1 ⟨rfl, rfl⟩
  refine s_ishr (pc' := 10) W d_jdk_42_method_54_9 rfl ?_
  refine s_ireturn W rfl d_jdk_42_method_54_10 (bl rfl) (bl rfl) ?_
  intro vm' C'
  exact ⟨by rw [shr0], rfl⟩
set_option maxRecDepth 65536 in
set_option maxHeartbeats 40000000 in
theorem ef_mathmin (m : MethodId) (x0 : Int32) (x1 : Int32) : entryFrame m #[(.int x0), (.int x1)] 2 = mkF m 0 #[.val (.int x0), .val (.int x1)] [] := by first | (simp [entryFrame, mkF, argsToLocals, Value.category]; done) | rfl
set_option maxRecDepth 65536 in
set_option maxHeartbeats 40000000 in
theorem c_mathmin (l : Launch) {Z : State} {a0 : Array Value} (hw : Hw Z a0) {n0 : Nat} {h : Heap} (O : Old Z n0 h) {x y : Int32} :
    Con l Z EL1 n0 (⟨"java/lang/Math", "min", "(II)I"⟩ : MethodName) jdk_29_method_69_code 2 (some .int) [] ({ frames := 0, cells := 0, slots := 0, locals := 0 } : Room) #[(.int x), (.int y)] h [] (fun v vm' h' => v = some (.int (if y < x then y else x)) ∧ h = h') := by
  refine Con.of pn7 O (el hw) ?_
  intro pg_ e s m below meth cd_ T W hs_ hSf
  rw [ef_mathmin]
  refine s_iload_n (pc' := 1) W d_jdk_29_method_69_0 rfl rfl ?_
  refine s_iload_n (pc' := 2) W d_jdk_29_method_69_1 rfl rfl ?_
  refine s_icmpgt (pc' := 5) (pcT := 9) W d_jdk_29_method_69_2 (by decide) rfl rfl (fun hq => ?_) (fun hq => ?_)
  · refine s_iload_n (pc' := 10) W d_jdk_29_method_69_9 rfl rfl ?_
    refine s_ireturn W rfl d_jdk_29_method_69_10 (bl rfl) (bl rfl) ?_
    intro vm' C'
    exact ⟨by rw [if_pos hq], rfl⟩
  · refine s_iload_n (pc' := 6) W d_jdk_29_method_69_5 rfl rfl ?_
    refine s_goto (pc' := 10) W d_jdk_29_method_69_6 (by decide) rfl ?_
    refine s_ireturn W rfl d_jdk_29_method_69_10 (bl rfl) (bl rfl) ?_
    intro vm' C'
    exact ⟨by rw [if_neg hq], rfl⟩
set_option maxRecDepth 65536 in
set_option maxHeartbeats 40000000 in
theorem ef_mathmax (m : MethodId) (x0 : Int32) (x1 : Int32) : entryFrame m #[(.int x0), (.int x1)] 2 = mkF m 0 #[.val (.int x0), .val (.int x1)] [] := by first | (simp [entryFrame, mkF, argsToLocals, Value.category]; done) | rfl
set_option maxRecDepth 65536 in
set_option maxHeartbeats 40000000 in
theorem c_mathmax (l : Launch) {Z : State} {a0 : Array Value} (hw : Hw Z a0) {n0 : Nat} {h : Heap} (O : Old Z n0 h) {x y : Int32} :
    Con l Z EL1 n0 (⟨"java/lang/Math", "max", "(II)I"⟩ : MethodName) jdk_29_method_65_code 2 (some .int) [] ({ frames := 0, cells := 0, slots := 0, locals := 0 } : Room) #[(.int x), (.int y)] h [] (fun v vm' h' => v = some (.int (if x < y then y else x)) ∧ h = h') := by
  refine Con.of pn8 O (el hw) ?_
  intro pg_ e s m below meth cd_ T W hs_ hSf
  rw [ef_mathmax]
  refine s_iload_n (pc' := 1) W d_jdk_29_method_65_0 rfl rfl ?_
  refine s_iload_n (pc' := 2) W d_jdk_29_method_65_1 rfl rfl ?_
  refine s_icmplt (pc' := 5) (pcT := 9) W d_jdk_29_method_65_2 (by decide) rfl rfl (fun hq => ?_) (fun hq => ?_)
  · refine s_iload_n (pc' := 10) W d_jdk_29_method_65_9 rfl rfl ?_
    refine s_ireturn W rfl d_jdk_29_method_65_10 (bl rfl) (bl rfl) ?_
    intro vm' C'
    exact ⟨by rw [if_pos hq], rfl⟩
  · refine s_iload_n (pc' := 6) W d_jdk_29_method_65_5 rfl rfl ?_
    refine s_goto (pc' := 10) W d_jdk_29_method_65_6 (by decide) rfl ?_
    refine s_ireturn W rfl d_jdk_29_method_65_10 (bl rfl) (bl rfl) ?_
    intro vm' C'
    exact ⟨by rw [if_neg hq], rfl⟩
set_option maxRecDepth 65536 in
set_option maxHeartbeats 40000000 in
theorem ef_canencC (m : MethodId) (x0 : Int32) : entryFrame m #[(.int x0)] 1 = mkF m 0 #[.val (.int x0)] [] := by first | (simp [entryFrame, mkF, argsToLocals, Value.category]; done) | rfl
set_option maxRecDepth 65536 in
set_option maxHeartbeats 40000000 in
theorem c_canencC (l : Launch) {Z : State} {a0 : Array Value} (hw : Hw Z a0) {n0 : Nat} {h : Heap} (O : Old Z n0 h) {x : Int32} (hL : L1 x) :
    Con l Z EL1 n0 (⟨"java/lang/StringLatin1", "canEncode", "(C)Z"⟩ : MethodName) jdk_43_method_3_code 1 (some .boolean) [] ({ frames := 0, cells := 0, slots := 0, locals := 0 } : Room) #[(.int x)] h [] (fun v vm' h' => v = some (.int 1) ∧ h = h') := by
  refine Con.of pn9 O (el hw) ?_
  intro pg_ e s m below meth cd_ T W hs_ hSf
  rw [ef_canencC]
  refine s_iload_n (pc' := 1) W d_jdk_43_method_3_0 rfl rfl ?_
  refine s_sipush (pc' := 4) W (255 : Int32) d_jdk_43_method_3_1 rfl rfl ?_
  refine s_icmpgt (pc' := 7) (pcT := 11) W d_jdk_43_method_3_4 (by decide) rfl rfl (fun hq => absurd hq hL.2) (fun _ => ?_)
  refine s_iconst (pc' := 8) W (1 : Int32) d_jdk_43_method_3_7 rfl rfl ?_
  refine s_goto (pc' := 12) W d_jdk_43_method_3_8 (by decide) rfl ?_
  refine s_nreturn W (t := .boolean) rfl (by simp) d_jdk_43_method_3_12 (bl rfl) (bl rfl) ?_
  intro vm' C'
  exact ⟨rfl, rfl⟩
set_option maxRecDepth 65536 in
set_option maxHeartbeats 40000000 in
theorem ef_tobytesC (m : MethodId) (x0 : Int32) : entryFrame m #[(.int x0)] 1 = mkF m 0 #[.val (.int x0)] [] := by first | (simp [entryFrame, mkF, argsToLocals, Value.category]; done) | rfl
set_option maxRecDepth 65536 in
set_option maxHeartbeats 40000000 in
theorem c_tobytesC (l : Launch) {Z : State} {a0 : Array Value} (hw : Hw Z a0) {n0 : Nat} {h : Heap} (O : Old Z n0 h) {x : Int32} :
    Con l Z EL1 n0 (⟨"java/lang/StringLatin1", "toBytes", "(C)[B"⟩ : MethodName) jdk_43_method_46_code 1 (some (.array .byte)) [] ({ frames := 0, cells := 1, slots := 1, locals := 0 } : Room) #[(.int x)] h [] (fun v vm' h' => ∃ b kb, v = some (.ref b) ∧ Keep h h' [] ∧ Arv Z h' b kb .byte 1 [bv x] (.int 0) ∧ h.size ≤ b) := by
  refine Con.of pn10 O (el hw) ?_
  intro pg_ e s m below meth cd_ T W hs_ hSf
  rw [ef_tobytesC]
  have Kt := Keep.refl h []
  refine s_iconst (pc' := 1) W (1 : Int32) d_jdk_43_method_46_0 rfl rfl ?_
  refine s_newarr (pc' := 3) W (aty := .byte) 1 "[B" (by decide) (w14 hw) d_jdk_43_method_46_1 (by decide) (by decide) (by decide) (bl rfl) (bl rfl) rfl ?_
  intro b T h k_b g_b
  have fs_b := Nat.le_trans Kt.1 (Nat.le_of_eq g_b.symm)
  intro W K1 C1 M_b V_b X_b
  replace Kt := Kt.trans K1 all0
  have V_b : Arv Z _ b k_b .byte (1 : Int32) [.int 0] (.int 0) := V_b
  refine s_dup (pc' := 4) W d_jdk_43_method_46_3 rfl rfl ?_
  refine s_iconst (pc' := 5) W (0 : Int32) d_jdk_43_method_46_4 rfl rfl ?_
  refine s_iload_n (pc' := 6) W d_jdk_43_method_46_5 rfl rfl ?_
  refine s_i2b (pc' := 7) W d_jdk_43_method_46_6 rfl ?_
  refine s_bastore (pc' := 8) W 0 V_b M_b rfl (by decide) (by decide) (bt rfl) d_jdk_43_method_46_7 rfl ?_
  intro T h W K2 C2 Vn2
  replace Kt := Kt.trans K2 (allS (P := fun x => _ ∨ _) (Or.inr fs_b) all0)
  replace M_b := M_b.mv C2
  replace X_b := X_b.keep K2
  have V_b := Vn2
  clear Vn2
  rw [bb] at V_b
  refine s_areturn W rfl rfl rfl d_jdk_43_method_46_8 (bl rfl) (bl rfl) ?_
  intro vm' C'
  exact ⟨b, k_b, rfl, Kt, V_b, fs_b⟩
set_option maxRecDepth 65536 in
set_option maxHeartbeats 40000000 in
theorem ef_strinitB (m : MethodId) (x0 : Addr) (x1 : Addr) (x2 : Int32) : entryFrame m #[(.ref x0), (.ref x1), (.int x2)] 3 = mkF m 0 #[.val (.ref x0), .val (.ref x1), .val (.int x2)] [] := by first | (simp [entryFrame, mkF, argsToLocals, Value.category]; done) | rfl
set_option maxRecDepth 65536 in
set_option maxHeartbeats 40000000 in
theorem c_strinitB (l : Launch) {Z : State} {a0 : Array Value} (hw : Hw Z a0) {n0 : Nat} {h : Heap} (O : Old Z n0 h) {a b : Nat} {kb : ClassId} {cs : List Int32} (E : Exa Z h a "java/lang/String") (M0 : n0 ≤ a) (Ma : a < h.size) (Fc : Fld Z h a "java/lang/String" "coder" "B" (.int 0)) (Fv : Fld Z h a "java/lang/String" "value" "[B" .null) (A : Arv Z h b kb .byte (Int32.ofNat cs.length) (cs.map bv) (.int 0)) (hL : ∀ c ∈ cs, L1 c) (hn : cs.length < 2147483648) (nab : a ≠ b) :
    Con l Z EL1 n0 (⟨"java/lang/String", "<init>", "([BB)V"⟩ : MethodName) jdk_42_method_151_code 3 none [] ({ frames := 1, cells := 0, slots := 0, locals := 12 } : Room) #[(.ref a), (.ref b), (.int (0 : Int32))] h [a] (fun v vm' h' => v = none ∧ Keep h h' [a] ∧ LatB Z h' a b kb cs) := by
  refine Con.of pn11 O (el hw) ?_
  intro pg_ e s m below meth cd_ T W hs_ hSf
  rw [ef_strinitB]
  have M : Mine Z EL1 n0 s.vm h a := ⟨M0, Ma, hSf a (by simp)⟩
  have Kt := Keep.refl h [a]
  refine s_aload_n (pc' := 1) W d_jdk_42_method_151_0 rfl rfl rfl ?_
  refine s_objinit (pc' := 4) W (w19 hw) (w20 hw) (w21 hw) rfl d_jdk_42_method_151_1 0 (le rfl) (bl rfl) (bl rfl) rfl ?_
  intro T W
  refine s_aload_n (pc' := 5) W d_jdk_42_method_151_4 rfl rfl rfl ?_
  refine s_aload_n (pc' := 6) W d_jdk_42_method_151_5 rfl rfl rfl ?_
  refine s_putf (pc' := 9) W (w22 hw) Via.refl Fv E M (Or.inr ⟨(w23 hw), rfl, rfl⟩) (w10 hw) (ty := (.array .byte)) (by decide) rfl rfl d_jdk_42_method_151_6 rfl ?_
  intro T h W K1 C1 Wr1 Fn1
  replace Fc := Fc.other Wr1 (Or.inr (slot_ne (Or.inr (w25 hw)) (Or.inr (w23 hw)) (by decide) (by decide : parseFieldDescriptor "B" = some .byte) (by decide : parseFieldDescriptor "[B" = some (.array .byte))))
  replace Kt := Kt.trans K1 (allS (P := fun x => _ ∨ _) (Or.inl (by simp)) all0)
  replace E := E.keep K1
  replace A := A.keep K1 (ninS (Ne.symm nab) nin0)
  replace M := M.mv C1
  have Fv := Fn1
  clear Fn1
  refine s_aload_n (pc' := 10) W d_jdk_42_method_151_9 rfl rfl rfl ?_
  refine s_iload_n (pc' := 11) W d_jdk_42_method_151_10 rfl rfl ?_
  refine s_putfn (pc' := 14) W (w24 hw) Via.refl Fc E M (Or.inr ⟨(w25 hw), rfl, rfl⟩) (w10 hw) (ty := .byte) (v' := .int 0) (by decide) rfl rfl d_jdk_42_method_151_11 rfl ?_
  intro T h W K2 C2 Wr2 Fn2
  replace Fv := Fv.other Wr2 (Or.inr (slot_ne (Or.inr (w23 hw)) (Or.inr (w25 hw)) (by decide) (by decide : parseFieldDescriptor "[B" = some (.array .byte)) (by decide : parseFieldDescriptor "B" = some .byte)))
  replace Kt := Kt.trans K2 (allS (P := fun x => _ ∨ _) (Or.inl (by simp)) all0)
  replace E := E.keep K2
  replace A := A.keep K2 (ninS (Ne.symm nab) nin0)
  replace M := M.mv C2
  have Fc := Fn2
  clear Fn2
  refine s_ret W rfl d_jdk_42_method_151_14 (bl rfl) (bl rfl) ?_
  intro vm' C'
  exact ⟨rfl, Kt, E, Fc, Fv, A, hL, hn⟩
set_option maxRecDepth 65536 in
set_option maxHeartbeats 40000000 in
theorem ef_valueofC (m : MethodId) (x0 : Int32) : entryFrame m #[(.int x0)] 1 = mkF m 0 #[.val (.int x0)] [] := by first | (simp [entryFrame, mkF, argsToLocals, Value.category]; done) | rfl
set_option maxRecDepth 65536 in
set_option maxHeartbeats 40000000 in
theorem c_valueofC (l : Launch) {Z : State} {a0 : Array Value} (hw : Hw Z a0) {n0 : Nat} {h : Heap} (O : Old Z n0 h) (CS0 : CS Z) {x : Int32} (hL : L1 x) :
    Con l Z EL1 n0 (⟨"java/lang/String", "valueOf", "(C)Ljava/lang/String;"⟩ : MethodName) jdk_42_method_139_code 1 (some (.object "java/lang/String")) [] ({ frames := 2, cells := 2, slots := 5, locals := 27 } : Room) #[(.int x)] h [] (fun v vm' h' => ∃ a b kb, v = some (.ref a) ∧ Keep h h' [] ∧ LatB Z h' a b kb [x] ∧ h.size ≤ a ∧ h.size ≤ b) := by
  refine Con.of pn12 O (el hw) ?_
  intro pg_ e s m below meth cd_ T W hs_ hSf
  rw [ef_valueofC]
  have Kt := Keep.refl h []
  obtain ⟨vc, Sc, hvc⟩ := CS0
  refine s_gets (pc' := 3) W (w4 hw) Via.refl Sc d_jdk_42_method_139_0 rfl ?_
  intro T W
  refine s_ifeq (pc' := 6) (pcT := 26) W d_jdk_42_method_139_3 (by decide) rfl rfl (fun hq => absurd hq hvc) (fun _ => ?_)
  refine s_iload_n (pc' := 7) W d_jdk_42_method_139_6 rfl rfl ?_
  refine s_static (pc' := 10) W (w5 hw) (w6 hw) (w7 hw) (w8 hw) (by decide) pd5 [(.int x)] rfl (c_canencC l hw W.old hL) all0 rfl d_jdk_42_method_139_7 0 (le rfl) (bl rfl) (bl rfl) (bl rfl) (bl rfl) rfl ?_
  rintro _ T vm _ W C1 ⟨rfl, rfl⟩
  refine s_ifeq (pc' := 13) (pcT := 26) W d_jdk_42_method_139_10 (by decide) rfl rfl (fun hq => absurd hq (by decide)) (fun _ => ?_)
  refine s_new (pc' := 16) W (w9 hw) (w10 hw) (w2 hw) d_jdk_42_method_139_13 (bl rfl) (bl rfl) rfl ?_
  intro a T h g_a
  have fs_a := Nat.le_trans Kt.1 (Nat.le_of_eq g_a.symm)
  intro W K2 C2 M_a E_a D_a U_a
  replace Kt := Kt.trans K2 all0
  have F_coder_a : Fld Z _ a "java/lang/String" "coder" "B" (.int 0) := D_a (Or.inr (w25 hw)) (ty := .byte) (by decide)
  have F_value_a : Fld Z _ a "java/lang/String" "value" "[B" .null := D_a (Or.inr (w23 hw)) (ty := (.array .byte)) (by decide)
  have la := nlt M_a.2.1
  have Kt0 := Kt.1
  refine s_dup (pc' := 17) W d_jdk_42_method_139_16 rfl rfl ?_
  refine s_iload_n (pc' := 18) W d_jdk_42_method_139_17 rfl rfl ?_
  refine s_static (pc' := 21) W (w11 hw) (w12 hw) (w7 hw) (w13 hw) (by decide) pd6 [(.int x)] rfl (c_tobytesC l hw W.old) all0 rfl d_jdk_42_method_139_18 2 (le rfl) (bl rfl) (bl rfl) (bl rfl) (bl rfl) rfl ?_
  rintro _ T vm h W C3 ⟨b, kb, rfl, K3, V_b, hb⟩
  replace Kt := Kt.trans K3 all0
  replace E_a := E_a.keep K3
  replace M_a := M_a.mv C3
  replace F_coder_a := F_coder_a.keep K3 nin0
  replace F_value_a := F_value_a.keep K3 nin0
  have nab : @Ne Nat a b := by omega
  refine s_iconst (pc' := 22) W (0 : Int32) d_jdk_42_method_139_21 rfl rfl ?_
  refine s_init (pc' := 25) W rfl (w15 hw) (w16 hw) (w2 hw) (w18 hw) (by decide) pd7 [(.ref b), (.int (0 : Int32))] rfl (c_strinitB l hw W.old (cs := [x]) E_a M_a.1 M_a.2.1 F_coder_a F_value_a V_b (by simp [hL]) (by simp) nab) (allS ⟨M_a.2.1, M_a.2.2⟩ all0) rfl d_jdk_42_method_139_22 1 (le rfl) (bl rfl) (bl rfl) (bl rfl) (bl rfl) rfl ?_
  rintro _ T vm h W C4 ⟨rfl, K4, La⟩
  replace Kt := Kt.trans K4 (allS (P := fun x => _ ∨ _) (Or.inr fs_a) all0)
  replace E_a := E_a.keep K4
  replace M_a := M_a.mv C4
  refine s_areturn W rfl rfl rfl d_jdk_42_method_139_25 (bl rfl) (bl rfl) ?_
  intro vm' C'
  exact ⟨a, b, kb, rfl, Kt, La, fs_a, Nat.le_trans Kt0 hb⟩
set_option maxRecDepth 65536 in
set_option maxHeartbeats 40000000 in
theorem ef_pchkN (m : MethodId) (x0 : Int32) (x1 : Int32) : entryFrame m #[(.int x0), (.int x1), .null] 3 = mkF m 0 #[.val (.int x0), .val (.int x1), .val .null] [] := by first | (simp [entryFrame, mkF, argsToLocals, Value.category]; done) | rfl
set_option maxRecDepth 65536 in
set_option maxHeartbeats 40000000 in
theorem c_pchkN (l : Launch) {Z : State} {a0 : Array Value} (hw : Hw Z a0) {n0 : Nat} {h : Heap} (O : Old Z n0 h) {i z : Int32} (h0 : ¬ i < 0) (h1 : i < z) :
    Con l Z EL1 n0 (⟨"jdk/internal/util/Preconditions", "checkIndex", "(IILjava/util/function/BiFunction;)I"⟩ : MethodName) jdk_41_method_11_code 3 (some .int) [] ({ frames := 0, cells := 0, slots := 0, locals := 0 } : Room) #[(.int i), (.int z), .null] h [] (fun v vm' h' => v = some (.int i) ∧ h = h') := by
  refine Con.of pn13 O (el hw) ?_
  intro pg_ e s m below meth cd_ T W hs_ hSf
  rw [ef_pchkN]
  refine s_iload_n (pc' := 1) W d_jdk_41_method_11_0 rfl rfl ?_
  refine s_iflt (pc' := 4) (pcT := 9) W d_jdk_41_method_11_1 (by decide) rfl rfl (fun hq => absurd hq h0) (fun _ => ?_)
  refine s_iload_n (pc' := 5) W d_jdk_41_method_11_4 rfl rfl ?_
  refine s_iload_n (pc' := 6) W d_jdk_41_method_11_5 rfl rfl ?_
  refine s_icmplt (pc' := 9) (pcT := 16) W d_jdk_41_method_11_6 (by decide) rfl rfl (fun _ => ?_) (fun hq => absurd h1 hq)
  refine s_iload_n (pc' := 17) W d_jdk_41_method_11_16 rfl rfl ?_
  refine s_ireturn W rfl d_jdk_41_method_11_17 (bl rfl) (bl rfl) ?_
  intro vm' C'
  exact ⟨rfl, rfl⟩
set_option maxRecDepth 65536 in
set_option maxHeartbeats 40000000 in
theorem ef_pchkR (m : MethodId) (x0 : Int32) (x1 : Int32) (x2 : Addr) : entryFrame m #[(.int x0), (.int x1), (.ref x2)] 3 = mkF m 0 #[.val (.int x0), .val (.int x1), .val (.ref x2)] [] := by first | (simp [entryFrame, mkF, argsToLocals, Value.category]; done) | rfl
set_option maxRecDepth 65536 in
set_option maxHeartbeats 40000000 in
theorem c_pchkR (l : Launch) {Z : State} {a0 : Array Value} (hw : Hw Z a0) {n0 : Nat} {h : Heap} (O : Old Z n0 h) {i z : Int32} {f : Nat} (h0 : ¬ i < 0) (h1 : i < z) :
    Con l Z EL1 n0 (⟨"jdk/internal/util/Preconditions", "checkIndex", "(IILjava/util/function/BiFunction;)I"⟩ : MethodName) jdk_41_method_11_code 3 (some .int) [] ({ frames := 0, cells := 0, slots := 0, locals := 0 } : Room) #[(.int i), (.int z), (.ref f)] h [] (fun v vm' h' => v = some (.int i) ∧ h = h') := by
  refine Con.of pn13 O (el hw) ?_
  intro pg_ e s m below meth cd_ T W hs_ hSf
  rw [ef_pchkR]
  refine s_iload_n (pc' := 1) W d_jdk_41_method_11_0 rfl rfl ?_
  refine s_iflt (pc' := 4) (pcT := 9) W d_jdk_41_method_11_1 (by decide) rfl rfl (fun hq => absurd hq h0) (fun _ => ?_)
  refine s_iload_n (pc' := 5) W d_jdk_41_method_11_4 rfl rfl ?_
  refine s_iload_n (pc' := 6) W d_jdk_41_method_11_5 rfl rfl ?_
  refine s_icmplt (pc' := 9) (pcT := 16) W d_jdk_41_method_11_6 (by decide) rfl rfl (fun _ => ?_) (fun hq => absurd h1 hq)
  refine s_iload_n (pc' := 17) W d_jdk_41_method_11_16 rfl rfl ?_
  refine s_ireturn W rfl d_jdk_41_method_11_17 (bl rfl) (bl rfl) ?_
  intro vm' C'
  exact ⟨rfl, rfl⟩
set_option maxRecDepth 65536 in
set_option maxHeartbeats 40000000 in
theorem ef_asbinit (m : MethodId) (x0 : Addr) (x1 : Int32) : entryFrame m #[(.ref x0), (.int x1)] 2 = mkF m 0 #[.val (.ref x0), .val (.int x1)] [] := by first | (simp [entryFrame, mkF, argsToLocals, Value.category]; done) | rfl
set_option maxRecDepth 65536 in
set_option maxHeartbeats 40000000 in
theorem c_asbinit (l : Launch) {Z : State} {a0 : Array Value} (hw : Hw Z a0) {n0 : Nat} {h : Heap} (O : Old Z n0 h) {a : Nat} {cap : Nat} (CS0 : CS Z) (hcap : cap ≤ 4096) (E : Exa Z h a "java/lang/StringBuilder") (M0 : n0 ≤ a) (Ma : a < h.size) (Fc : Fld Z h a "java/lang/AbstractStringBuilder" "coder" "B" (.int 0)) (Fv : Fld Z h a "java/lang/AbstractStringBuilder" "value" "[B" .null) (Fn : Fld Z h a "java/lang/AbstractStringBuilder" "count" "I" (.int 0)) :
    Con l Z EL1 n0 (⟨"java/lang/AbstractStringBuilder", "<init>", "(I)V"⟩ : MethodName) jdk_68_method_2_code 2 none [] ({ frames := 1, cells := 1, slots := cap, locals := 12 } : Room) #[(.ref a), (.int (Int32.ofNat cap))] h [a] (fun v vm' h' => v = none ∧ Keep h h' [a] ∧ ∃ b kb, SBd Z h' a b kb cap [] ∧ h.size ≤ b ∧ Mine Z EL1 n0 vm' h' b) := by
  refine Con.of pn14 O (el hw) ?_
  intro pg_ e s m below meth cd_ T W hs_ hSf
  rw [ef_asbinit]
  have M : Mine Z EL1 n0 s.vm h a := ⟨M0, Ma, hSf a (by simp)⟩
  have Kt := Keep.refl h [a]
  refine s_aload_n (pc' := 1) W d_jdk_68_method_2_0 rfl rfl rfl ?_
  refine s_objinit (pc' := 4) W (w69 hw) (w20 hw) (w21 hw) rfl d_jdk_68_method_2_1 0 (le rfl) (bl rfl) (bl rfl) rfl ?_
  intro T W
  obtain ⟨vc, Sc, hvc⟩ := CS0
  refine s_gets (pc' := 7) W (w70 hw) Via.refl Sc d_jdk_68_method_2_4 rfl ?_
  intro T W
  refine s_ifeq (pc' := 10) (pcT := 25) W d_jdk_68_method_2_7 (by decide) rfl rfl (fun hq => absurd hq hvc) (fun _ => ?_)
  refine s_aload_n (pc' := 11) W d_jdk_68_method_2_10 rfl rfl rfl ?_
  refine s_iload_n (pc' := 12) W d_jdk_68_method_2_11 rfl rfl ?_
  refine s_newarr (pc' := 14) W (aty := .byte) cap "[B" (by decide) (w14 hw) d_jdk_68_method_2_12 (n_nn (by omega)) (by rw [n_clamp (by omega)]; exact Nat.le_refl _) (by omega) (by (try dsimp only) <;> omega) (by (try dsimp only) <;> omega) rfl ?_
  intro b T h k_b g_b
  have fs_b := Nat.le_trans Kt.1 (Nat.le_of_eq g_b.symm)
  have ne_a_b : @Ne Nat a b := by have := nlt E.lt; omega
  intro W K1 C1 M_b V_b X_b
  replace Kt := Kt.trans K1 all0
  replace E := E.keep K1
  replace Fc := Fc.keep K1 nin0
  replace Fv := Fv.keep K1 nin0
  replace Fn := Fn.keep K1 nin0
  replace M := M.mv C1
  have V_b : Arv Z h b k_b .byte (Int32.ofNat cap) (List.replicate cap (.int 0)) (.int 0) := by have q := V_b; rw [n_clamp (by omega)] at q; exact q
  refine s_putf (pc' := 17) W (w71 hw) Via.refl Fv E M (Or.inl (w72 hw)) (w58 hw) (ty := (.array .byte)) (by decide) rfl rfl d_jdk_68_method_2_14 rfl ?_
  intro T h W K2 C2 Wr2 Fn2
  replace Fc := Fc.other Wr2 (Or.inr (slot_ne (Or.inl (w74 hw)) (Or.inl (w72 hw)) (by decide) (by decide : parseFieldDescriptor "B" = some .byte) (by decide : parseFieldDescriptor "[B" = some (.array .byte))))
  replace Fn := Fn.other Wr2 (Or.inr (slot_ne (Or.inl (w99 hw)) (Or.inl (w72 hw)) (by decide) (by decide : parseFieldDescriptor "I" = some .int) (by decide : parseFieldDescriptor "[B" = some (.array .byte))))
  replace Kt := Kt.trans K2 (allS (P := fun x => _ ∨ _) (Or.inl (by simp)) all0)
  replace E := E.keep K2
  replace M := M.mv C2
  replace V_b := V_b.keep K2 (ninS (Ne.symm ne_a_b) nin0)
  replace M_b := M_b.mv C2
  replace X_b := X_b.keep K2
  have Fv := Fn2
  clear Fn2
  refine s_aload_n (pc' := 18) W d_jdk_68_method_2_17 rfl rfl rfl ?_
  refine s_iconst (pc' := 19) W (0 : Int32) d_jdk_68_method_2_18 rfl rfl ?_
  refine s_putfn (pc' := 22) W (w73 hw) Via.refl Fc E M (Or.inl (w74 hw)) (w58 hw) (ty := .byte) (v' := .int 0) (by decide) rfl rfl d_jdk_68_method_2_19 rfl ?_
  intro T h W K3 C3 Wr3 Fn3
  replace Fn := Fn.other Wr3 (Or.inr (slot_ne (Or.inl (w99 hw)) (Or.inl (w74 hw)) (by decide) (by decide : parseFieldDescriptor "I" = some .int) (by decide : parseFieldDescriptor "B" = some .byte)))
  replace Fv := Fv.other Wr3 (Or.inr (slot_ne (Or.inl (w72 hw)) (Or.inl (w74 hw)) (by decide) (by decide : parseFieldDescriptor "[B" = some (.array .byte)) (by decide : parseFieldDescriptor "B" = some .byte)))
  replace Kt := Kt.trans K3 (allS (P := fun x => _ ∨ _) (Or.inl (by simp)) all0)
  replace E := E.keep K3
  replace M := M.mv C3
  replace V_b := V_b.keep K3 (ninS (Ne.symm ne_a_b) nin0)
  replace M_b := M_b.mv C3
  replace X_b := X_b.keep K3
  have Fc := Fn3
  clear Fn3
  refine s_goto (pc' := 38) W d_jdk_68_method_2_22 (by decide) rfl ?_
  refine s_ret W rfl d_jdk_68_method_2_38 (by (try dsimp only) <;> omega) (by (try dsimp only) <;> omega) ?_
  intro vm' C'
  exact ⟨rfl, Kt, b, k_b, ⟨E, Fc, Fn, Fv, ⟨List.replicate cap (.int 0), by simp, V_b⟩, fun c hc => by simp at hc, hcap, X_b⟩, fs_b, M_b.mv C'⟩
set_option maxRecDepth 65536 in
set_option maxHeartbeats 40000000 in
theorem ef_newlen (m : MethodId) (x0 : Int32) (x1 : Int32) (x2 : Int32) : entryFrame m #[(.int x0), (.int x1), (.int x2)] 4 = mkF m 0 #[.val (.int x0), .val (.int x1), .val (.int x2), .unset] [] := by first | (simp [entryFrame, mkF, argsToLocals, Value.category]; done) | rfl
set_option maxRecDepth 65536 in
set_option maxHeartbeats 40000000 in
theorem c_newlen (l : Launch) {Z : State} {a0 : Array Value} (hw : Hw Z a0) {n0 : Nat} {h : Heap} (O : Old Z n0 h) {k g q : Nat} (h0 : 0 < k + max g q) (hb : k + max g q ≤ 100000) :
    Con l Z EL1 n0 (⟨"jdk/internal/util/ArraysSupport", "newLength", "(III)I"⟩ : MethodName) jdk_48_method_27_code 4 (some .int) [] ({ frames := 1, cells := 0, slots := 0, locals := 14 } : Room) #[(.int (Int32.ofNat k)), (.int (Int32.ofNat g)), (.int (Int32.ofNat q))] h [] (fun v vm' h' => v = some (.int (Int32.ofNat (k + max g q))) ∧ h = h') := by
  refine Con.of pn15 O (el hw) ?_
  intro pg_ e s m below meth cd_ T W hs_ hSf
  rw [ef_newlen]
  refine s_iload_n (pc' := 1) W d_jdk_48_method_27_0 rfl rfl ?_
  refine s_iload_n (pc' := 2) W d_jdk_48_method_27_1 rfl rfl ?_
  refine s_iload_n (pc' := 3) W d_jdk_48_method_27_2 rfl rfl ?_
  refine s_static (pc' := 6) W (w288 hw) (w257 hw) (w167 hw) (w258 hw) (by decide) pd8 [(.int (Int32.ofNat g)), (.int (Int32.ofNat q))] rfl (c_mathmax l hw W.old) all0 rfl d_jdk_48_method_27_3 1 (le rfl) (bl rfl) (bl rfl) (bl rfl) (bl rfl) rfl ?_
  rintro _ T vm _ W C1 ⟨rfl, rfl⟩
  rw [n_max (by omega) (by omega)]
  refine s_iadd (pc' := 7) W d_jdk_48_method_27_6 rfl ?_
  rw [n_add]
  refine s_istore_n (pc' := 8) W #[iv (Int32.ofNat k), iv (Int32.ofNat g), iv (Int32.ofNat q), iv (Int32.ofNat (k + max g q))] d_jdk_48_method_27_7 rfl rfl ?_
  refine s_iconst (pc' := 9) W (0 : Int32) d_jdk_48_method_27_8 rfl rfl ?_
  refine s_iload_n (pc' := 10) W d_jdk_48_method_27_9 rfl rfl ?_
  refine s_icmpge (pc' := 13) (pcT := 21) W d_jdk_48_method_27_10 (by decide) rfl rfl (fun hq => absurd (n_lt (i := 0) h0 (by omega)) hq) (fun _ => ?_)
  refine s_iload_n (pc' := 14) W d_jdk_48_method_27_13 rfl rfl ?_
  refine s_ldcI (pc' := 16) W (w289 hw) d_jdk_48_method_27_14 rfl ?_
  refine s_icmpgt (pc' := 19) (pcT := 21) W d_jdk_48_method_27_16 (by decide) rfl rfl (fun hq => absurd hq (n_ge (i := 2147483639) (by omega) (by decide))) (fun _ => ?_)
  refine s_iload_n (pc' := 20) W d_jdk_48_method_27_19 rfl rfl ?_
  refine s_ireturn W rfl d_jdk_48_method_27_20 (bl rfl) (bl rfl) ?_
  intro vm' C'
  exact ⟨rfl, rfl⟩
set_option maxRecDepth 65536 in
set_option maxHeartbeats 40000000 in
theorem ef_newcap (m : MethodId) (x0 : Addr) (x1 : Int32) : entryFrame m #[(.ref x0), (.int x1)] 6 = mkF m 0 #[.val (.ref x0), .val (.int x1), .unset, .unset, .unset, .unset] [] := by first | (simp [entryFrame, mkF, argsToLocals, Value.category]; done) | rfl
set_option maxRecDepth 65536 in
set_option maxHeartbeats 40000000 in
theorem c_newcap (l : Launch) {Z : State} {a0 : Array Value} (hw : Hw Z a0) {n0 : Nat} {h : Heap} (O : Old Z n0 h) {a b : Nat} {kb : ClassId} {cap : Nat} {cs : List Int32} (F : SBd Z h a b kb cap cs) {mm : Nat} (hlt : cap < mm) (hmm : mm ≤ 4096) :
    Con l Z EL1 n0 (⟨"java/lang/AbstractStringBuilder", "newCapacity", "(I)I"⟩ : MethodName) jdk_68_method_10_code 6 (some .int) [] ({ frames := 2, cells := 0, slots := 0, locals := 29 } : Room) #[(.ref a), (.int (Int32.ofNat mm))] h [] (fun v vm' h' => v = some (.int (Int32.ofNat (cap + max (mm - cap) (cap + 2)))) ∧ h = h') := by
  refine Con.of pn16 O (el hw) ?_
  intro pg_ e s m below meth cd_ T W hs_ hSf
  rw [ef_newcap]
  obtain ⟨f1, f2, f3, f4, ⟨r, hr, A⟩, f6⟩ := F
  have hc4 := f6.2.1
  refine s_aload_n (pc' := 1) W d_jdk_68_method_10_0 rfl rfl rfl ?_
  refine s_getf (pc' := 4) W (w71 hw) Via.refl f4 d_jdk_68_method_10_1 rfl ?_
  intro T W
  refine s_alen (pc' := 5) W A d_jdk_68_method_10_4 rfl ?_
  refine s_istore_n (pc' := 6) W #[rv a, iv (Int32.ofNat mm), iv (Int32.ofNat cap), .unset, .unset, .unset] d_jdk_68_method_10_5 rfl rfl ?_
  refine s_iload_n (pc' := 7) W d_jdk_68_method_10_6 rfl rfl ?_
  refine s_aload_n (pc' := 8) W d_jdk_68_method_10_7 rfl rfl rfl ?_
  refine s_getf (pc' := 11) W (w73 hw) Via.refl f2 d_jdk_68_method_10_8 rfl ?_
  intro T W
  refine s_ishl (pc' := 12) W d_jdk_68_method_10_11 rfl ?_
  rw [shl0]
  refine s_istore_n (pc' := 13) W #[rv a, iv (Int32.ofNat mm), iv (Int32.ofNat cap), iv (Int32.ofNat mm), .unset, .unset] d_jdk_68_method_10_12 rfl rfl ?_
  refine s_iload_n (pc' := 14) W d_jdk_68_method_10_13 rfl rfl ?_
  refine s_iload_n (pc' := 15) W d_jdk_68_method_10_14 rfl rfl ?_
  refine s_isub (pc' := 16) W d_jdk_68_method_10_15 rfl ?_
  rw [n_sub (by omega)]
  refine s_istore (pc' := 18) W #[rv a, iv (Int32.ofNat mm), iv (Int32.ofNat cap), iv (Int32.ofNat mm), iv (Int32.ofNat (mm - cap)), .unset] d_jdk_68_method_10_16 rfl rfl ?_
  refine s_iload_n (pc' := 19) W d_jdk_68_method_10_18 rfl rfl ?_
  refine s_iload (pc' := 21) W d_jdk_68_method_10_19 rfl rfl ?_
  refine s_iload_n (pc' := 22) W d_jdk_68_method_10_21 rfl rfl ?_
  refine s_iconst (pc' := 23) W (2 : Int32) d_jdk_68_method_10_22 rfl rfl ?_
  refine s_aload_n (pc' := 24) W d_jdk_68_method_10_23 rfl rfl rfl ?_
  refine s_getf (pc' := 27) W (w73 hw) Via.refl f2 d_jdk_68_method_10_24 rfl ?_
  intro T W
  refine s_ishl (pc' := 28) W d_jdk_68_method_10_27 rfl ?_
  rw [shl0]
  refine s_iadd (pc' := 29) W d_jdk_68_method_10_28 rfl ?_
  rw [show Int32.ofNat cap + (2 : Int32) = Int32.ofNat (cap + 2) from n_add cap 2]
  refine s_static (pc' := 32) W (w284 hw) (w285 hw) (w286 hw) (w287 hw) (by decide) pd9 [(.int (Int32.ofNat cap)), (.int (Int32.ofNat (mm - cap))), (.int (Int32.ofNat (cap + 2)))] rfl (c_newlen l hw W.old (k := cap) (g := mm - cap) (q := cap + 2) (by omega) (by omega)) all0 rfl d_jdk_68_method_10_29 0 (le rfl) (bl rfl) (bl rfl) (bl rfl) (bl rfl) rfl ?_
  rintro _ T vm _ W C1 ⟨rfl, rfl⟩
  refine s_istore (pc' := 34) W #[rv a, iv (Int32.ofNat mm), iv (Int32.ofNat cap), iv (Int32.ofNat mm), iv (Int32.ofNat (mm - cap)), iv (Int32.ofNat (cap + max (mm - cap) (cap + 2)))] d_jdk_68_method_10_32 rfl rfl ?_
  refine s_iload (pc' := 36) W d_jdk_68_method_10_34 rfl rfl ?_
  refine s_ldcI (pc' := 38) W (w290 hw) d_jdk_68_method_10_36 rfl ?_
  refine s_icmpne (pc' := 41) (pcT := 51) W d_jdk_68_method_10_38 (by decide) rfl rfl (fun _ => ?_) (fun hq => absurd hq (fun q => by have := n_inj (j := 2147483647) (by omega) (by decide) q; omega))
  refine s_iload (pc' := 53) W d_jdk_68_method_10_51 rfl rfl ?_
  refine s_aload_n (pc' := 54) W d_jdk_68_method_10_53 rfl rfl rfl ?_
  refine s_getf (pc' := 57) W (w73 hw) Via.refl f2 d_jdk_68_method_10_54 rfl ?_
  intro T W
  refine s_ishr (pc' := 58) W d_jdk_68_method_10_57 rfl ?_
  refine s_ireturn W rfl d_jdk_68_method_10_58 (bl rfl) (bl rfl) ?_
  intro vm' C'
  exact ⟨by rw [shr0], rfl⟩
set_option maxRecDepth 65536 in
set_option maxHeartbeats 40000000 in
theorem ef_copyofB (m : MethodId) (x0 : Addr) (x1 : Int32) : entryFrame m #[(.ref x0), (.int x1)] 3 = mkF m 0 #[.val (.ref x0), .val (.int x1), .unset] [] := by first | (simp [entryFrame, mkF, argsToLocals, Value.category]; done) | rfl
set_option maxRecDepth 65536 in
set_option maxHeartbeats 40000000 in
theorem c_copyofB (l : Launch) {Z : State} {a0 : Array Value} (hw : Hw Z a0) {n0 : Nat} {h : Heap} (O : Old Z n0 h) {b : Nat} {kb : ClassId} {cap n : Nat} {vs : List Value} (hvs : vs.length = cap) (hlt : cap < n) (hn : n ≤ 100000) (A : Arv Z h b kb .byte (Int32.ofNat cap) vs (.int 0)) :
    Con l Z EL1 n0 (⟨"java/util/Arrays", "copyOf", "([BI)[B"⟩ : MethodName) jdk_65_method_121_code 3 (some (.array .byte)) [] ({ frames := 1, cells := 1, slots := n, locals := 18 } : Room) #[(.ref b), (.int (Int32.ofNat n))] h [] (fun v vm' h' => ∃ c kc, v = some (.ref c) ∧ Keep h h' [] ∧ Arv Z h' c kc .byte (Int32.ofNat n) (vs ++ List.replicate (n - cap) (.int 0)) (.int 0) ∧ Exa Z h' c "[B" ∧ h.size ≤ c ∧ Mine Z EL1 n0 vm' h' c) := by
  refine Con.of pn17 O (el hw) ?_
  intro pg_ e s m below meth cd_ T W hs_ hSf
  rw [ef_copyofB]
  have Kt := Keep.refl h []
  refine s_iload_n (pc' := 1) W d_jdk_65_method_121_0 rfl rfl ?_
  refine s_aload_n (pc' := 2) W d_jdk_65_method_121_1 rfl rfl rfl ?_
  refine s_alen (pc' := 3) W A d_jdk_65_method_121_2 rfl ?_
  refine s_icmpne (pc' := 6) (pcT := 14) W d_jdk_65_method_121_3 (by decide) rfl rfl (fun _ => ?_) (fun hq => absurd hq (fun q => by have := n_inj (by omega) (by omega) q; omega))
  refine s_iload_n (pc' := 15) W d_jdk_65_method_121_14 rfl rfl ?_
  refine s_newarr (pc' := 17) W (aty := .byte) n "[B" (by decide) (w14 hw) d_jdk_65_method_121_15 (n_nn (by omega)) (by rw [n_clamp (by omega)]; exact Nat.le_refl _) (by omega) (by (try dsimp only) <;> omega) (by (try dsimp only) <;> omega) rfl ?_
  intro c T h k_c g_c
  have fs_c := Nat.le_trans Kt.1 (Nat.le_of_eq g_c.symm)
  have ne_b_c : @Ne Nat b c := by have := nlt A.lt; omega
  intro W K1 C1 M_c V_c X_c
  replace Kt := Kt.trans K1 all0
  replace A := A.keep K1 nin0
  have V_c : Arv Z h c k_c .byte (Int32.ofNat n) (List.replicate n (.int 0)) (.int 0) := by have q := V_c; rw [n_clamp (by omega)] at q; exact q
  refine s_astore_n (pc' := 18) W #[rv b, iv (Int32.ofNat n), rv c] d_jdk_65_method_121_17 rfl rfl rfl ?_
  refine s_aload_n (pc' := 19) W d_jdk_65_method_121_18 rfl rfl rfl ?_
  refine s_iconst (pc' := 20) W (0 : Int32) d_jdk_65_method_121_19 rfl rfl ?_
  refine s_aload_n (pc' := 21) W d_jdk_65_method_121_20 rfl rfl rfl ?_
  refine s_iconst (pc' := 22) W (0 : Int32) d_jdk_65_method_121_21 rfl rfl ?_
  refine s_aload_n (pc' := 23) W d_jdk_65_method_121_22 rfl rfl rfl ?_
  refine s_alen (pc' := 24) W A d_jdk_65_method_121_23 rfl ?_
  refine s_iload_n (pc' := 25) W d_jdk_65_method_121_24 rfl rfl ?_
  refine s_static (pc' := 28) W (w165 hw) (w166 hw) (w167 hw) (w168 hw) (by decide) pd8 [(.int (Int32.ofNat cap)), (.int (Int32.ofNat n))] rfl (c_mathmin l hw W.old) all0 rfl d_jdk_65_method_121_25 4 (le rfl) (bl rfl) (bl rfl) (by (try dsimp only) <;> omega) (by (try dsimp only) <;> omega) rfl ?_
  rintro _ T vm _ W C2 ⟨rfl, rfl⟩
  replace M_c := M_c.mv C2
  rw [if_neg (n_ge (Nat.le_of_lt hlt) (by omega))]
  have hc0 : (0 : Int32).toNatClampNeg = 0 := rfl
  refine s_copy (pc' := 31) W (w169 hw) (w124 hw) (w122 hw) (w123 hw) A V_c rfl (by decide) (by decide) (n_nn (by omega)) (by rw [hc0, n_clamp (by omega)]; omega) (by rw [hc0, n_clamp (by omega), n_clamp (by omega)]; omega) (by rw [hc0, n_clamp (by omega), List.length_replicate]; omega) M_c rfl d_jdk_65_method_121_28 0 (le rfl) (bl rfl) (by rw [nfw]; exact bl rfl) rfl ?_
  intro T h W K3 C3 Vn3
  replace Kt := Kt.trans K3 (allS (P := fun x => _ ∨ _) (Or.inr fs_c) all0)
  replace A := A.keep K3 (ninS ne_b_c nin0)
  replace M_c := M_c.mv C3
  replace X_c := X_c.keep K3
  have V_c := Vn3
  clear Vn3
  rw [hc0, n_clamp (by omega), range_vs vs cap hvs] at V_c
  refine s_aload_n (pc' := 32) W d_jdk_65_method_121_31 rfl rfl rfl ?_
  refine s_areturn W rfl rfl rfl d_jdk_65_method_121_32 (by (try dsimp only) <;> omega) (by (try dsimp only) <;> omega) ?_
  intro vm' C'
  exact ⟨c, k_c, rfl, Kt, by simpa using V_c, X_c, fs_c, M_c.mv C'⟩
set_option maxRecDepth 65536 in
set_option maxHeartbeats 40000000 in
theorem ef_ensureG (m : MethodId) (x0 : Addr) (x1 : Int32) : entryFrame m #[(.ref x0), (.int x1)] 3 = mkF m 0 #[.val (.ref x0), .val (.int x1), .unset] [] := by first | (simp [entryFrame, mkF, argsToLocals, Value.category]; done) | rfl
set_option maxRecDepth 65536 in
set_option maxHeartbeats 40000000 in
theorem c_ensureG (l : Launch) {Z : State} {a0 : Array Value} (hw : Hw Z a0) {n0 : Nat} {h : Heap} (O : Old Z n0 h) {a b : Nat} {kb : ClassId} {cap : Nat} {cs : List Int32} (F : SBd Z h a b kb cap cs) {mm : Nat} (hcap : gcap cap mm ≤ 4096) (nab : a ≠ b) (M0 : n0 ≤ a) (M1 : n0 ≤ b) :
    Con l Z EL1 n0 (⟨"java/lang/AbstractStringBuilder", "ensureCapacityInternal", "(I)V"⟩ : MethodName) jdk_68_method_9_code 3 none [] ({ frames := 3, cells := 1, slots := gcap cap mm, locals := 48 } : Room) #[(.ref a), (.int (Int32.ofNat mm))] h [a, b] (fun v vm' h' => v = none ∧ Keep h h' [a] ∧ ∃ b' kb', SBd Z h' a b' kb' (gcap cap (mm)) (cs) ∧ (b' = b ∨ h.size ≤ b') ∧ Mine Z EL1 n0 vm' h' b' ∧ a ≠ b') := by
  refine Con.of pn18 O (el hw) ?_
  intro pg_ e s m below meth cd_ T W hs_ hSf
  rw [ef_ensureG]
  have F0 := F
  obtain ⟨f1, f2, f3, f4, ⟨r, hr, A⟩, f6⟩ := F
  have hc4 := f6.2.1
  have M : Mine Z EL1 n0 s.vm h a := ⟨M0, f1.lt, hSf a (by simp)⟩
  have MB : Mine Z EL1 n0 s.vm h b := ⟨M1, A.lt, hSf b (by simp)⟩
  refine s_aload_n (pc' := 1) W d_jdk_68_method_9_0 rfl rfl rfl ?_
  refine s_getf (pc' := 4) W (w71 hw) Via.refl f4 d_jdk_68_method_9_1 rfl ?_
  intro T W
  refine s_alen (pc' := 5) W A d_jdk_68_method_9_4 rfl ?_
  refine s_aload_n (pc' := 6) W d_jdk_68_method_9_5 rfl rfl rfl ?_
  refine s_getf (pc' := 9) W (w73 hw) Via.refl f2 d_jdk_68_method_9_6 rfl ?_
  intro T W
  refine s_ishr (pc' := 10) W d_jdk_68_method_9_9 rfl ?_
  rw [shr0]
  refine s_istore_n (pc' := 11) W #[rv a, iv (Int32.ofNat mm), iv (Int32.ofNat cap)] d_jdk_68_method_9_10 rfl rfl ?_
  refine s_iload_n (pc' := 12) W d_jdk_68_method_9_11 rfl rfl ?_
  refine s_iload_n (pc' := 13) W d_jdk_68_method_9_12 rfl rfl ?_
  refine s_isub (pc' := 14) W d_jdk_68_method_9_13 rfl ?_
  rcases Nat.lt_or_ge cap mm with hlt | hge
  · have hg := gcap_gt hlt
    have Kt := Keep.refl h [a]
    have la := nlt f1.lt
    refine s_ifle (pc' := 17) (pcT := 38) W d_jdk_68_method_9_14 (by decide) rfl rfl (fun hq => absurd (sub_gt0 hlt (by omega)) hq) (fun _ => ?_)
    refine s_aload_n (pc' := 18) W d_jdk_68_method_9_17 rfl rfl rfl ?_
    refine s_aload_n (pc' := 19) W d_jdk_68_method_9_18 rfl rfl rfl ?_
    refine s_getf (pc' := 22) W (w71 hw) Via.refl f4 d_jdk_68_method_9_19 rfl ?_
    intro T W
    refine s_aload_n (pc' := 23) W d_jdk_68_method_9_22 rfl rfl rfl ?_
    refine s_iload_n (pc' := 24) W d_jdk_68_method_9_23 rfl rfl ?_
    refine s_virt (pc' := 27) W (C0 := "java/lang/StringBuilder") (w279 hw) (decl_of (w280 hw) (w283 hw)) (w282 hw) (w280 hw) (w67 hw) (w283 hw) (notFace_of_selects (args := a0) (w282 hw)) (by decide) pd10 [(.int (Int32.ofNat mm))] rfl f1 (c_newcap l hw W.old F0 hlt (by omega)) all0 rfl d_jdk_68_method_9_24 2 (le rfl) (bl rfl) (bl rfl) (by (try dsimp only) <;> omega) (by (try dsimp only) <;> omega) rfl ?_
    rintro _ T vm _ W C1 ⟨rfl, rfl⟩
    replace M := M.mv C1
    refine s_aload_n (pc' := 28) W d_jdk_68_method_9_27 rfl rfl rfl ?_
    refine s_getf (pc' := 31) W (w73 hw) Via.refl f2 d_jdk_68_method_9_28 rfl ?_
    intro T W
    refine s_ishl (pc' := 32) W d_jdk_68_method_9_31 rfl ?_
    rw [shl0]
    refine s_static (pc' := 35) W (w291 hw) (w292 hw) (w157 hw) (w293 hw) (by decide) pd11 [(.ref b), (.int (Int32.ofNat (cap + max (mm - cap) (cap + 2))))] rfl (c_copyofB l hw W.old (cap := cap) (n := cap + max (mm - cap) (cap + 2)) (by simp; omega) (by omega) (by omega) A) all0 rfl d_jdk_68_method_9_32 1 (le rfl) (bl rfl) (bl rfl) (by (try dsimp only) <;> omega) (by (try dsimp only) <;> omega) rfl ?_
    rintro _ T vm h W C2 ⟨c, kc, rfl, K2, V_c, X_c, fs_c, M_c⟩
    replace Kt := Kt.trans K2 all0
    replace M := M.mv C2
    replace f1 := f1.keep K2
    replace f2 := f2.keep K2 nin0
    replace f3 := f3.keep K2 nin0
    replace f4 := f4.keep K2 nin0
    have nac : @Ne Nat a c := by omega
    refine s_putf (pc' := 38) W (w71 hw) Via.refl f4 f1 M (Or.inl (w72 hw)) (w58 hw) (ty := (.array .byte)) (by decide) rfl rfl d_jdk_68_method_9_35 rfl ?_
    intro T h W K3 C3 Wr3 Fn3
    replace f2 := f2.other Wr3 (Or.inr (slot_ne (Or.inl (w74 hw)) (Or.inl (w72 hw)) (by decide) (by decide : parseFieldDescriptor "B" = some .byte) (by decide : parseFieldDescriptor "[B" = some (.array .byte))))
    replace f3 := f3.other Wr3 (Or.inr (slot_ne (Or.inl (w99 hw)) (Or.inl (w72 hw)) (by decide) (by decide : parseFieldDescriptor "I" = some .int) (by decide : parseFieldDescriptor "[B" = some (.array .byte))))
    replace Kt := Kt.trans K3 (allS (P := fun x => _ ∨ _) (Or.inl (by simp)) all0)
    replace M := M.mv C3
    replace f1 := f1.keep K3
    replace V_c := V_c.keep K3 (ninS (Ne.symm nac) nin0)
    replace X_c := X_c.keep K3
    replace M_c := M_c.mv C3
    have f4 := Fn3
    clear Fn3
    refine s_ret W rfl d_jdk_68_method_9_38 (by (try dsimp only) <;> omega) (by (try dsimp only) <;> omega) ?_
    intro vm' C'
    exact ⟨rfl, Kt, c, kc, ⟨f1, f2, f3, f4, ⟨r ++ List.replicate (cap + max (mm - cap) (cap + 2) - cap) (.int 0), by rw [hg]; simp; omega, by rw [hg, ← List.append_assoc]; exact V_c⟩, f6.1, hcap, X_c⟩, Or.inr fs_c, M_c.mv C', nac⟩
  · refine s_ifle (pc' := 17) (pcT := 38) W d_jdk_68_method_9_14 (by decide) rfl rfl (fun _ => ?_) (fun hq => absurd hq (sub_le0' hge hc4))
    refine s_ret W rfl d_jdk_68_method_9_38 (by (try dsimp only) <;> omega) (by (try dsimp only) <;> omega) ?_
    intro vm' C'
    exact ⟨rfl, Keep.refl _ _, b, kb, by rw [gcap_le hge]; exact F0, Or.inl rfl, MB.mv C', nab⟩
set_option maxRecDepth 65536 in
set_option maxHeartbeats 40000000 in
theorem ef_sbinit (m : MethodId) (x0 : Addr) : entryFrame m #[(.ref x0)] 1 = mkF m 0 #[.val (.ref x0)] [] := by first | (simp [entryFrame, mkF, argsToLocals, Value.category]; done) | rfl
set_option maxRecDepth 65536 in
set_option maxHeartbeats 40000000 in
theorem c_sbinit (l : Launch) {Z : State} {a0 : Array Value} (hw : Hw Z a0) {n0 : Nat} {h : Heap} (O : Old Z n0 h) {a : Nat} (CS0 : CS Z) (E : Exa Z h a "java/lang/StringBuilder") (M0 : n0 ≤ a) (Ma : a < h.size) (Fc : Fld Z h a "java/lang/AbstractStringBuilder" "coder" "B" (.int 0)) (Fv : Fld Z h a "java/lang/AbstractStringBuilder" "value" "[B" .null) (Fn : Fld Z h a "java/lang/AbstractStringBuilder" "count" "I" (.int 0)) :
    Con l Z EL1 n0 (⟨"java/lang/StringBuilder", "<init>", "()V"⟩ : MethodName) jdk_67_method_1_code 1 none [] ({ frames := 2, cells := 1, slots := 16, locals := 25 } : Room) #[(.ref a)] h [a] (fun v vm' h' => v = none ∧ Keep h h' [a] ∧ ∃ b kb, SBd Z h' a b kb 16 [] ∧ h.size ≤ b ∧ Mine Z EL1 n0 vm' h' b) := by
  refine Con.of pn19 O (el hw) ?_
  intro pg_ e s m below meth cd_ T W hs_ hSf
  rw [ef_sbinit]
  have Sa := hSf a (by simp)
  refine s_aload_n (pc' := 1) W d_jdk_67_method_1_0 rfl rfl rfl ?_
  refine s_bipush (pc' := 3) W (16 : Int32) d_jdk_67_method_1_1 rfl rfl ?_
  refine s_init (pc' := 6) W rfl (w63 hw) (w64 hw) (w67 hw) (w68 hw) (by decide) pd12 [(.int (16 : Int32))] rfl (c_asbinit l hw W.old (cap := 16) CS0 (by decide) E M0 Ma Fc Fv Fn) (allS ⟨Ma, Sa⟩ all0) rfl d_jdk_67_method_1_3 0 (le rfl) (bl rfl) (bl rfl) (bl rfl) (bl rfl) rfl ?_
  rintro _ T vm h W C1 ⟨rfl, K1, b, kb, Sb, fs_b, Mb⟩
  refine s_ret W rfl d_jdk_67_method_1_6 (bl rfl) (bl rfl) ?_
  intro vm' C'
  exact ⟨rfl, K1, b, kb, Sb, fs_b, Mb.mv C'⟩
set_option maxRecDepth 65536 in
set_option maxHeartbeats 40000000 in
theorem ef_inflate (m : MethodId) (x0 : Addr) (x1 : Addr) : entryFrame m #[(.ref x0), (.ref x1)] 2 = mkF m 0 #[.val (.ref x0), .val (.ref x1)] [] := by first | (simp [entryFrame, mkF, argsToLocals, Value.category]; done) | rfl
set_option maxRecDepth 65536 in
set_option maxHeartbeats 40000000 in
theorem c_inflate (l : Launch) {Z : State} {a0 : Array Value} (hw : Hw Z a0) {n0 : Nat} {h : Heap} (O : Old Z n0 h) (CS0 : CS Z) {a b : Nat} {kb : ClassId} {cap : Nat} {cs : List Int32} (F : SBd Z h a b kb cap cs) {sa sb : Nat} {ks : ClassId} {ds : List Int32} (G : LatB Z h sa sb ks ds) :
    Con l Z EL1 n0 (⟨"java/lang/AbstractStringBuilder", "inflateIfNeededFor", "(Ljava/lang/String;)V"⟩ : MethodName) jdk_68_method_71_code 2 none [] ({ frames := 1, cells := 0, slots := 0, locals := 13 } : Room) #[(.ref a), (.ref sa)] h [] (fun v vm' h' => v = none ∧ h = h') := by
  refine Con.of pn20 O (el hw) ?_
  intro pg_ e s m below meth cd_ T W hs_ hSf
  rw [ef_inflate]
  obtain ⟨vc, Sc, hvc⟩ := CS0
  refine s_gets (pc' := 3) W (w70 hw) Via.refl Sc d_jdk_68_method_71_0 rfl ?_
  intro T W
  refine s_ifeq (pc' := 6) (pcT := 21) W d_jdk_68_method_71_3 (by decide) rfl rfl (fun hq => absurd hq hvc) (fun _ => ?_)
  refine s_aload_n (pc' := 7) W d_jdk_68_method_71_6 rfl rfl rfl ?_
  refine s_getf (pc' := 10) W (w73 hw) Via.refl F.2.1 d_jdk_68_method_71_7 rfl ?_
  intro T W
  refine s_aload_n (pc' := 11) W d_jdk_68_method_71_10 rfl rfl rfl ?_
  refine s_virt (pc' := 14) W (C0 := "java/lang/String") (w115 hw) (w94 hw) (w96 hw) (w95 hw) (w2 hw) (w97 hw) (notFace_of_selects (args := a0) (w96 hw)) (by decide) pd4 [] rfl G.1 (c_strcoder l hw W.old ⟨vc, Sc, hvc⟩ G) all0 rfl d_jdk_68_method_71_11 1 (le rfl) (bl rfl) (bl rfl) (bl rfl) (bl rfl) rfl ?_
  rintro _ T vm _ W C1 ⟨rfl, rfl⟩
  refine s_icmpeq (pc' := 17) (pcT := 21) W d_jdk_68_method_71_14 (by decide) rfl rfl (fun _ => ?_) (fun hq => absurd (by decide) hq)
  refine s_ret W rfl d_jdk_68_method_71_21 (bl rfl) (bl rfl) ?_
  intro vm' C'
  exact ⟨rfl, rfl⟩
set_option maxRecDepth 65536 in
set_option maxHeartbeats 40000000 in
theorem ef_getbytes (m : MethodId) (x0 : Addr) (x1 : Addr) (x2 : Int32) (x3 : Int32) : entryFrame m #[(.ref x0), (.ref x1), (.int x2), (.int x3)] 4 = mkF m 0 #[.val (.ref x0), .val (.ref x1), .val (.int x2), .val (.int x3)] [] := by first | (simp [entryFrame, mkF, argsToLocals, Value.category]; done) | rfl
set_option maxRecDepth 65536 in
set_option maxHeartbeats 40000000 in
theorem c_getbytes (l : Launch) {Z : State} {a0 : Array Value} (hw : Hw Z a0) {n0 : Nat} {h : Heap} (O : Old Z n0 h) (CS0 : CS Z) {b sa sb : Nat} {kb ks : ClassId} {cap mm : Nat} {vs : List Value} {ds : List Int32} (hcap : cap ≤ 4096) (G : LatB Z h sa sb ks ds) (D : Arv Z h b kb .byte (Int32.ofNat cap) vs (.int 0)) (hvs : vs.length = cap) (hm : mm + ds.length ≤ cap) (M0 : n0 ≤ b) (Mb : b < h.size) :
    Con l Z EL1 n0 (⟨"java/lang/String", "getBytes", "([BIB)V"⟩ : MethodName) jdk_42_method_147_code 4 none [] ({ frames := 1, cells := 0, slots := 0, locals := 18 } : Room) #[(.ref sa), (.ref b), (.int (Int32.ofNat mm)), (.int (0 : Int32))] h [b] (fun v vm' h' => v = none ∧ Keep h h' [b] ∧ Arv Z h' b kb .byte (Int32.ofNat cap) (vs.take mm ++ ds.map bv ++ vs.drop (mm + ds.length)) (.int 0)) := by
  refine Con.of pn21 O (el hw) ?_
  intro pg_ e s m below meth cd_ T W hs_ hSf
  rw [ef_getbytes]
  have M : Mine Z EL1 n0 s.vm h b := ⟨M0, Mb, hSf b (by simp)⟩
  have Kt := Keep.refl h [b]
  refine s_aload_n (pc' := 1) W d_jdk_42_method_147_0 rfl rfl rfl ?_
  refine s_virt (pc' := 4) W (C0 := "java/lang/String") (w93 hw) (w94 hw) (w96 hw) (w95 hw) (w2 hw) (w97 hw) (notFace_of_selects (args := a0) (w96 hw)) (by decide) pd4 [] rfl G.1 (c_strcoder l hw W.old CS0 G) all0 rfl d_jdk_42_method_147_1 0 (le rfl) (bl rfl) (bl rfl) (bl rfl) (bl rfl) rfl ?_
  rintro _ T vm _ W C1 ⟨rfl, rfl⟩
  replace M := M.mv C1
  refine s_iload_n (pc' := 5) W d_jdk_42_method_147_4 rfl rfl ?_
  refine s_icmpne (pc' := 8) (pcT := 28) W d_jdk_42_method_147_5 (by decide) rfl rfl (fun hq => absurd (by decide) hq) (fun _ => ?_)
  refine s_aload_n (pc' := 9) W d_jdk_42_method_147_8 rfl rfl rfl ?_
  refine s_getf (pc' := 12) W (w22 hw) Via.refl G.2.2.1 d_jdk_42_method_147_9 rfl ?_
  intro T W
  refine s_iconst (pc' := 13) W (0 : Int32) d_jdk_42_method_147_12 rfl rfl ?_
  refine s_aload_n (pc' := 14) W d_jdk_42_method_147_13 rfl rfl rfl ?_
  refine s_iload_n (pc' := 15) W d_jdk_42_method_147_14 rfl rfl ?_
  refine s_iload_n (pc' := 16) W d_jdk_42_method_147_15 rfl rfl ?_
  refine s_ishl (pc' := 17) W d_jdk_42_method_147_16 rfl ?_
  rw [shl0]
  refine s_aload_n (pc' := 18) W d_jdk_42_method_147_17 rfl rfl rfl ?_
  refine s_getf (pc' := 21) W (w22 hw) Via.refl G.2.2.1 d_jdk_42_method_147_18 rfl ?_
  intro T W
  refine s_alen (pc' := 22) W G.2.2.2.1 d_jdk_42_method_147_21 rfl ?_
  have hd31 : ds.length < 2147483648 := G.2.2.2.2.2
  have hc0 : (0 : Int32).toNatClampNeg = 0 := rfl
  refine s_copy (pc' := 25) W (w121 hw) (w124 hw) (w122 hw) (w123 hw) G.2.2.2.1 D rfl (by decide) (n_nn (by omega)) (n_nn hd31) (by rw [hc0, n_clamp hd31]; omega) (by rw [n_clamp (by omega), n_clamp hd31, n_clamp (by omega)]; omega) (by rw [n_clamp (by omega), n_clamp hd31]; omega) M rfl d_jdk_42_method_147_22 0 (le rfl) (bl rfl) (by rw [nfw]; exact bl rfl) rfl ?_
  intro T h W K2 C2 Vn2
  replace Kt := Kt.trans K2 (allS (P := fun x => _ ∨ _) (Or.inl (by simp)) all0)
  replace M := M.mv C2
  have D := Vn2
  clear Vn2
  rw [n_clamp (by omega), n_clamp hd31, hc0, range_getD ds _ rfl] at D
  refine s_goto (pc' := 43) W d_jdk_42_method_147_25 (by decide) rfl ?_
  refine s_ret W rfl d_jdk_42_method_147_43 (bl rfl) (bl rfl) ?_
  intro vm' C'
  exact ⟨rfl, Kt, D⟩
set_option maxRecDepth 65536 in
set_option maxHeartbeats 40000000 in
theorem ef_putstring (m : MethodId) (x0 : Addr) (x1 : Int32) (x2 : Addr) : entryFrame m #[(.ref x0), (.int x1), (.ref x2)] 3 = mkF m 0 #[.val (.ref x0), .val (.int x1), .val (.ref x2)] [] := by first | (simp [entryFrame, mkF, argsToLocals, Value.category]; done) | rfl
set_option maxRecDepth 65536 in
set_option maxHeartbeats 40000000 in
theorem c_putstring (l : Launch) {Z : State} {a0 : Array Value} (hw : Hw Z a0) {n0 : Nat} {h : Heap} (O : Old Z n0 h) (CS0 : CS Z) {a b : Nat} {kb : ClassId} {cap : Nat} {cs : List Int32} (F : SBd Z h a b kb cap cs) {sa sb : Nat} {ks : ClassId} {ds : List Int32} {mm : Nat} (G : LatB Z h sa sb ks ds) (hm : mm + ds.length ≤ cap) (M0 : n0 ≤ b) :
    Con l Z EL1 n0 (⟨"java/lang/AbstractStringBuilder", "putStringAt", "(ILjava/lang/String;)V"⟩ : MethodName) jdk_68_method_73_code 3 none [] ({ frames := 2, cells := 0, slots := 0, locals := 33 } : Room) #[(.ref a), (.int (Int32.ofNat mm)), (.ref sa)] h [b] (fun v vm' h' => v = none ∧ Keep h h' [b] ∧ ∃ rest : List Value, cs.length + rest.length = cap ∧ Arv Z h' b kb .byte (Int32.ofNat cap) ((cs.map bv ++ rest).take mm ++ ds.map bv ++ (cs.map bv ++ rest).drop (mm + ds.length)) (.int 0)) := by
  refine Con.of pn22 O (el hw) ?_
  intro pg_ e s m below meth cd_ T W hs_ hSf
  rw [ef_putstring]
  have Sb := hSf b (by simp)
  have Mb := nlt F.ltb
  refine s_aload_n (pc' := 1) W d_jdk_68_method_73_0 rfl rfl rfl ?_
  refine s_aload_n (pc' := 2) W d_jdk_68_method_73_1 rfl rfl rfl ?_
  refine s_virt (pc' := 5) W (C0 := "java/lang/StringBuilder") (w110 hw) (decl_of (w111 hw) (w114 hw)) (w113 hw) (w111 hw) (w67 hw) (w114 hw) (notFace_of_selects (args := a0) (w113 hw)) (by decide) pd13 [(.ref sa)] rfl F.1 (c_inflate l hw W.old CS0 F G) all0 rfl d_jdk_68_method_73_2 0 (le rfl) (bl rfl) (bl rfl) (bl rfl) (bl rfl) rfl ?_
  rintro _ T vm _ W C1 ⟨rfl, rfl⟩
  obtain ⟨f1, f2, f3, f4, ⟨r, hr, A⟩, f6⟩ := F
  refine s_aload_n (pc' := 6) W d_jdk_68_method_73_5 rfl rfl rfl ?_
  refine s_aload_n (pc' := 7) W d_jdk_68_method_73_6 rfl rfl rfl ?_
  refine s_getf (pc' := 10) W (w71 hw) Via.refl f4 d_jdk_68_method_73_7 rfl ?_
  intro T W
  refine s_iload_n (pc' := 11) W d_jdk_68_method_73_10 rfl rfl ?_
  refine s_aload_n (pc' := 12) W d_jdk_68_method_73_11 rfl rfl rfl ?_
  refine s_getf (pc' := 15) W (w73 hw) Via.refl f2 d_jdk_68_method_73_12 rfl ?_
  intro T W
  have Sb2 := C1.safe Mb Sb
  refine s_virt (pc' := 18) W (C0 := "java/lang/String") (w116 hw) (w117 hw) (w119 hw) (w118 hw) (w2 hw) (w120 hw) (notFace_of_selects (args := a0) (w119 hw)) (by decide) pd14 [(.ref b), (.int (Int32.ofNat mm)), (.int (0 : Int32))] rfl G.1 (c_getbytes l hw W.old CS0 f6.2.1 G A (by simp; omega) hm M0 Mb) (allS ⟨Mb, Sb2⟩ all0) rfl d_jdk_68_method_73_15 0 (le rfl) (bl rfl) (bl rfl) (bl rfl) (bl rfl) rfl ?_
  rintro _ T vm h W C2 ⟨rfl, K2, D⟩
  have K0 := K2
  refine s_ret W rfl d_jdk_68_method_73_18 (bl rfl) (bl rfl) ?_
  intro vm' C'
  exact ⟨rfl, K0, r, hr, D⟩
set_option maxRecDepth 65536 in
set_option maxHeartbeats 40000000 in
theorem ef_asbappendG (m : MethodId) (x0 : Addr) (x1 : Addr) : entryFrame m #[(.ref x0), (.ref x1)] 3 = mkF m 0 #[.val (.ref x0), .val (.ref x1), .unset] [] := by first | (simp [entryFrame, mkF, argsToLocals, Value.category]; done) | rfl
set_option maxRecDepth 65536 in
set_option maxHeartbeats 40000000 in
theorem c_asbappendG (l : Launch) {Z : State} {a0 : Array Value} (hw : Hw Z a0) {n0 : Nat} {h : Heap} (O : Old Z n0 h) (CS0 : CS Z) {a b : Nat} {kb : ClassId} {cap : Nat} {cs : List Int32} (F : SBd Z h a b kb cap cs) {sa sb : Nat} {ks : ClassId} {ds : List Int32} (G : LatB Z h sa sb ks ds) (hm : gcap cap (cs.length + ds.length) ≤ 4096) (nsa : sa ≠ a) (nsb : sb ≠ a) (nab : a ≠ b) (M0 : n0 ≤ a) (M1 : n0 ≤ b) :
    Con l Z EL1 n0 (⟨"java/lang/AbstractStringBuilder", "append", "(Ljava/lang/String;)Ljava/lang/AbstractStringBuilder;"⟩ : MethodName) jdk_68_method_22_code 3 (some (.object "java/lang/AbstractStringBuilder")) [] ({ frames := 4, cells := 1, slots := gcap cap (cs.length + ds.length), locals := 62 } : Room) #[(.ref a), (.ref sa)] h [a, b] (fun v vm' h' => v = some (.ref a) ∧ Keep h h' [a, b] ∧ ∃ b' kb', SBd Z h' a b' kb' (gcap cap (cs.length + ds.length)) (cs ++ ds) ∧ (b' = b ∨ h.size ≤ b') ∧ Mine Z EL1 n0 vm' h' b' ∧ a ≠ b') := by
  refine Con.of pn23 O (el hw) ?_
  intro pg_ e s m below meth cd_ T W hs_ hSf
  rw [ef_asbappendG]
  have M : Mine Z EL1 n0 s.vm h a := ⟨M0, F.lt, hSf a (by simp)⟩
  have MB : Mine Z EL1 n0 s.vm h b := ⟨M1, F.ltb, hSf b (by simp)⟩
  have Kt := Keep.refl h [a, b]
  have lbF := nlt F.ltb
  have laF := nlt F.lt
  refine s_aload_n (pc' := 1) W d_jdk_68_method_22_0 rfl rfl rfl ?_
  refine s_ifnonnullY (pcT := 9) W d_jdk_68_method_22_1 (by decide) rfl ?_
  refine s_aload_n (pc' := 10) W d_jdk_68_method_22_9 rfl rfl rfl ?_
  refine s_virt (pc' := 13) W (C0 := "java/lang/String") (w88 hw) (w89 hw) (w91 hw) (w90 hw) (w2 hw) (w92 hw) (notFace_of_selects (args := a0) (w91 hw)) (by decide) pd15 [] rfl G.1 (c_strlength l hw W.old CS0 G) all0 rfl d_jdk_68_method_22_10 0 (le rfl) (bl rfl) (bl rfl) (by (try dsimp only) <;> omega) (by (try dsimp only) <;> omega) rfl ?_
  rintro _ T vm _ W C1 ⟨rfl, rfl⟩
  replace M := M.mv C1
  replace MB := MB.mv C1
  refine s_istore_n (pc' := 14) W #[rv a, rv sa, iv (Int32.ofNat ds.length)] d_jdk_68_method_22_13 rfl rfl ?_
  refine s_aload_n (pc' := 15) W d_jdk_68_method_22_14 rfl rfl rfl ?_
  refine s_aload_n (pc' := 16) W d_jdk_68_method_22_15 rfl rfl rfl ?_
  refine s_getf (pc' := 19) W (w98 hw) Via.refl F.2.2.1 d_jdk_68_method_22_16 rfl ?_
  intro T W
  refine s_iload_n (pc' := 20) W d_jdk_68_method_22_19 rfl rfl ?_
  refine s_iadd (pc' := 21) W d_jdk_68_method_22_20 rfl ?_
  rw [n_add]
  refine s_virt (pc' := 24) W (C0 := "java/lang/StringBuilder") (w100 hw) (decl_of (w101 hw) (w104 hw)) (w103 hw) (w101 hw) (w67 hw) (w104 hw) (notFace_of_selects (args := a0) (w103 hw)) (by decide) pd12 [(.int (Int32.ofNat (cs.length + ds.length)))] rfl F.1 (c_ensureG l hw W.old F hm nab M0 M1) (allS ⟨F.lt, M.2.2⟩ (allS ⟨F.ltb, MB.2.2⟩ all0)) rfl d_jdk_68_method_22_21 0 (le rfl) (bl rfl) (bl rfl) (by (try dsimp only) <;> omega) (by (try dsimp only) <;> omega) rfl ?_
  rintro _ T vm h W C2 ⟨rfl, K2, b', kb', F, hb', MB', nab'⟩
  replace Kt := Kt.trans K2 (allS (P := fun x => _ ∨ _) (Or.inl (by simp)) all0)
  replace G := G.keep K2 (ninS nsa nin0) (ninS nsb nin0)
  replace M := M.mv C2
  replace MB := MB.mv C2
  have hge := gcap_ge cap (cs.length + ds.length)
  refine s_aload_n (pc' := 25) W d_jdk_68_method_22_24 rfl rfl rfl ?_
  refine s_aload_n (pc' := 26) W d_jdk_68_method_22_25 rfl rfl rfl ?_
  refine s_getf (pc' := 29) W (w98 hw) Via.refl F.2.2.1 d_jdk_68_method_22_26 rfl ?_
  intro T W
  have F0 := F
  obtain ⟨f1, f2, f3, f4, -, f6⟩ := F
  have XB := f6.2.2
  refine s_aload_n (pc' := 30) W d_jdk_68_method_22_29 rfl rfl rfl ?_
  refine s_virt (pc' := 33) W (C0 := "java/lang/StringBuilder") (w105 hw) (decl_of (w106 hw) (w109 hw)) (w108 hw) (w106 hw) (w67 hw) (w109 hw) (notFace_of_selects (args := a0) (w108 hw)) (by decide) pd16 [(.int (Int32.ofNat cs.length)), (.ref sa)] rfl F0.1 (c_putstring l hw W.old CS0 F0 G (by omega) MB'.1) (allS ⟨MB'.2.1, MB'.2.2⟩ all0) rfl d_jdk_68_method_22_30 0 (le rfl) (bl rfl) (bl rfl) (by (try dsimp only) <;> omega) (by (try dsimp only) <;> omega) rfl ?_
  rintro _ T vm h W C3 ⟨rfl, K3, r, hr, D⟩
  replace Kt := Kt.trans K3 (allS (P := fun x => _ ∨ _) (hb'.elim (fun q => Or.inl (by simp [q])) (fun q => Or.inr q)) all0)
  replace M := M.mv C3
  replace MB := MB.mv C3
  replace MB' := MB'.mv C3
  replace XB := XB.keep K3
  replace f1 := f1.keep K3
  replace f2 := f2.keep K3 (ninS nab' nin0)
  replace f3 := f3.keep K3 (ninS nab' nin0)
  replace f4 := f4.keep K3 (ninS nab' nin0)
  replace D : Arv Z h b' kb' .byte (Int32.ofNat (gcap cap (cs.length + ds.length))) ((cs ++ ds).map bv ++ (r.drop ds.length)) (.int 0) := by rw [put_eq] at D; exact D
  refine s_aload_n (pc' := 34) W d_jdk_68_method_22_33 rfl rfl rfl ?_
  refine s_dup (pc' := 35) W d_jdk_68_method_22_34 rfl rfl ?_
  refine s_getf (pc' := 38) W (w98 hw) Via.refl f3 d_jdk_68_method_22_35 rfl ?_
  intro T W
  refine s_iload_n (pc' := 39) W d_jdk_68_method_22_38 rfl rfl ?_
  refine s_iadd (pc' := 40) W d_jdk_68_method_22_39 rfl ?_
  rw [n_add]
  refine s_putf (pc' := 43) W (w98 hw) Via.refl f3 f1 M (Or.inl (w99 hw)) (w58 hw) (ty := .int) (by decide) rfl rfl d_jdk_68_method_22_40 rfl ?_
  intro T h W K4 C4 Wr4 Fn4
  replace f2 := f2.other Wr4 (Or.inr (slot_ne (Or.inl (w74 hw)) (Or.inl (w99 hw)) (by decide) (by decide : parseFieldDescriptor "B" = some .byte) (by decide : parseFieldDescriptor "I" = some .int)))
  replace f4 := f4.other Wr4 (Or.inr (slot_ne (Or.inl (w72 hw)) (Or.inl (w99 hw)) (by decide) (by decide : parseFieldDescriptor "[B" = some (.array .byte)) (by decide : parseFieldDescriptor "I" = some .int)))
  replace Kt := Kt.trans K4 (allS (P := fun x => _ ∨ _) (Or.inl (by simp)) all0)
  replace M := M.mv C4
  replace MB := MB.mv C4
  replace MB' := MB'.mv C4
  replace XB := XB.keep K4
  replace f1 := f1.keep K4
  replace D := D.keep K4 (ninS (Ne.symm nab') nin0)
  have f3 := Fn4
  clear Fn4
  refine s_aload_n (pc' := 44) W d_jdk_68_method_22_43 rfl rfl rfl ?_
  refine s_areturn W rfl rfl rfl d_jdk_68_method_22_44 (by (try dsimp only) <;> omega) (by (try dsimp only) <;> omega) ?_
  intro vm' C'
  exact ⟨rfl, Kt, b', kb', ⟨f1, f2, by rw [List.length_append]; exact f3, f4, ⟨_, by simp; omega, D⟩, fun c hc => (List.mem_append.mp hc).elim (f6.1 c) (G.2.2.2.2.1 c), f6.2.1, XB⟩, hb', MB'.mv C', nab'⟩
set_option maxRecDepth 65536 in
set_option maxHeartbeats 40000000 in
theorem ef_sbappendG (m : MethodId) (x0 : Addr) (x1 : Addr) : entryFrame m #[(.ref x0), (.ref x1)] 2 = mkF m 0 #[.val (.ref x0), .val (.ref x1)] [] := by first | (simp [entryFrame, mkF, argsToLocals, Value.category]; done) | rfl
set_option maxRecDepth 65536 in
set_option maxHeartbeats 40000000 in
theorem c_sbappendG (l : Launch) {Z : State} {a0 : Array Value} (hw : Hw Z a0) {n0 : Nat} {h : Heap} (O : Old Z n0 h) (CS0 : CS Z) {a b : Nat} {kb : ClassId} {cap : Nat} {cs : List Int32} (F : SBd Z h a b kb cap cs) {sa sb : Nat} {ks : ClassId} {ds : List Int32} (G : LatB Z h sa sb ks ds) (hm : gcap cap (cs.length + ds.length) ≤ 4096) (nsa : sa ≠ a) (nsb : sb ≠ a) (nab : a ≠ b) (M0 : n0 ≤ a) (M1 : n0 ≤ b) :
    Con l Z EL1 n0 (⟨"java/lang/StringBuilder", "append", "(Ljava/lang/String;)Ljava/lang/StringBuilder;"⟩ : MethodName) jdk_67_method_7_code 2 (some (.object "java/lang/StringBuilder")) [] ({ frames := 5, cells := 1, slots := gcap cap (cs.length + ds.length), locals := 76 } : Room) #[(.ref a), (.ref sa)] h [a, b] (fun v vm' h' => v = some (.ref a) ∧ Keep h h' [a, b] ∧ ∃ b' kb', SBd Z h' a b' kb' (gcap cap (cs.length + ds.length)) (cs ++ ds) ∧ (b' = b ∨ h.size ≤ b') ∧ Mine Z EL1 n0 vm' h' b' ∧ a ≠ b') := by
  refine Con.of pn24 O (el hw) ?_
  intro pg_ e s m below meth cd_ T W hs_ hSf
  rw [ef_sbappendG]
  have S1 := hSf a (by simp)
  have S2 := hSf b (by simp)
  refine s_aload_n (pc' := 1) W d_jdk_67_method_7_0 rfl rfl rfl ?_
  refine s_aload_n (pc' := 2) W d_jdk_67_method_7_1 rfl rfl rfl ?_
  refine s_super (pc' := 5) W (K := "java/lang/AbstractStringBuilder") (w83 hw) (same_of (y := (⟨"java/lang/AbstractStringBuilder", "append", "(Ljava/lang/String;)Ljava/lang/AbstractStringBuilder;"⟩ : MethodName)) (by decide) (w84 hw) (nf_of (y := (⟨"java/lang/AbstractStringBuilder", "append", "(Ljava/lang/String;)Ljava/lang/AbstractStringBuilder;"⟩ : MethodName)) (y' := (⟨"java/lang/AbstractStringBuilder", "ensureCapacityInternal", "(I)V"⟩ : MethodName)) rfl (w103 hw))) (w84 hw) (w85 hw) (w67 hw) (w87 hw) (by decide) pd17 [(.ref sa)] rfl (Ins.of_exa F.1 (w66 hw)) (c_asbappendG l hw W.old CS0 F G hm nsa nsb nab M0 M1) (allS ⟨F.lt, S1⟩ (allS ⟨F.ltb, S2⟩ all0)) rfl d_jdk_67_method_7_2 0 (le rfl) (bl rfl) (bl rfl) (by (try dsimp only) <;> omega) (by (try dsimp only) <;> omega) rfl ?_
  rintro _ T vm h W C1 ⟨rfl, K1, b', kb', H, hb', MB', nab'⟩
  refine s_pop (pc' := 6) W d_jdk_67_method_7_5 rfl rfl ?_
  refine s_aload_n (pc' := 7) W d_jdk_67_method_7_6 rfl rfl rfl ?_
  refine s_areturn W rfl rfl rfl d_jdk_67_method_7_7 (by (try dsimp only) <;> omega) (by (try dsimp only) <;> omega) ?_
  intro vm' C'
  exact ⟨rfl, K1, b', kb', H, hb', MB'.mv C', nab'⟩
set_option maxRecDepth 65536 in
set_option maxHeartbeats 40000000 in
theorem ef_asblatin1 (m : MethodId) (x0 : Addr) : entryFrame m #[(.ref x0)] 1 = mkF m 0 #[.val (.ref x0)] [] := by first | (simp [entryFrame, mkF, argsToLocals, Value.category]; done) | rfl
set_option maxRecDepth 65536 in
set_option maxHeartbeats 40000000 in
theorem c_asblatin1 (l : Launch) {Z : State} {a0 : Array Value} (hw : Hw Z a0) {n0 : Nat} {h : Heap} (O : Old Z n0 h) (CS0 : CS Z) {a b : Nat} {kb : ClassId} {cap : Nat} {cs : List Int32} (F : SBd Z h a b kb cap cs) :
    Con l Z EL1 n0 (⟨"java/lang/AbstractStringBuilder", "isLatin1", "()Z"⟩ : MethodName) jdk_68_method_68_code 1 (some .boolean) [] ({ frames := 0, cells := 0, slots := 0, locals := 0 } : Room) #[(.ref a)] h [] (fun v vm' h' => v = some (.int 1) ∧ h = h') := by
  refine Con.of pn25 O (el hw) ?_
  intro pg_ e s m below meth cd_ T W hs_ hSf
  rw [ef_asblatin1]
  obtain ⟨vc, Sc, hvc⟩ := CS0
  refine s_gets (pc' := 3) W (w70 hw) Via.refl Sc d_jdk_68_method_68_0 rfl ?_
  intro T W
  refine s_ifeq (pc' := 6) (pcT := 17) W d_jdk_68_method_68_3 (by decide) rfl rfl (fun hq => absurd hq hvc) (fun _ => ?_)
  refine s_aload_n (pc' := 7) W d_jdk_68_method_68_6 rfl rfl rfl ?_
  refine s_getf (pc' := 10) W (w73 hw) Via.refl F.2.1 d_jdk_68_method_68_7 rfl ?_
  intro T W
  refine s_ifne (pc' := 13) (pcT := 17) W d_jdk_68_method_68_10 (by decide) rfl rfl (fun hq => absurd (by decide) hq) (fun _ => ?_)
  refine s_iconst (pc' := 14) W (1 : Int32) d_jdk_68_method_68_13 rfl rfl ?_
  refine s_goto (pc' := 18) W d_jdk_68_method_68_14 (by decide) rfl ?_
  refine s_nreturn W (t := .boolean) rfl (by simp) d_jdk_68_method_68_18 (bl rfl) (bl rfl) ?_
  intro vm' C'
  exact ⟨rfl, rfl⟩
set_option maxRecDepth 65536 in
set_option maxHeartbeats 40000000 in
theorem ef_checklength (m : MethodId) (x0 : Int32) (x1 : Int32) : entryFrame m #[(.int x0), (.int x1)] 2 = mkF m 0 #[.val (.int x0), .val (.int x1)] [] := by first | (simp [entryFrame, mkF, argsToLocals, Value.category]; done) | rfl
set_option maxRecDepth 65536 in
set_option maxHeartbeats 40000000 in
theorem c_checklength (l : Launch) {Z : State} {a0 : Array Value} (hw : Hw Z a0) {n0 : Nat} {h : Heap} (O : Old Z n0 h) {x y : Int32} (hq0 : ¬ y < x) :
    Con l Z EL1 n0 (⟨"java/util/Arrays", "checkLength", "(II)V"⟩ : MethodName) jdk_65_method_131_code 2 none [] ({ frames := 0, cells := 0, slots := 0, locals := 0 } : Room) #[(.int x), (.int y)] h [] (fun v vm' h' => v = none ∧ h = h') := by
  refine Con.of pn26 O (el hw) ?_
  intro pg_ e s m below meth cd_ T W hs_ hSf
  rw [ef_checklength]
  refine s_iload_n (pc' := 1) W d_jdk_65_method_131_0 rfl rfl ?_
  refine s_iload_n (pc' := 2) W d_jdk_65_method_131_1 rfl rfl ?_
  refine s_icmpge (pc' := 5) (pcT := 37) W d_jdk_65_method_131_2 (by decide) rfl rfl (fun _ => ?_) (fun hq => absurd hq hq0)
  refine s_ret W rfl d_jdk_65_method_131_37 (bl rfl) (bl rfl) ?_
  intro vm' C'
  exact ⟨rfl, rfl⟩
set_option maxRecDepth 65536 in
set_option maxHeartbeats 40000000 in
theorem ef_copyrangebyte (m : MethodId) (x0 : Addr) (x1 : Int32) (x2 : Int32) : entryFrame m #[(.ref x0), (.int x1), (.int x2)] 5 = mkF m 0 #[.val (.ref x0), .val (.int x1), .val (.int x2), .unset, .unset] [] := by first | (simp [entryFrame, mkF, argsToLocals, Value.category]; done) | rfl
set_option maxRecDepth 65536 in
set_option maxHeartbeats 40000000 in
theorem c_copyrangebyte (l : Launch) {Z : State} {a0 : Array Value} (hw : Hw Z a0) {n0 : Nat} {h : Heap} (O : Old Z n0 h) {b : Nat} {kb : ClassId} {cap n : Nat} {cs : List Int32} {rest : List Value} (hn : cs.length = n) (hr : n + rest.length = cap) (hcap : cap ≤ 4096) (A : Arv Z h b kb .byte (Int32.ofNat cap) (cs.map bv ++ rest) (.int 0)) :
    Con l Z EL1 n0 (⟨"java/util/Arrays", "copyOfRangeByte", "([BII)[B"⟩ : MethodName) jdk_65_method_133_code 5 (some (.array .byte)) [] ({ frames := 1, cells := 1, slots := n, locals := 18 } : Room) #[(.ref b), (.int (0 : Int32)), (.int (Int32.ofNat n))] h [] (fun v vm' h' => ∃ c kc, v = some (.ref c) ∧ Keep h h' [] ∧ Arv Z h' c kc .byte (Int32.ofNat n) (cs.map bv) (.int 0) ∧ h.size ≤ c) := by
  refine Con.of pn27 O (el hw) ?_
  intro pg_ e s m below meth cd_ T W hs_ hSf
  rw [ef_copyrangebyte]
  have Kt := Keep.refl h []
  refine s_iload_n (pc' := 1) W d_jdk_65_method_133_0 rfl rfl ?_
  refine s_iload_n (pc' := 2) W d_jdk_65_method_133_1 rfl rfl ?_
  refine s_static (pc' := 5) W (w162 hw) (w163 hw) (w157 hw) (w164 hw) (by decide) pd18 [(.int (0 : Int32)), (.int (Int32.ofNat n))] rfl (c_checklength l hw W.old (n_nn (by omega))) all0 rfl d_jdk_65_method_133_2 0 (le rfl) (bl rfl) (bl rfl) (by (try dsimp only) <;> omega) (by (try dsimp only) <;> omega) rfl ?_
  rintro _ T vm _ W C1 ⟨rfl, rfl⟩
  refine s_iload_n (pc' := 6) W d_jdk_65_method_133_5 rfl rfl ?_
  refine s_iload_n (pc' := 7) W d_jdk_65_method_133_6 rfl rfl ?_
  refine s_isub (pc' := 8) W d_jdk_65_method_133_7 rfl ?_
  rw [sub0]
  refine s_istore_n (pc' := 9) W #[rv b, iv (0 : Int32), iv (Int32.ofNat n), iv (Int32.ofNat n), .unset] d_jdk_65_method_133_8 rfl rfl ?_
  refine s_iload_n (pc' := 10) W d_jdk_65_method_133_9 rfl rfl ?_
  refine s_newarr (pc' := 12) W (aty := .byte) n "[B" (by decide) (w14 hw) d_jdk_65_method_133_10 (n_nn (by omega)) (by rw [n_clamp (by omega)]; exact Nat.le_refl _) (by omega) (by (try dsimp only) <;> omega) (by (try dsimp only) <;> omega) rfl ?_
  intro c T h k_c g_c
  have fs_c := Nat.le_trans Kt.1 (Nat.le_of_eq g_c.symm)
  have ne_b_c : @Ne Nat b c := by have := nlt A.lt; omega
  intro W K2 C2 M_c V_c X_c
  replace Kt := Kt.trans K2 all0
  replace A := A.keep K2 nin0
  have V_c : Arv Z h c k_c .byte (Int32.ofNat n) (List.replicate n (.int 0)) (.int 0) := by have q := V_c; rw [n_clamp (by omega)] at q; exact q
  refine s_astore (pc' := 14) W #[rv b, iv (0 : Int32), iv (Int32.ofNat n), iv (Int32.ofNat n), rv c] d_jdk_65_method_133_12 rfl rfl rfl ?_
  refine s_aload_n (pc' := 15) W d_jdk_65_method_133_14 rfl rfl rfl ?_
  refine s_iload_n (pc' := 16) W d_jdk_65_method_133_15 rfl rfl ?_
  refine s_aload (pc' := 18) W d_jdk_65_method_133_16 rfl rfl rfl ?_
  refine s_iconst (pc' := 19) W (0 : Int32) d_jdk_65_method_133_18 rfl rfl ?_
  refine s_aload_n (pc' := 20) W d_jdk_65_method_133_19 rfl rfl rfl ?_
  refine s_alen (pc' := 21) W A d_jdk_65_method_133_20 rfl ?_
  refine s_iload_n (pc' := 22) W d_jdk_65_method_133_21 rfl rfl ?_
  refine s_isub (pc' := 23) W d_jdk_65_method_133_22 rfl ?_
  rw [sub0]
  refine s_iload_n (pc' := 24) W d_jdk_65_method_133_23 rfl rfl ?_
  refine s_static (pc' := 27) W (w165 hw) (w166 hw) (w167 hw) (w168 hw) (by decide) pd8 [(.int (Int32.ofNat cap)), (.int (Int32.ofNat n))] rfl (c_mathmin l hw W.old) all0 rfl d_jdk_65_method_133_24 4 (le rfl) (bl rfl) (bl rfl) (by (try dsimp only) <;> omega) (by (try dsimp only) <;> omega) rfl ?_
  rintro _ T vm _ W C3 ⟨rfl, rfl⟩
  replace M_c := M_c.mv C3
  have hmin : (if (Int32.ofNat n) < (Int32.ofNat cap) then (Int32.ofNat n) else (Int32.ofNat cap)) = Int32.ofNat n := by rcases Nat.lt_or_ge n cap with q | q; exact if_pos (n_lt q (by omega)); rw [show cap = n by omega, if_neg (n_ge (Nat.le_refl _) (by omega))]
  rw [hmin]
  have hc0 : (0 : Int32).toNatClampNeg = 0 := rfl
  refine s_copy (pc' := 30) W (w169 hw) (w124 hw) (w122 hw) (w123 hw) A V_c rfl (by decide) (by decide) (n_nn (by omega)) (by rw [hc0, n_clamp (by omega), n_clamp (by omega)]; omega) (by rw [hc0, n_clamp (by omega)]; omega) (by rw [hc0, n_clamp (by omega), List.length_replicate]; omega) M_c rfl d_jdk_65_method_133_27 0 (le rfl) (bl rfl) (by rw [nfw]; exact bl rfl) rfl ?_
  intro T h W K4 C4 Vn4
  replace Kt := Kt.trans K4 (allS (P := fun x => _ ∨ _) (Or.inr fs_c) all0)
  replace A := A.keep K4 (ninS ne_b_c nin0)
  replace M_c := M_c.mv C4
  replace X_c := X_c.keep K4
  have V_c := Vn4
  clear Vn4
  rw [hc0, n_clamp (by omega), range_getD' cs rest n hn] at V_c
  refine s_aload (pc' := 32) W d_jdk_65_method_133_30 rfl rfl rfl ?_
  refine s_areturn W rfl rfl rfl d_jdk_65_method_133_32 (by (try dsimp only) <;> omega) (by (try dsimp only) <;> omega) ?_
  intro vm' C'
  exact ⟨c, k_c, rfl, Kt, by simpa using V_c, fs_c⟩
set_option maxRecDepth 65536 in
set_option maxHeartbeats 40000000 in
theorem ef_copyrange (m : MethodId) (x0 : Addr) (x1 : Int32) (x2 : Int32) : entryFrame m #[(.ref x0), (.int x1), (.int x2)] 3 = mkF m 0 #[.val (.ref x0), .val (.int x1), .val (.int x2)] [] := by first | (simp [entryFrame, mkF, argsToLocals, Value.category]; done) | rfl
set_option maxRecDepth 65536 in
set_option maxHeartbeats 40000000 in
theorem c_copyrange (l : Launch) {Z : State} {a0 : Array Value} (hw : Hw Z a0) {n0 : Nat} {h : Heap} (O : Old Z n0 h) {b : Nat} {kb : ClassId} {cap n : Nat} {cs : List Int32} {rest : List Value} (hn : cs.length = n) (hr : n + rest.length = cap) (hcap : cap ≤ 4096) (A : Arv Z h b kb .byte (Int32.ofNat cap) (cs.map bv ++ rest) (.int 0)) (hlt : n < cap) :
    Con l Z EL1 n0 (⟨"java/util/Arrays", "copyOfRange", "([BII)[B"⟩ : MethodName) jdk_65_method_132_code 3 (some (.array .byte)) [] ({ frames := 2, cells := 1, slots := n, locals := 34 } : Room) #[(.ref b), (.int (0 : Int32)), (.int (Int32.ofNat n))] h [] (fun v vm' h' => ∃ c kc, v = some (.ref c) ∧ Keep h h' [] ∧ Arv Z h' c kc .byte (Int32.ofNat n) (cs.map bv) (.int 0) ∧ h.size ≤ c) := by
  refine Con.of pn28 O (el hw) ?_
  intro pg_ e s m below meth cd_ T W hs_ hSf
  rw [ef_copyrange]
  refine s_iload_n (pc' := 1) W d_jdk_65_method_132_0 rfl rfl ?_
  refine s_ifne (pc' := 4) (pcT := 10) W d_jdk_65_method_132_1 (by decide) rfl rfl (fun hq => absurd (by decide) hq) (fun _ => ?_)
  refine s_iload_n (pc' := 5) W d_jdk_65_method_132_4 rfl rfl ?_
  refine s_aload_n (pc' := 6) W d_jdk_65_method_132_5 rfl rfl rfl ?_
  refine s_alen (pc' := 7) W A d_jdk_65_method_132_6 rfl ?_
  refine s_icmpeq (pc' := 10) (pcT := 17) W d_jdk_65_method_132_7 (by decide) rfl rfl (fun hq => absurd hq (fun q => by have := n_inj (by omega) (by omega) q; omega)) (fun _ => ?_)
  refine s_aload_n (pc' := 11) W d_jdk_65_method_132_10 rfl rfl rfl ?_
  refine s_iload_n (pc' := 12) W d_jdk_65_method_132_11 rfl rfl ?_
  refine s_iload_n (pc' := 13) W d_jdk_65_method_132_12 rfl rfl ?_
  refine s_static (pc' := 16) W (w159 hw) (w160 hw) (w157 hw) (w161 hw) (by decide) pd19 [(.ref b), (.int (0 : Int32)), (.int (Int32.ofNat n))] rfl (c_copyrangebyte l hw W.old hn hr hcap A) all0 rfl d_jdk_65_method_132_13 0 (le rfl) (bl rfl) (bl rfl) (by (try dsimp only) <;> omega) (by (try dsimp only) <;> omega) rfl ?_
  rintro _ T vm h W C1 ⟨c, kc, rfl, K1, V, hc⟩
  refine s_areturn W rfl rfl rfl d_jdk_65_method_132_16 (by (try dsimp only) <;> omega) (by (try dsimp only) <;> omega) ?_
  intro vm' C'
  exact ⟨c, kc, rfl, K1, V, hc⟩
set_option maxRecDepth 65536 in
set_option maxHeartbeats 40000000 in
theorem ef_asbgetvalue (m : MethodId) (x0 : Addr) : entryFrame m #[(.ref x0)] 1 = mkF m 0 #[.val (.ref x0)] [] := by first | (simp [entryFrame, mkF, argsToLocals, Value.category]; done) | rfl
set_option maxRecDepth 65536 in
set_option maxHeartbeats 40000000 in
theorem c_asbgetvalue (l : Launch) {Z : State} {a0 : Array Value} (hw : Hw Z a0) {n0 : Nat} {h : Heap} (O : Old Z n0 h) {a b : Nat} {kb : ClassId} {cap : Nat} {cs : List Int32} (F : SBd Z h a b kb cap cs) :
    Con l Z EL1 n0 (⟨"java/lang/AbstractStringBuilder", "getValue", "()[B"⟩ : MethodName) jdk_68_method_64_code 1 (some (.array .byte)) [] ({ frames := 0, cells := 0, slots := 0, locals := 0 } : Room) #[(.ref a)] h [] (fun v vm' h' => v = some (.ref b) ∧ h = h') := by
  refine Con.of pn29 O (el hw) ?_
  intro pg_ e s m below meth cd_ T W hs_ hSf
  rw [ef_asbgetvalue]
  refine s_aload_n (pc' := 1) W d_jdk_68_method_64_0 rfl rfl rfl ?_
  refine s_getf (pc' := 4) W (w71 hw) Via.refl F.2.2.2.1 d_jdk_68_method_64_1 rfl ?_
  intro T W
  refine s_areturn W rfl rfl rfl d_jdk_68_method_64_4 (bl rfl) (bl rfl) ?_
  intro vm' C'
  exact ⟨rfl, rfl⟩
set_option maxRecDepth 65536 in
set_option maxHeartbeats 40000000 in
theorem ef_asblength (m : MethodId) (x0 : Addr) : entryFrame m #[(.ref x0)] 1 = mkF m 0 #[.val (.ref x0)] [] := by first | (simp [entryFrame, mkF, argsToLocals, Value.category]; done) | rfl
set_option maxRecDepth 65536 in
set_option maxHeartbeats 40000000 in
theorem c_asblength (l : Launch) {Z : State} {a0 : Array Value} (hw : Hw Z a0) {n0 : Nat} {h : Heap} (O : Old Z n0 h) {a b : Nat} {kb : ClassId} {cap : Nat} {cs : List Int32} (F : SBd Z h a b kb cap cs) :
    Con l Z EL1 n0 (⟨"java/lang/AbstractStringBuilder", "length", "()I"⟩ : MethodName) jdk_68_method_6_code 1 (some .int) [] ({ frames := 0, cells := 0, slots := 0, locals := 0 } : Room) #[(.ref a)] h [] (fun v vm' h' => v = some (.int (Int32.ofNat cs.length)) ∧ h = h') := by
  refine Con.of pn30 O (el hw) ?_
  intro pg_ e s m below meth cd_ T W hs_ hSf
  rw [ef_asblength]
  refine s_aload_n (pc' := 1) W d_jdk_68_method_6_0 rfl rfl rfl ?_
  refine s_getf (pc' := 4) W (w98 hw) Via.refl F.2.2.1 d_jdk_68_method_6_1 rfl ?_
  intro T W
  refine s_ireturn W rfl d_jdk_68_method_6_4 (bl rfl) (bl rfl) ?_
  intro vm' C'
  exact ⟨rfl, rfl⟩
set_option maxRecDepth 65536 in
set_option maxHeartbeats 40000000 in
theorem ef_sblength (m : MethodId) (x0 : Addr) : entryFrame m #[(.ref x0)] 1 = mkF m 0 #[.val (.ref x0)] [] := by first | (simp [entryFrame, mkF, argsToLocals, Value.category]; done) | rfl
set_option maxRecDepth 65536 in
set_option maxHeartbeats 40000000 in
theorem c_sblength (l : Launch) {Z : State} {a0 : Array Value} (hw : Hw Z a0) {n0 : Nat} {h : Heap} (O : Old Z n0 h) {a b : Nat} {kb : ClassId} {cap : Nat} {cs : List Int32} (F : SBd Z h a b kb cap cs) :
    Con l Z EL1 n0 (⟨"java/lang/StringBuilder", "length", "()I"⟩ : MethodName) jdk_67_method_93_code 1 (some .int) [] ({ frames := 1, cells := 0, slots := 0, locals := 12 } : Room) #[(.ref a)] h [] (fun v vm' h' => v = some (.int (Int32.ofNat cs.length)) ∧ h = h') := by
  refine Con.of pn31 O (el hw) ?_
  intro pg_ e s m below meth cd_ T W hs_ hSf
  rw [ef_sblength]
  refine s_aload_n (pc' := 1) W d_jdk_67_method_93_0 rfl rfl rfl ?_
  refine s_super (pc' := 4) W (K := "java/lang/AbstractStringBuilder") (w148 hw) (same_of (y := (⟨"java/lang/AbstractStringBuilder", "length", "()I"⟩ : MethodName)) (by decide) (w144 hw) (nf_of (y := (⟨"java/lang/AbstractStringBuilder", "length", "()I"⟩ : MethodName)) (y' := (⟨"java/lang/AbstractStringBuilder", "ensureCapacityInternal", "(I)V"⟩ : MethodName)) rfl (w103 hw))) (w144 hw) (w85 hw) (w67 hw) (w149 hw) (by decide) pd15 [] rfl (Ins.of_exa F.1 (w66 hw)) (c_asblength l hw W.old F) all0 rfl d_jdk_67_method_93_1 0 (le rfl) (bl rfl) (bl rfl) (bl rfl) (bl rfl) rfl ?_
  rintro _ T vm _ W C1 ⟨rfl, rfl⟩
  refine s_ireturn W rfl d_jdk_67_method_93_4 (bl rfl) (bl rfl) ?_
  intro vm' C'
  exact ⟨rfl, rfl⟩
set_option maxRecDepth 65536 in
set_option maxHeartbeats 40000000 in
theorem ef_strinitASB (m : MethodId) (x0 : Addr) (x1 : Addr) : entryFrame m #[(.ref x0), (.ref x1), .null] 5 = mkF m 0 #[.val (.ref x0), .val (.ref x1), .val .null, .unset, .unset] [] := by first | (simp [entryFrame, mkF, argsToLocals, Value.category]; done) | rfl
set_option maxRecDepth 65536 in
set_option maxHeartbeats 40000000 in
theorem c_strinitASB (l : Launch) {Z : State} {a0 : Array Value} (hw : Hw Z a0) {n0 : Nat} {h : Heap} (O : Old Z n0 h) (CS0 : CS Z) {t : Nat} (E : Exa Z h t "java/lang/String") (M0 : n0 ≤ t) (Mt : t < h.size) (Fc : Fld Z h t "java/lang/String" "coder" "B" (.int 0)) (Fv : Fld Z h t "java/lang/String" "value" "[B" .null) {a b : Nat} {kb : ClassId} {cap : Nat} {cs : List Int32} (F : SBd Z h a b kb cap cs) (hlt : cs.length < cap) :
    Con l Z EL1 n0 (⟨"java/lang/String", "<init>", "(Ljava/lang/AbstractStringBuilder;Ljava/lang/Void;)V"⟩ : MethodName) jdk_42_method_150_code 5 none [] ({ frames := 3, cells := 1, slots := cap, locals := 49 } : Room) #[(.ref t), (.ref a), .null] h [t] (fun v vm' h' => v = none ∧ Keep h h' [t] ∧ ∃ c kc, LatB Z h' t c kc cs ∧ h.size ≤ c) := by
  refine Con.of pn32 O (el hw) ?_
  intro pg_ e s m below meth cd_ T W hs_ hSf
  rw [ef_strinitASB]
  have M : Mine Z EL1 n0 s.vm h t := ⟨M0, Mt, hSf t (by simp)⟩
  have Kt := Keep.refl h [t]
  have hle_ := F.le
  have lb := nlt F.ltb
  have ntb : @Ne Nat t b := by obtain ⟨-, -, -, -, ⟨r, hr, A⟩, -⟩ := F; exact E.neArv A (w10 hw)
  refine s_aload_n (pc' := 1) W d_jdk_42_method_150_0 rfl rfl rfl ?_
  refine s_objinit (pc' := 4) W (w19 hw) (w20 hw) (w21 hw) rfl d_jdk_42_method_150_1 0 (le rfl) (bl rfl) (bl rfl) rfl ?_
  intro T W
  refine s_aload_n (pc' := 5) W d_jdk_42_method_150_4 rfl rfl rfl ?_
  refine s_virt (pc' := 8) W (C0 := "java/lang/StringBuilder") (w137 hw) (w138 hw) (w140 hw) (w139 hw) (w67 hw) (w141 hw) (notFace_of_selects (args := a0) (w140 hw)) (by decide) pd20 [] rfl F.1 (c_asbgetvalue l hw W.old F) all0 rfl d_jdk_42_method_150_5 0 (le rfl) (bl rfl) (bl rfl) (by (try dsimp only) <;> omega) (by (try dsimp only) <;> omega) rfl ?_
  rintro _ T vm _ W C1 ⟨rfl, rfl⟩
  replace M := M.mv C1
  refine s_astore_n (pc' := 9) W #[rv t, rv a, .val .null, rv b, .unset] d_jdk_42_method_150_8 rfl rfl rfl ?_
  refine s_aload_n (pc' := 10) W d_jdk_42_method_150_9 rfl rfl rfl ?_
  refine s_virt (pc' := 13) W (C0 := "java/lang/StringBuilder") (w142 hw) (w143 hw) (w145 hw) (w146 hw) (w59 hw) (w147 hw) (nf_of (y := (⟨"java/lang/AbstractStringBuilder", "length", "()I"⟩ : MethodName)) (y' := (⟨"java/lang/AbstractStringBuilder", "ensureCapacityInternal", "(I)V"⟩ : MethodName)) rfl (w103 hw)) (by decide) pd15 [] rfl F.1 (c_sblength l hw W.old F) all0 rfl d_jdk_42_method_150_10 0 (le rfl) (bl rfl) (bl rfl) (by (try dsimp only) <;> omega) (by (try dsimp only) <;> omega) rfl ?_
  rintro _ T vm _ W C2 ⟨rfl, rfl⟩
  replace M := M.mv C2
  refine s_istore (pc' := 15) W #[rv t, rv a, .val .null, rv b, iv (Int32.ofNat cs.length)] d_jdk_42_method_150_13 rfl rfl ?_
  refine s_aload_n (pc' := 16) W d_jdk_42_method_150_15 rfl rfl rfl ?_
  refine s_virt (pc' := 19) W (C0 := "java/lang/StringBuilder") (w150 hw) (w151 hw) (w153 hw) (w152 hw) (w67 hw) (w154 hw) (notFace_of_selects (args := a0) (w153 hw)) (by decide) pd21 [] rfl F.1 (c_asblatin1 l hw W.old CS0 F) all0 rfl d_jdk_42_method_150_16 0 (le rfl) (bl rfl) (bl rfl) (by (try dsimp only) <;> omega) (by (try dsimp only) <;> omega) rfl ?_
  rintro _ T vm _ W C3 ⟨rfl, rfl⟩
  replace M := M.mv C3
  refine s_ifeq (pc' := 22) (pcT := 41) W d_jdk_42_method_150_19 (by decide) rfl rfl (fun hq => absurd hq (by decide)) (fun _ => ?_)
  obtain ⟨f1, f2, f3, f4, ⟨r, hr, A⟩, f6⟩ := F
  have XB := f6.2.2
  refine s_aload_n (pc' := 23) W d_jdk_42_method_150_22 rfl rfl rfl ?_
  refine s_iconst (pc' := 24) W (0 : Int32) d_jdk_42_method_150_23 rfl rfl ?_
  refine s_putfn (pc' := 27) W (w24 hw) Via.refl Fc E M (Or.inr ⟨(w25 hw), rfl, rfl⟩) (w10 hw) (ty := .byte) (v' := .int 0) (by decide) rfl rfl d_jdk_42_method_150_24 rfl ?_
  intro T h W K4 C4 Wr4 Fn4
  replace Fv := Fv.other Wr4 (Or.inr (slot_ne (Or.inr (w23 hw)) (Or.inr (w25 hw)) (by decide) (by decide : parseFieldDescriptor "[B" = some (.array .byte)) (by decide : parseFieldDescriptor "B" = some .byte)))
  replace Kt := Kt.trans K4 (allS (P := fun x => _ ∨ _) (Or.inl (by simp)) all0)
  replace E := E.keep K4
  replace M := M.mv C4
  replace A := A.keep K4 (ninS (Ne.symm ntb) nin0)
  replace XB := XB.keep K4
  have Fc := Fn4
  clear Fn4
  have lt0 := nlt M.2.1
  have Kt0 := Kt.1
  refine s_aload_n (pc' := 28) W d_jdk_42_method_150_27 rfl rfl rfl ?_
  refine s_aload_n (pc' := 29) W d_jdk_42_method_150_28 rfl rfl rfl ?_
  refine s_iconst (pc' := 30) W (0 : Int32) d_jdk_42_method_150_29 rfl rfl ?_
  refine s_iload (pc' := 32) W d_jdk_42_method_150_30 rfl rfl ?_
  refine s_static (pc' := 35) W (w155 hw) (w156 hw) (w157 hw) (w158 hw) (by decide) pd19 [(.ref b), (.int (0 : Int32)), (.int (Int32.ofNat cs.length))] rfl (c_copyrange l hw W.old rfl hr f6.2.1 A hlt) all0 rfl d_jdk_42_method_150_32 1 (le rfl) (bl rfl) (bl rfl) (by (try dsimp only) <;> omega) (by (try dsimp only) <;> omega) rfl ?_
  rintro _ T vm h W C5 ⟨c, kc, rfl, K5, V_c, hc⟩
  replace Kt := Kt.trans K5 all0
  replace E := E.keep K5
  replace M := M.mv C5
  replace A := A.keep K5 nin0
  replace XB := XB.keep K5
  replace Fv := Fv.keep K5 nin0
  replace Fc := Fc.keep K5 nin0
  have ntc : @Ne Nat t c := by omega
  refine s_putf (pc' := 38) W (w22 hw) Via.refl Fv E M (Or.inr ⟨(w23 hw), rfl, rfl⟩) (w10 hw) (ty := (.array .byte)) (by decide) rfl rfl d_jdk_42_method_150_35 rfl ?_
  intro T h W K6 C6 Wr6 Fn6
  replace Fc := Fc.other Wr6 (Or.inr (slot_ne (Or.inr (w25 hw)) (Or.inr (w23 hw)) (by decide) (by decide : parseFieldDescriptor "B" = some .byte) (by decide : parseFieldDescriptor "[B" = some (.array .byte))))
  replace Kt := Kt.trans K6 (allS (P := fun x => _ ∨ _) (Or.inl (by simp)) all0)
  replace E := E.keep K6
  replace M := M.mv C6
  replace A := A.keep K6 (ninS (Ne.symm ntb) nin0)
  replace XB := XB.keep K6
  replace V_c := V_c.keep K6 (ninS (Ne.symm ntc) nin0)
  have Fv := Fn6
  clear Fn6
  refine s_goto (pc' := 97) W d_jdk_42_method_150_38 (by decide) rfl ?_
  refine s_ret W rfl d_jdk_42_method_150_97 (by (try dsimp only) <;> omega) (by (try dsimp only) <;> omega) ?_
  intro vm' C'
  exact ⟨rfl, Kt, c, kc, ⟨E, Fc, Fv, V_c, f6.1, by omega⟩, Nat.le_trans Kt0 hc⟩
set_option maxRecDepth 65536 in
set_option maxHeartbeats 40000000 in
theorem ef_strinitSB (m : MethodId) (x0 : Addr) (x1 : Addr) : entryFrame m #[(.ref x0), (.ref x1)] 2 = mkF m 0 #[.val (.ref x0), .val (.ref x1)] [] := by first | (simp [entryFrame, mkF, argsToLocals, Value.category]; done) | rfl
set_option maxRecDepth 65536 in
set_option maxHeartbeats 40000000 in
theorem c_strinitSB (l : Launch) {Z : State} {a0 : Array Value} (hw : Hw Z a0) {n0 : Nat} {h : Heap} (O : Old Z n0 h) (CS0 : CS Z) {t : Nat} (E : Exa Z h t "java/lang/String") (M0 : n0 ≤ t) (Mt : t < h.size) (Fc : Fld Z h t "java/lang/String" "coder" "B" (.int 0)) (Fv : Fld Z h t "java/lang/String" "value" "[B" .null) {a b : Nat} {kb : ClassId} {cap : Nat} {cs : List Int32} (F : SBd Z h a b kb cap cs) (hlt : cs.length < cap) :
    Con l Z EL1 n0 (⟨"java/lang/String", "<init>", "(Ljava/lang/StringBuilder;)V"⟩ : MethodName) jdk_42_method_53_code 2 none [] ({ frames := 4, cells := 1, slots := cap, locals := 65 } : Room) #[(.ref t), (.ref a)] h [t] (fun v vm' h' => v = none ∧ Keep h h' [t] ∧ ∃ c kc, LatB Z h' t c kc cs ∧ h.size ≤ c) := by
  refine Con.of pn33 O (el hw) ?_
  intro pg_ e s m below meth cd_ T W hs_ hSf
  rw [ef_strinitSB]
  have St := hSf t (by simp)
  refine s_aload_n (pc' := 1) W d_jdk_42_method_53_0 rfl rfl rfl ?_
  refine s_aload_n (pc' := 2) W d_jdk_42_method_53_1 rfl rfl rfl ?_
  refine s_aconst_null (pc' := 3) W d_jdk_42_method_53_2 rfl ?_
  refine s_init (pc' := 6) W rfl (w134 hw) (w135 hw) (w2 hw) (w136 hw) (by decide) pd22 [(.ref a), .null] rfl (c_strinitASB l hw W.old CS0 E M0 Mt Fc Fv F hlt) (allS ⟨Mt, St⟩ all0) rfl d_jdk_42_method_53_3 0 (le rfl) (bl rfl) (bl rfl) (by (try dsimp only) <;> omega) (by (try dsimp only) <;> omega) rfl ?_
  rintro _ T vm h W C1 ⟨rfl, K1, L⟩
  refine s_ret W rfl d_jdk_42_method_53_6 (by (try dsimp only) <;> omega) (by (try dsimp only) <;> omega) ?_
  intro vm' C'
  exact ⟨rfl, K1, L⟩
set_option maxRecDepth 65536 in
set_option maxHeartbeats 40000000 in
theorem ef_sbtostring (m : MethodId) (x0 : Addr) : entryFrame m #[(.ref x0)] 1 = mkF m 0 #[.val (.ref x0)] [] := by first | (simp [entryFrame, mkF, argsToLocals, Value.category]; done) | rfl
set_option maxRecDepth 65536 in
set_option maxHeartbeats 40000000 in
theorem c_sbtostring (l : Launch) {Z : State} {a0 : Array Value} (hw : Hw Z a0) {n0 : Nat} {h : Heap} (O : Old Z n0 h) (CS0 : CS Z) {a b : Nat} {kb : ClassId} {cap : Nat} {cs : List Int32} (F : SBd Z h a b kb cap cs) (hlt : cs.length < cap) :
    Con l Z EL1 n0 (⟨"java/lang/StringBuilder", "toString", "()Ljava/lang/String;"⟩ : MethodName) jdk_67_method_42_code 1 (some (.object "java/lang/String")) [] ({ frames := 5, cells := 2, slots := cap + 4, locals := 79 } : Room) #[(.ref a)] h [] (fun v vm' h' => ∃ t c kc, v = some (.ref t) ∧ Keep h h' [] ∧ LatB Z h' t c kc cs ∧ h.size ≤ t ∧ h.size ≤ c) := by
  refine Con.of pn34 O (el hw) ?_
  intro pg_ e s m below meth cd_ T W hs_ hSf
  rw [ef_sbtostring]
  have Kt := Keep.refl h []
  have lb := nlt F.ltb
  have la := nlt F.lt
  refine s_new (pc' := 3) W (w130 hw) (w10 hw) (w2 hw) d_jdk_67_method_42_0 (by (try dsimp only) <;> omega) (by (try dsimp only) <;> omega) rfl ?_
  intro t T h g_t
  have fs_t := Nat.le_trans Kt.1 (Nat.le_of_eq g_t.symm)
  intro W K1 C1 M_t E_t D_t U_t
  replace Kt := Kt.trans K1 all0
  have F_coder_t : Fld Z _ t "java/lang/String" "coder" "B" (.int 0) := D_t (Or.inr (w25 hw)) (ty := .byte) (by decide)
  have F_value_t : Fld Z _ t "java/lang/String" "value" "[B" .null := D_t (Or.inr (w23 hw)) (ty := (.array .byte)) (by decide)
  replace F := F.keep K1 nin0 nin0
  have Kt0 := Kt.1
  refine s_dup (pc' := 4) W d_jdk_67_method_42_3 rfl rfl ?_
  refine s_aload_n (pc' := 5) W d_jdk_67_method_42_4 rfl rfl rfl ?_
  refine s_init (pc' := 8) W rfl (w131 hw) (w132 hw) (w2 hw) (w133 hw) (by decide) pd23 [(.ref a)] rfl (c_strinitSB l hw W.old CS0 E_t M_t.1 M_t.2.1 F_coder_t F_value_t F hlt) (allS ⟨M_t.2.1, M_t.2.2⟩ all0) rfl d_jdk_67_method_42_5 1 (le rfl) (bl rfl) (bl rfl) (by (try dsimp only) <;> omega) (by (try dsimp only) <;> omega) rfl ?_
  rintro _ T vm h W C2 ⟨rfl, K2, c, kc, L, hcc⟩
  replace Kt := Kt.trans K2 (allS (P := fun x => _ ∨ _) (Or.inr fs_t) all0)
  replace E_t := E_t.keep K2
  replace M_t := M_t.mv C2
  refine s_areturn W rfl rfl rfl d_jdk_67_method_42_8 (by (try dsimp only) <;> omega) (by (try dsimp only) <;> omega) ?_
  intro vm' C'
  exact ⟨t, c, kc, rfl, Kt, L, fs_t, Nat.le_trans Kt0 hcc⟩
set_option maxRecDepth 65536 in
set_option maxHeartbeats 40000000 in
theorem ef_acinit (m : MethodId) (x0 : Addr) : entryFrame m #[(.ref x0)] 1 = mkF m 0 #[.val (.ref x0)] [] := by first | (simp [entryFrame, mkF, argsToLocals, Value.category]; done) | rfl
set_option maxRecDepth 65536 in
set_option maxHeartbeats 40000000 in
theorem c_acinit (l : Launch) {Z : State} {a0 : Array Value} (hw : Hw Z a0) {n0 : Nat} {h : Heap} (O : Old Z n0 h) {a : Nat} :
    Con l Z EL1 n0 (⟨"java/util/AbstractCollection", "<init>", "()V"⟩ : MethodName) jdk_22_method_1_code 1 none [] ({ frames := 1, cells := 0, slots := 0, locals := 12 } : Room) #[(.ref a)] h [] (fun v vm' h' => v = none ∧ h = h') := by
  refine Con.of pn35 O (el hw) ?_
  intro pg_ e s m below meth cd_ T W hs_ hSf
  rw [ef_acinit]
  refine s_aload_n (pc' := 1) W d_jdk_22_method_1_0 rfl rfl rfl ?_
  refine s_objinit (pc' := 4) W (w44 hw) (w20 hw) (w21 hw) rfl d_jdk_22_method_1_1 0 (le rfl) (bl rfl) (bl rfl) rfl ?_
  intro T W
  refine s_ret W rfl d_jdk_22_method_1_4 (bl rfl) (bl rfl) ?_
  intro vm' C'
  exact ⟨rfl, rfl⟩
set_option maxRecDepth 65536 in
set_option maxHeartbeats 40000000 in
theorem ef_ablinit (m : MethodId) (x0 : Addr) : entryFrame m #[(.ref x0)] 1 = mkF m 0 #[.val (.ref x0)] [] := by first | (simp [entryFrame, mkF, argsToLocals, Value.category]; done) | rfl
set_option maxRecDepth 65536 in
set_option maxHeartbeats 40000000 in
theorem c_ablinit (l : Launch) {Z : State} {a0 : Array Value} (hw : Hw Z a0) {n0 : Nat} {h : Heap} (O : Old Z n0 h) {a : Nat} (E : Exa Z h a "java/util/ArrayList") (M0 : n0 ≤ a) (Ma : a < h.size) (F : Fld Z h a "java/util/AbstractList" "modCount" "I" (.int 0)) :
    Con l Z EL1 n0 (⟨"java/util/AbstractList", "<init>", "()V"⟩ : MethodName) jdk_39_method_1_code 1 none [] ({ frames := 2, cells := 0, slots := 0, locals := 24 } : Room) #[(.ref a)] h [a] (fun v vm' h' => v = none ∧ Keep h h' [a] ∧ Fld Z h' a "java/util/AbstractList" "modCount" "I" (.int 0)) := by
  refine Con.of pn36 O (el hw) ?_
  intro pg_ e s m below meth cd_ T W hs_ hSf
  rw [ef_ablinit]
  have M : Mine Z EL1 n0 s.vm h a := ⟨M0, Ma, hSf a (by simp)⟩
  have Kt := Keep.refl h [a]
  refine s_aload_n (pc' := 1) W d_jdk_39_method_1_0 rfl rfl rfl ?_
  refine s_init (pc' := 4) W rfl (w38 hw) (w39 hw) (w42 hw) (w43 hw) (by decide) pd24 [] rfl (c_acinit l hw W.old) all0 rfl d_jdk_39_method_1_1 0 (le rfl) (bl rfl) (bl rfl) (bl rfl) (bl rfl) rfl ?_
  rintro _ T vm _ W C1 ⟨rfl, rfl⟩
  replace M := M.mv C1
  refine s_aload_n (pc' := 5) W d_jdk_39_method_1_4 rfl rfl rfl ?_
  refine s_iconst (pc' := 6) W (0 : Int32) d_jdk_39_method_1_5 rfl rfl ?_
  refine s_putf (pc' := 9) W (w45 hw) Via.refl F E M (Or.inl (w46 hw)) (w27 hw) (ty := .int) (by decide) rfl rfl d_jdk_39_method_1_6 rfl ?_
  intro T h W K2 C2 Wr2 Fn2
  replace Kt := Kt.trans K2 (allS (P := fun x => _ ∨ _) (Or.inl (by simp)) all0)
  replace E := E.keep K2
  replace M := M.mv C2
  have F := Fn2
  clear Fn2
  refine s_ret W rfl d_jdk_39_method_1_9 (bl rfl) (bl rfl) ?_
  intro vm' C'
  exact ⟨rfl, Kt, F⟩
set_option maxRecDepth 65536 in
set_option maxHeartbeats 40000000 in
theorem ef_ablinit2 (m : MethodId) (x0 : Addr) : entryFrame m #[(.ref x0)] 1 = mkF m 0 #[.val (.ref x0)] [] := by first | (simp [entryFrame, mkF, argsToLocals, Value.category]; done) | rfl
set_option maxRecDepth 65536 in
set_option maxHeartbeats 40000000 in
theorem c_ablinit2 (l : Launch) {Z : State} {a0 : Array Value} (hw : Hw Z a0) {n0 : Nat} {h : Heap} (O : Old Z n0 h) {a : Nat} (E : Exa Z h a "java/util/ArrayList") (M0 : n0 ≤ a) (Ma : a < h.size) (F : Fld Z h a "java/util/AbstractList" "modCount" "I" (.int 0)) (Fe : Fld Z h a "java/util/ArrayList" "elementData" "[Ljava/lang/Object;" .null) (Fs : Fld Z h a "java/util/ArrayList" "size" "I" (.int 0)) :
    Con l Z EL1 n0 (⟨"java/util/AbstractList", "<init>", "()V"⟩ : MethodName) jdk_39_method_1_code 1 none [] ({ frames := 2, cells := 0, slots := 0, locals := 24 } : Room) #[(.ref a)] h [a] (fun v vm' h' => v = none ∧ Keep h h' [a] ∧ Fld Z h' a "java/util/AbstractList" "modCount" "I" (.int 0) ∧ Fld Z h' a "java/util/ArrayList" "elementData" "[Ljava/lang/Object;" .null ∧ Fld Z h' a "java/util/ArrayList" "size" "I" (.int 0)) := by
  refine Con.of pn36 O (el hw) ?_
  intro pg_ e s m below meth cd_ T W hs_ hSf
  rw [ef_ablinit2]
  have M : Mine Z EL1 n0 s.vm h a := ⟨M0, Ma, hSf a (by simp)⟩
  have Kt := Keep.refl h [a]
  refine s_aload_n (pc' := 1) W d_jdk_39_method_1_0 rfl rfl rfl ?_
  refine s_init (pc' := 4) W rfl (w38 hw) (w39 hw) (w42 hw) (w43 hw) (by decide) pd24 [] rfl (c_acinit l hw W.old) all0 rfl d_jdk_39_method_1_1 0 (le rfl) (bl rfl) (bl rfl) (bl rfl) (bl rfl) rfl ?_
  rintro _ T vm _ W C1 ⟨rfl, rfl⟩
  replace M := M.mv C1
  refine s_aload_n (pc' := 5) W d_jdk_39_method_1_4 rfl rfl rfl ?_
  refine s_iconst (pc' := 6) W (0 : Int32) d_jdk_39_method_1_5 rfl rfl ?_
  refine s_putf (pc' := 9) W (w45 hw) Via.refl F E M (Or.inl (w46 hw)) (w27 hw) (ty := .int) (by decide) rfl rfl d_jdk_39_method_1_6 rfl ?_
  intro T h W K2 C2 Wr2 Fn2
  replace Fe := Fe.other Wr2 (Or.inr (slot_ne (Or.inl (w49 hw)) (Or.inl (w46 hw)) (by decide) (by decide : parseFieldDescriptor "[Ljava/lang/Object;" = some (.array (.object "java/lang/Object"))) (by decide : parseFieldDescriptor "I" = some .int)))
  replace Fs := Fs.other Wr2 (Or.inr (slot_ne (Or.inl (w209 hw)) (Or.inl (w46 hw)) (by decide) (by decide : parseFieldDescriptor "I" = some .int) (by decide : parseFieldDescriptor "I" = some .int)))
  replace Kt := Kt.trans K2 (allS (P := fun x => _ ∨ _) (Or.inl (by simp)) all0)
  replace E := E.keep K2
  replace M := M.mv C2
  have F := Fn2
  clear Fn2
  refine s_ret W rfl d_jdk_39_method_1_9 (bl rfl) (bl rfl) ?_
  intro vm' C'
  exact ⟨rfl, Kt, F, Fe, Fs⟩
set_option maxRecDepth 65536 in
set_option maxHeartbeats 40000000 in
theorem ef_alinit (m : MethodId) (x0 : Addr) : entryFrame m #[(.ref x0)] 1 = mkF m 0 #[.val (.ref x0)] [] := by first | (simp [entryFrame, mkF, argsToLocals, Value.category]; done) | rfl
set_option maxRecDepth 65536 in
set_option maxHeartbeats 40000000 in
theorem c_alinit (l : Launch) {Z : State} {a0 : Array Value} (hw : Hw Z a0) {n0 : Nat} {h : Heap} (O : Old Z n0 h) {de : Nat} {kde : ClassId} (D : DE Z de kde) {a : Nat} (E : Exa Z h a "java/util/ArrayList") (M0 : n0 ≤ a) (Ma : a < h.size) (Fm : Fld Z h a "java/util/AbstractList" "modCount" "I" (.int 0)) (Fe : Fld Z h a "java/util/ArrayList" "elementData" "[Ljava/lang/Object;" .null) (Fs : Fld Z h a "java/util/ArrayList" "size" "I" (.int 0)) :
    Con l Z EL1 n0 (⟨"java/util/ArrayList", "<init>", "()V"⟩ : MethodName) jdk_38_method_2_code 1 none [] ({ frames := 3, cells := 0, slots := 0, locals := 36 } : Room) #[(.ref a)] h [a] (fun v vm' h' => v = none ∧ Keep h h' [a] ∧ ALE Z h' a de) := by
  refine Con.of pn37 O (el hw) ?_
  intro pg_ e s m below meth cd_ T W hs_ hSf
  rw [ef_alinit]
  have M : Mine Z EL1 n0 s.vm h a := ⟨M0, Ma, hSf a (by simp)⟩
  have Kt := Keep.refl h [a]
  refine s_aload_n (pc' := 1) W d_jdk_38_method_2_0 rfl rfl rfl ?_
  refine s_init (pc' := 4) W rfl (w32 hw) (w33 hw) (w36 hw) (w37 hw) (by decide) pd24 [] rfl (c_ablinit2 l hw W.old E M0 Ma Fm Fe Fs) (allS ⟨M.2.1, M.2.2⟩ all0) rfl d_jdk_38_method_2_1 0 (le rfl) (bl rfl) (bl rfl) (bl rfl) (bl rfl) rfl ?_
  rintro _ T vm h W C1 ⟨rfl, K1, Fm, Fe, Fs⟩
  replace Kt := Kt.trans K1 (allS (P := fun x => _ ∨ _) (Or.inl (by simp)) all0)
  replace E := E.keep K1
  replace M := M.mv C1
  refine s_aload_n (pc' := 5) W d_jdk_38_method_2_4 rfl rfl rfl ?_
  refine s_gets (pc' := 8) W (w47 hw) Via.refl D.1 d_jdk_38_method_2_5 rfl ?_
  intro T W
  refine s_putf (pc' := 11) W (w48 hw) Via.refl Fe E M (Or.inl (w49 hw)) (w27 hw) (ty := (.array (.object "java/lang/Object"))) (by decide) rfl rfl d_jdk_38_method_2_8 rfl ?_
  intro T h W K2 C2 Wr2 Fn2
  replace Fs := Fs.other Wr2 (Or.inr (slot_ne (Or.inl (w209 hw)) (Or.inl (w49 hw)) (by decide) (by decide : parseFieldDescriptor "I" = some .int) (by decide : parseFieldDescriptor "[Ljava/lang/Object;" = some (.array (.object "java/lang/Object")))))
  replace Fm := Fm.other Wr2 (Or.inr (slot_ne (Or.inl (w46 hw)) (Or.inl (w49 hw)) (by decide) (by decide : parseFieldDescriptor "I" = some .int) (by decide : parseFieldDescriptor "[Ljava/lang/Object;" = some (.array (.object "java/lang/Object")))))
  replace Kt := Kt.trans K2 (allS (P := fun x => _ ∨ _) (Or.inl (by simp)) all0)
  replace E := E.keep K2
  replace M := M.mv C2
  have Fe := Fn2
  clear Fn2
  refine s_ret W rfl d_jdk_38_method_2_11 (bl rfl) (bl rfl) ?_
  intro vm' C'
  exact ⟨rfl, Kt, E, Fe, Fs, Fm⟩
set_option maxRecDepth 65536 in
set_option maxHeartbeats 40000000 in
theorem ef_grow1 (m : MethodId) (x0 : Addr) (x1 : Int32) : entryFrame m #[(.ref x0), (.int x1)] 4 = mkF m 0 #[.val (.ref x0), .val (.int x1), .unset, .unset] [] := by first | (simp [entryFrame, mkF, argsToLocals, Value.category]; done) | rfl
set_option maxRecDepth 65536 in
set_option maxHeartbeats 40000000 in
theorem c_grow1 (l : Launch) {Z : State} {a0 : Array Value} (hw : Hw Z a0) {n0 : Nat} {h : Heap} (O : Old Z n0 h) {a de : Nat} {kde : ClassId} (D : DE Z de kde) (E : Exa Z h a "java/util/ArrayList") (Fe : Fld Z h a "java/util/ArrayList" "elementData" "[Ljava/lang/Object;" (.ref de)) (Fs : Fld Z h a "java/util/ArrayList" "size" "I" (.int 0)) (Fm : Fld Z h a "java/util/AbstractList" "modCount" "I" (.int 1)) (M0 : n0 ≤ a) (Ma : a < h.size) :
    Con l Z EL1 n0 (⟨"java/util/ArrayList", "grow", "(I)[Ljava/lang/Object;"⟩ : MethodName) jdk_38_method_6_code 4 (some (.array (.object "java/lang/Object"))) [] ({ frames := 1, cells := 1, slots := 10, locals := 14 } : Room) #[(.ref a), (.int (1 : Int32))] h [a] (fun v vm' h' => ∃ d kd, v = some (.ref d) ∧ Keep h h' [a] ∧ Fld Z h' a "java/util/ArrayList" "elementData" "[Ljava/lang/Object;" (.ref d) ∧ Fld Z h' a "java/util/ArrayList" "size" "I" (.int 0) ∧ Fld Z h' a "java/util/AbstractList" "modCount" "I" (.int 1) ∧ Arv Z h' d kd (.object "java/lang/Object") 10 [.null, .null, .null, .null, .null, .null, .null, .null, .null, .null] .null ∧ Ovr Z kd "java/lang/Object" ∧ h.size ≤ d ∧ Mine Z EL1 n0 vm' h' d) := by
  refine Con.of pn38 O (el hw) ?_
  intro pg_ e s m below meth cd_ T W hs_ hSf
  rw [ef_grow1]
  have M : Mine Z EL1 n0 s.vm h a := ⟨M0, Ma, hSf a (by simp)⟩
  have Kt := Keep.refl h [a]
  have AD := D.2.ext W.old.2
  refine s_aload_n (pc' := 1) W d_jdk_38_method_6_0 rfl rfl rfl ?_
  refine s_getf (pc' := 4) W (w48 hw) Via.refl Fe d_jdk_38_method_6_1 rfl ?_
  intro T W
  refine s_alen (pc' := 5) W AD d_jdk_38_method_6_4 rfl ?_
  refine s_istore_n (pc' := 6) W #[rv a, iv (1 : Int32), iv (0 : Int32), .unset] d_jdk_38_method_6_5 rfl rfl ?_
  refine s_iload_n (pc' := 7) W d_jdk_38_method_6_6 rfl rfl ?_
  refine s_ifgt (pc' := 10) (pcT := 20) W d_jdk_38_method_6_7 (by decide) rfl rfl (fun hq => absurd hq (by decide)) (fun _ => ?_)
  refine s_aload_n (pc' := 11) W d_jdk_38_method_6_10 rfl rfl rfl ?_
  refine s_getf (pc' := 14) W (w48 hw) Via.refl Fe d_jdk_38_method_6_11 rfl ?_
  intro T W
  refine s_gets (pc' := 17) W (w47 hw) Via.refl D.1 d_jdk_38_method_6_14 rfl ?_
  intro T W
  refine s_acmpY (pcT := 45) W d_jdk_38_method_6_17 rfl rfl (Jvm.Free.XT.aa_eq_t rfl) (by decide) rfl ?_
  refine s_aload_n (pc' := 46) W d_jdk_38_method_6_45 rfl rfl rfl ?_
  refine s_bipush (pc' := 48) W (10 : Int32) d_jdk_38_method_6_46 rfl rfl ?_
  refine s_iload_n (pc' := 49) W d_jdk_38_method_6_48 rfl rfl ?_
  refine s_static (pc' := 52) W (w256 hw) (w257 hw) (w167 hw) (w258 hw) (by decide) pd8 [(.int (10 : Int32)), (.int (1 : Int32))] rfl (c_mathmax l hw W.old) all0 rfl d_jdk_38_method_6_49 1 (le rfl) (bl rfl) (bl rfl) (bl rfl) (bl rfl) rfl ?_
  rintro _ T vm _ W C1 ⟨rfl, rfl⟩
  replace M := M.mv C1
  rw [show (if (10 : Int32) < (1 : Int32) then (1 : Int32) else (10 : Int32)) = 10 from by decide]
  refine s_anew (pc' := 55) W 10 (w259 hw) (w260 hw) d_jdk_38_method_6_52 (by decide) (by decide) (by decide) (bl rfl) (bl rfl) rfl ?_
  intro d T h k_d g_d
  have fs_d := Nat.le_trans Kt.1 (Nat.le_of_eq g_d.symm)
  have ne_a_d : @Ne Nat a d := by have := nlt E.lt; omega
  intro W K2 C2 M_d V_d O_d
  replace Kt := Kt.trans K2 all0
  replace E := E.keep K2
  replace Fe := Fe.keep K2 nin0
  replace Fs := Fs.keep K2 nin0
  replace Fm := Fm.keep K2 nin0
  replace M := M.mv C2
  have V_d : Arv Z _ d k_d (.object "java/lang/Object") 10 [.null, .null, .null, .null, .null, .null, .null, .null, .null, .null] .null := V_d
  refine s_dup_x1 (pc' := 56) W d_jdk_38_method_6_55 rfl rfl rfl ?_
  refine s_putf (pc' := 59) W (w48 hw) Via.refl Fe E M (Or.inl (w49 hw)) (w27 hw) (ty := (.array (.object "java/lang/Object"))) (by decide) rfl rfl d_jdk_38_method_6_56 rfl ?_
  intro T h W K3 C3 Wr3 Fn3
  replace Fs := Fs.other Wr3 (Or.inr (slot_ne (Or.inl (w209 hw)) (Or.inl (w49 hw)) (by decide) (by decide : parseFieldDescriptor "I" = some .int) (by decide : parseFieldDescriptor "[Ljava/lang/Object;" = some (.array (.object "java/lang/Object")))))
  replace Fm := Fm.other Wr3 (Or.inr (slot_ne (Or.inl (w46 hw)) (Or.inl (w49 hw)) (by decide) (by decide : parseFieldDescriptor "I" = some .int) (by decide : parseFieldDescriptor "[Ljava/lang/Object;" = some (.array (.object "java/lang/Object")))))
  replace Kt := Kt.trans K3 (allS (P := fun x => _ ∨ _) (Or.inl (by simp)) all0)
  replace E := E.keep K3
  replace M := M.mv C3
  replace V_d := V_d.keep K3 (ninS (Ne.symm ne_a_d) nin0)
  replace M_d := M_d.mv C3
  have Fe := Fn3
  clear Fn3
  refine s_areturn W rfl rfl rfl d_jdk_38_method_6_59 (bl rfl) (bl rfl) ?_
  intro vm' C'
  exact ⟨d, k_d, rfl, Kt, Fe, Fs, Fm, V_d, O_d, fs_d, M_d.mv C'⟩
set_option maxRecDepth 65536 in
set_option maxHeartbeats 40000000 in
theorem ef_grow0 (m : MethodId) (x0 : Addr) : entryFrame m #[(.ref x0)] 1 = mkF m 0 #[.val (.ref x0)] [] := by first | (simp [entryFrame, mkF, argsToLocals, Value.category]; done) | rfl
set_option maxRecDepth 65536 in
set_option maxHeartbeats 40000000 in
theorem c_grow0 (l : Launch) {Z : State} {a0 : Array Value} (hw : Hw Z a0) {n0 : Nat} {h : Heap} (O : Old Z n0 h) {a de : Nat} {kde : ClassId} (D : DE Z de kde) (E : Exa Z h a "java/util/ArrayList") (Fe : Fld Z h a "java/util/ArrayList" "elementData" "[Ljava/lang/Object;" (.ref de)) (Fs : Fld Z h a "java/util/ArrayList" "size" "I" (.int 0)) (Fm : Fld Z h a "java/util/AbstractList" "modCount" "I" (.int 1)) (M0 : n0 ≤ a) (Ma : a < h.size) :
    Con l Z EL1 n0 (⟨"java/util/ArrayList", "grow", "()[Ljava/lang/Object;"⟩ : MethodName) jdk_38_method_7_code 1 (some (.array (.object "java/lang/Object"))) [] ({ frames := 2, cells := 1, slots := 10, locals := 29 } : Room) #[(.ref a)] h [a] (fun v vm' h' => ∃ d kd, v = some (.ref d) ∧ Keep h h' [a] ∧ Fld Z h' a "java/util/ArrayList" "elementData" "[Ljava/lang/Object;" (.ref d) ∧ Fld Z h' a "java/util/ArrayList" "size" "I" (.int 0) ∧ Fld Z h' a "java/util/AbstractList" "modCount" "I" (.int 1) ∧ Arv Z h' d kd (.object "java/lang/Object") 10 [.null, .null, .null, .null, .null, .null, .null, .null, .null, .null] .null ∧ Ovr Z kd "java/lang/Object" ∧ h.size ≤ d ∧ Mine Z EL1 n0 vm' h' d) := by
  refine Con.of pn39 O (el hw) ?_
  intro pg_ e s m below meth cd_ T W hs_ hSf
  rw [ef_grow0]
  have Sa := hSf a (by simp)
  refine s_aload_n (pc' := 1) W d_jdk_38_method_7_0 rfl rfl rfl ?_
  refine s_aload_n (pc' := 2) W d_jdk_38_method_7_1 rfl rfl rfl ?_
  refine s_getf (pc' := 5) W (w218 hw) Via.refl Fs d_jdk_38_method_7_2 rfl ?_
  intro T W
  refine s_iconst (pc' := 6) W (1 : Int32) d_jdk_38_method_7_5 rfl rfl ?_
  refine s_iadd (pc' := 7) W d_jdk_38_method_7_6 rfl ?_
  rw [show ((0 : Int32) + (1 : Int32)) = (1 : Int32) from by decide]
  refine s_virt (pc' := 10) W (C0 := "java/util/ArrayList") (w251 hw) (decl_of (w252 hw) (w255 hw)) (w254 hw) (w252 hw) (w28 hw) (w255 hw) (notFace_of_selects (args := a0) (w254 hw)) (by decide) pd25 [(.int (1 : Int32))] rfl E (c_grow1 l hw W.old D E Fe Fs Fm M0 Ma) (allS ⟨Ma, Sa⟩ all0) rfl d_jdk_38_method_7_7 0 (le rfl) (bl rfl) (bl rfl) (bl rfl) (bl rfl) rfl ?_
  rintro _ T vm h W C1 ⟨d, kd, rfl, K1, q1, q2, q3, q4, q5, q6, Md⟩
  refine s_areturn W rfl rfl rfl d_jdk_38_method_7_10 (bl rfl) (bl rfl) ?_
  intro vm' C'
  exact ⟨d, kd, rfl, K1, q1, q2, q3, q4, q5, q6, Md.mv C'⟩
set_option maxRecDepth 65536 in
set_option maxHeartbeats 40000000 in
theorem ef_add3ED (m : MethodId) (x0 : Addr) (x1 : Addr) (x2 : Addr) (x3 : Int32) : entryFrame m #[(.ref x0), (.ref x1), (.ref x2), (.int x3)] 4 = mkF m 0 #[.val (.ref x0), .val (.ref x1), .val (.ref x2), .val (.int x3)] [] := by first | (simp [entryFrame, mkF, argsToLocals, Value.category]; done) | rfl
set_option maxRecDepth 65536 in
set_option maxHeartbeats 40000000 in
theorem c_add3ED (l : Launch) {Z : State} {a0 : Array Value} (hw : Hw Z a0) {n0 : Nat} {h : Heap} (O : Old Z n0 h) {a de x : Nat} {kde : ClassId} (D : DE Z de kde) (X : Exa Z h x "com/example/tiebreak/tiebreak/core/DuplicateRegistration") (E : Exa Z h a "java/util/ArrayList") (Fe : Fld Z h a "java/util/ArrayList" "elementData" "[Ljava/lang/Object;" (.ref de)) (Fs : Fld Z h a "java/util/ArrayList" "size" "I" (.int 0)) (Fm : Fld Z h a "java/util/AbstractList" "modCount" "I" (.int 1)) (M0 : n0 ≤ a) (Ma : a < h.size) :
    Con l Z EL1 n0 (⟨"java/util/ArrayList", "add", "(Ljava/lang/Object;[Ljava/lang/Object;I)V"⟩ : MethodName) jdk_38_method_24_code 4 none [] ({ frames := 3, cells := 1, slots := 10, locals := 41 } : Room) #[(.ref a), (.ref x), (.ref de), (.int (0 : Int32))] h [a] (fun v vm' h' => v = none ∧ Keep h h' [a] ∧ ∃ d kd, ALF Z h' a d kd 1 [.ref x, .null, .null, .null, .null, .null, .null, .null, .null, .null] ∧ h.size ≤ d ∧ Mine Z EL1 n0 vm' h' d) := by
  refine Con.of pn40 O (el hw) ?_
  intro pg_ e s m below meth cd_ T W hs_ hSf
  rw [ef_add3ED]
  have M : Mine Z EL1 n0 s.vm h a := ⟨M0, Ma, hSf a (by simp)⟩
  have Kt := Keep.refl h [a]
  have AD := D.2.ext W.old.2
  refine s_iload_n (pc' := 1) W d_jdk_38_method_24_0 rfl rfl ?_
  refine s_aload_n (pc' := 2) W d_jdk_38_method_24_1 rfl rfl rfl ?_
  refine s_alen (pc' := 3) W AD d_jdk_38_method_24_2 rfl ?_
  refine s_icmpne (pc' := 6) (pcT := 11) W d_jdk_38_method_24_3 (by decide) rfl rfl (fun hq => absurd (by decide) hq) (fun _ => ?_)
  refine s_aload_n (pc' := 7) W d_jdk_38_method_24_6 rfl rfl rfl ?_
  refine s_virt (pc' := 10) W (C0 := "java/util/ArrayList") (w246 hw) (decl_of (w247 hw) (w250 hw)) (w249 hw) (w247 hw) (w28 hw) (w250 hw) (notFace_of_selects (args := a0) (w249 hw)) (by decide) pd26 [] rfl E (c_grow0 l hw W.old D E Fe Fs Fm M0 Ma) (allS ⟨M.2.1, M.2.2⟩ all0) rfl d_jdk_38_method_24_7 0 (le rfl) (bl rfl) (bl rfl) (bl rfl) (bl rfl) rfl ?_
  rintro _ T vm h W C1 ⟨d, kd, rfl, K1, Fe, Fs, Fm, V_d, O_d, fs_d, M_d⟩
  replace Kt := Kt.trans K1 (allS (P := fun x => _ ∨ _) (Or.inl (by simp)) all0)
  replace E := E.keep K1
  replace X := X.keep K1
  replace M := M.mv C1
  have nad : @Ne Nat a d := by omega
  refine s_astore_n (pc' := 11) W #[rv a, rv x, rv d, iv (0 : Int32)] d_jdk_38_method_24_10 rfl rfl rfl ?_
  refine s_aload_n (pc' := 12) W d_jdk_38_method_24_11 rfl rfl rfl ?_
  refine s_iload_n (pc' := 13) W d_jdk_38_method_24_12 rfl rfl ?_
  refine s_aload_n (pc' := 14) W d_jdk_38_method_24_13 rfl rfl rfl ?_
  refine s_aastore (pc' := 15) W 0 V_d rfl rfl (by obtain ⟨cl, A, q1, -⟩ := V_d; exact Sto.ofV A q1 O_d (Ins.of_exa X (w261 hw))) M_d rfl (by decide) (by decide) (bt rfl) d_jdk_38_method_24_14 rfl ?_
  intro T h W K2 C2 Vn2
  replace Kt := Kt.trans K2 (allS (P := fun x => _ ∨ _) (Or.inr fs_d) all0)
  replace E := E.keep K2
  replace X := X.keep K2
  replace M := M.mv C2
  replace Fe := Fe.keep K2 (ninS nad nin0)
  replace Fs := Fs.keep K2 (ninS nad nin0)
  replace Fm := Fm.keep K2 (ninS nad nin0)
  replace M_d := M_d.mv C2
  have V_d := Vn2
  clear Vn2
  have V_d : Arv Z _ d kd (.object "java/lang/Object") 10 [.ref x, .null, .null, .null, .null, .null, .null, .null, .null, .null] .null := V_d
  refine s_aload_n (pc' := 16) W d_jdk_38_method_24_15 rfl rfl rfl ?_
  refine s_iload_n (pc' := 17) W d_jdk_38_method_24_16 rfl rfl ?_
  refine s_iconst (pc' := 18) W (1 : Int32) d_jdk_38_method_24_17 rfl rfl ?_
  refine s_iadd (pc' := 19) W d_jdk_38_method_24_18 rfl ?_
  rw [show ((0 : Int32) + (1 : Int32)) = (1 : Int32) from by decide]
  refine s_putf (pc' := 22) W (w218 hw) Via.refl Fs E M (Or.inl (w209 hw)) (w27 hw) (ty := .int) (by decide) rfl rfl d_jdk_38_method_24_19 rfl ?_
  intro T h W K3 C3 Wr3 Fn3
  replace Fe := Fe.other Wr3 (Or.inr (slot_ne (Or.inl (w49 hw)) (Or.inl (w209 hw)) (by decide) (by decide : parseFieldDescriptor "[Ljava/lang/Object;" = some (.array (.object "java/lang/Object"))) (by decide : parseFieldDescriptor "I" = some .int)))
  replace Fm := Fm.other Wr3 (Or.inr (slot_ne (Or.inl (w46 hw)) (Or.inl (w209 hw)) (by decide) (by decide : parseFieldDescriptor "I" = some .int) (by decide : parseFieldDescriptor "I" = some .int)))
  replace Kt := Kt.trans K3 (allS (P := fun x => _ ∨ _) (Or.inl (by simp)) all0)
  replace E := E.keep K3
  replace X := X.keep K3
  replace M := M.mv C3
  replace M_d := M_d.mv C3
  replace V_d := V_d.keep K3 (ninS (Ne.symm nad) nin0)
  have Fs := Fn3
  clear Fn3
  refine s_ret W rfl d_jdk_38_method_24_22 (bl rfl) (bl rfl) ?_
  intro vm' C'
  exact ⟨rfl, Kt, d, kd, ⟨E, Fe, Fs, Fm, V_d, O_d⟩, fs_d, M_d.mv C'⟩
set_option maxRecDepth 65536 in
set_option maxHeartbeats 40000000 in
theorem ef_addED (m : MethodId) (x0 : Addr) (x1 : Addr) : entryFrame m #[(.ref x0), (.ref x1)] 2 = mkF m 0 #[.val (.ref x0), .val (.ref x1)] [] := by first | (simp [entryFrame, mkF, argsToLocals, Value.category]; done) | rfl
set_option maxRecDepth 65536 in
set_option maxHeartbeats 40000000 in
theorem c_addED (l : Launch) {Z : State} {a0 : Array Value} (hw : Hw Z a0) {n0 : Nat} {h : Heap} (O : Old Z n0 h) {a de x : Nat} {kde : ClassId} (D : DE Z de kde) (X : Exa Z h x "com/example/tiebreak/tiebreak/core/DuplicateRegistration") (F : ALE Z h a de) (M0 : n0 ≤ a) :
    Con l Z EL1 n0 (⟨"java/util/ArrayList", "add", "(Ljava/lang/Object;)Z"⟩ : MethodName) jdk_38_method_25_code 2 (some .boolean) [] ({ frames := 4, cells := 1, slots := 10, locals := 56 } : Room) #[(.ref a), (.ref x)] h [a] (fun v vm' h' => v = some (.int 1) ∧ Keep h h' [a] ∧ ∃ d kd, ALF Z h' a d kd 1 [.ref x, .null, .null, .null, .null, .null, .null, .null, .null, .null] ∧ h.size ≤ d ∧ Mine Z EL1 n0 vm' h' d) := by
  refine Con.of pn41 O (el hw) ?_
  intro pg_ e s m below meth cd_ T W hs_ hSf
  rw [ef_addED]
  obtain ⟨E, Fe, Fs, Fm⟩ := F
  have Ma := nlt E.lt
  have M : Mine Z EL1 n0 s.vm h a := ⟨M0, Ma, hSf a (by simp)⟩
  have Kt := Keep.refl h [a]
  refine s_aload_n (pc' := 1) W d_jdk_38_method_25_0 rfl rfl rfl ?_
  refine s_dup (pc' := 2) W d_jdk_38_method_25_1 rfl rfl ?_
  refine s_getf (pc' := 5) W (w240 hw) (Via.of (w194 hw)) Fm d_jdk_38_method_25_2 rfl ?_
  intro T W
  refine s_iconst (pc' := 6) W (1 : Int32) d_jdk_38_method_25_5 rfl rfl ?_
  refine s_iadd (pc' := 7) W d_jdk_38_method_25_6 rfl ?_
  rw [show ((0 : Int32) + (1 : Int32)) = (1 : Int32) from by decide]
  refine s_putf (pc' := 10) W (w240 hw) (Via.of (w194 hw)) Fm E M (Or.inl (w46 hw)) (w27 hw) (ty := .int) (by decide) rfl rfl d_jdk_38_method_25_7 rfl ?_
  intro T h W K1 C1 Wr1 Fn1
  replace Fe := Fe.other Wr1 (Or.inr (slot_ne (Or.inl (w49 hw)) (Or.inl (w46 hw)) (by decide) (by decide : parseFieldDescriptor "[Ljava/lang/Object;" = some (.array (.object "java/lang/Object"))) (by decide : parseFieldDescriptor "I" = some .int)))
  replace Fs := Fs.other Wr1 (Or.inr (slot_ne (Or.inl (w209 hw)) (Or.inl (w46 hw)) (by decide) (by decide : parseFieldDescriptor "I" = some .int) (by decide : parseFieldDescriptor "I" = some .int)))
  replace Kt := Kt.trans K1 (allS (P := fun x => _ ∨ _) (Or.inl (by simp)) all0)
  replace E := E.keep K1
  replace X := X.keep K1
  replace M := M.mv C1
  have Fm := Fn1
  clear Fn1
  refine s_aload_n (pc' := 11) W d_jdk_38_method_25_10 rfl rfl rfl ?_
  refine s_aload_n (pc' := 12) W d_jdk_38_method_25_11 rfl rfl rfl ?_
  refine s_aload_n (pc' := 13) W d_jdk_38_method_25_12 rfl rfl rfl ?_
  refine s_getf (pc' := 16) W (w48 hw) Via.refl Fe d_jdk_38_method_25_13 rfl ?_
  intro T W
  refine s_aload_n (pc' := 17) W d_jdk_38_method_25_16 rfl rfl rfl ?_
  refine s_getf (pc' := 20) W (w218 hw) Via.refl Fs d_jdk_38_method_25_17 rfl ?_
  intro T W
  have Kt0 := Kt.1
  refine s_virt (pc' := 23) W (C0 := "java/util/ArrayList") (w241 hw) (decl_of (w242 hw) (w245 hw)) (w244 hw) (w242 hw) (w28 hw) (w245 hw) (notFace_of_selects (args := a0) (w244 hw)) (by decide) pd27 [(.ref x), (.ref de), (.int (0 : Int32))] rfl E (c_add3ED l hw W.old D X E Fe Fs Fm M0 M.2.1) (allS ⟨M.2.1, M.2.2⟩ all0) rfl d_jdk_38_method_25_20 0 (le rfl) (bl rfl) (bl rfl) (bl rfl) (bl rfl) rfl ?_
  rintro _ T vm h W C2 ⟨rfl, K2, d, kd, F, hd, Md⟩
  replace Kt := Kt.trans K2 (allS (P := fun x => _ ∨ _) (Or.inl (by simp)) all0)
  replace E := E.keep K2
  replace X := X.keep K2
  replace M := M.mv C2
  refine s_iconst (pc' := 24) W (1 : Int32) d_jdk_38_method_25_23 rfl rfl ?_
  refine s_nreturn W (t := .boolean) rfl (by simp) d_jdk_38_method_25_24 (bl rfl) (bl rfl) ?_
  intro vm' C'
  exact ⟨rfl, Kt, d, kd, F, Nat.le_trans Kt0 hd, Md.mv C'⟩
set_option maxRecDepth 65536 in
set_option maxHeartbeats 40000000 in
theorem ef_add3FD (m : MethodId) (x0 : Addr) (x1 : Addr) (x2 : Addr) (x3 : Int32) : entryFrame m #[(.ref x0), (.ref x1), (.ref x2), (.int x3)] 4 = mkF m 0 #[.val (.ref x0), .val (.ref x1), .val (.ref x2), .val (.int x3)] [] := by first | (simp [entryFrame, mkF, argsToLocals, Value.category]; done) | rfl
set_option maxRecDepth 65536 in
set_option maxHeartbeats 40000000 in
theorem c_add3FD (l : Launch) {Z : State} {a0 : Array Value} (hw : Hw Z a0) {n0 : Nat} {h : Heap} (O : Old Z n0 h) {a d x y : Nat} {kd : ClassId} (X : Exa Z h x "com/example/tiebreak/tiebreak/core/DuplicateRegistration") (E : Exa Z h a "java/util/ArrayList") (Fe : Fld Z h a "java/util/ArrayList" "elementData" "[Ljava/lang/Object;" (.ref d)) (Fs : Fld Z h a "java/util/ArrayList" "size" "I" (.int 1)) (Fm : Fld Z h a "java/util/AbstractList" "modCount" "I" (.int 2)) (V_d : Arv Z h d kd (.object "java/lang/Object") 10 [.ref y, .null, .null, .null, .null, .null, .null, .null, .null, .null] .null) (O_d : Ovr Z kd "java/lang/Object") (nad : a ≠ d) (M0 : n0 ≤ a) (M1 : n0 ≤ d) :
    Con l Z EL1 n0 (⟨"java/util/ArrayList", "add", "(Ljava/lang/Object;[Ljava/lang/Object;I)V"⟩ : MethodName) jdk_38_method_24_code 4 none [] ({ frames := 0, cells := 0, slots := 0, locals := 0 } : Room) #[(.ref a), (.ref x), (.ref d), (.int (1 : Int32))] h [a, d] (fun v vm' h' => v = none ∧ Keep h h' [a, d] ∧ ALF Z h' a d kd 2 [.ref y, .ref x, .null, .null, .null, .null, .null, .null, .null, .null]) := by
  refine Con.of pn40 O (el hw) ?_
  intro pg_ e s m below meth cd_ T W hs_ hSf
  rw [ef_add3FD]
  have M : Mine Z EL1 n0 s.vm h a := ⟨M0, E.lt, hSf a (by simp)⟩
  have M_d : Mine Z EL1 n0 s.vm h d := ⟨M1, V_d.lt, hSf d (by simp)⟩
  have Kt := Keep.refl h [a, d]
  refine s_iload_n (pc' := 1) W d_jdk_38_method_24_0 rfl rfl ?_
  refine s_aload_n (pc' := 2) W d_jdk_38_method_24_1 rfl rfl rfl ?_
  refine s_alen (pc' := 3) W V_d d_jdk_38_method_24_2 rfl ?_
  refine s_icmpne (pc' := 6) (pcT := 11) W d_jdk_38_method_24_3 (by decide) rfl rfl (fun _ => ?_) (fun hq => absurd hq (by decide))
  refine s_aload_n (pc' := 12) W d_jdk_38_method_24_11 rfl rfl rfl ?_
  refine s_iload_n (pc' := 13) W d_jdk_38_method_24_12 rfl rfl ?_
  refine s_aload_n (pc' := 14) W d_jdk_38_method_24_13 rfl rfl rfl ?_
  refine s_aastore (pc' := 15) W 1 V_d rfl rfl (by obtain ⟨cl, A, q1, -⟩ := V_d; exact Sto.ofV A q1 O_d (Ins.of_exa X (w261 hw))) M_d rfl (by decide) (by decide) (bt rfl) d_jdk_38_method_24_14 rfl ?_
  intro T h W K1 C1 Vn1
  replace Kt := Kt.trans K1 (allS (P := fun x => _ ∨ _) (Or.inl (by simp)) all0)
  replace E := E.keep K1
  replace Fe := Fe.keep K1 (ninS nad nin0)
  replace Fs := Fs.keep K1 (ninS nad nin0)
  replace Fm := Fm.keep K1 (ninS nad nin0)
  replace X := X.keep K1
  replace M := M.mv C1
  replace M_d := M_d.mv C1
  have V_d := Vn1
  clear Vn1
  have V_d : Arv Z _ d kd (.object "java/lang/Object") 10 [.ref y, .ref x, .null, .null, .null, .null, .null, .null, .null, .null] .null := V_d
  refine s_aload_n (pc' := 16) W d_jdk_38_method_24_15 rfl rfl rfl ?_
  refine s_iload_n (pc' := 17) W d_jdk_38_method_24_16 rfl rfl ?_
  refine s_iconst (pc' := 18) W (1 : Int32) d_jdk_38_method_24_17 rfl rfl ?_
  refine s_iadd (pc' := 19) W d_jdk_38_method_24_18 rfl ?_
  rw [show ((1 : Int32) + (1 : Int32)) = (2 : Int32) from by decide]
  refine s_putf (pc' := 22) W (w218 hw) Via.refl Fs E M (Or.inl (w209 hw)) (w27 hw) (ty := .int) (by decide) rfl rfl d_jdk_38_method_24_19 rfl ?_
  intro T h W K2 C2 Wr2 Fn2
  replace Fe := Fe.other Wr2 (Or.inr (slot_ne (Or.inl (w49 hw)) (Or.inl (w209 hw)) (by decide) (by decide : parseFieldDescriptor "[Ljava/lang/Object;" = some (.array (.object "java/lang/Object"))) (by decide : parseFieldDescriptor "I" = some .int)))
  replace Fm := Fm.other Wr2 (Or.inr (slot_ne (Or.inl (w46 hw)) (Or.inl (w209 hw)) (by decide) (by decide : parseFieldDescriptor "I" = some .int) (by decide : parseFieldDescriptor "I" = some .int)))
  replace Kt := Kt.trans K2 (allS (P := fun x => _ ∨ _) (Or.inl (by simp)) all0)
  replace E := E.keep K2
  replace X := X.keep K2
  replace M := M.mv C2
  replace M_d := M_d.mv C2
  replace V_d := V_d.keep K2 (ninS (Ne.symm nad) nin0)
  have Fs := Fn2
  clear Fn2
  refine s_ret W rfl d_jdk_38_method_24_22 (bl rfl) (bl rfl) ?_
  intro vm' C'
  exact ⟨rfl, Kt, E, Fe, Fs, Fm, V_d, O_d⟩
set_option maxRecDepth 65536 in
set_option maxHeartbeats 40000000 in
theorem ef_addFD (m : MethodId) (x0 : Addr) (x1 : Addr) : entryFrame m #[(.ref x0), (.ref x1)] 2 = mkF m 0 #[.val (.ref x0), .val (.ref x1)] [] := by first | (simp [entryFrame, mkF, argsToLocals, Value.category]; done) | rfl
set_option maxRecDepth 65536 in
set_option maxHeartbeats 40000000 in
theorem c_addFD (l : Launch) {Z : State} {a0 : Array Value} (hw : Hw Z a0) {n0 : Nat} {h : Heap} (O : Old Z n0 h) {a d x y : Nat} {kd : ClassId} (X : Exa Z h x "com/example/tiebreak/tiebreak/core/DuplicateRegistration") (F : ALF Z h a d kd 1 [.ref y, .null, .null, .null, .null, .null, .null, .null, .null, .null]) (nad : a ≠ d) (M0 : n0 ≤ a) (M1 : n0 ≤ d) :
    Con l Z EL1 n0 (⟨"java/util/ArrayList", "add", "(Ljava/lang/Object;)Z"⟩ : MethodName) jdk_38_method_25_code 2 (some .boolean) [] ({ frames := 1, cells := 0, slots := 0, locals := 15 } : Room) #[(.ref a), (.ref x)] h [a, d] (fun v vm' h' => v = some (.int 1) ∧ Keep h h' [a, d] ∧ ALF Z h' a d kd 2 [.ref y, .ref x, .null, .null, .null, .null, .null, .null, .null, .null]) := by
  refine Con.of pn41 O (el hw) ?_
  intro pg_ e s m below meth cd_ T W hs_ hSf
  rw [ef_addFD]
  obtain ⟨E, Fe, Fs, Fm, V_d, O_d⟩ := F
  have M : Mine Z EL1 n0 s.vm h a := ⟨M0, E.lt, hSf a (by simp)⟩
  have M_d : Mine Z EL1 n0 s.vm h d := ⟨M1, V_d.lt, hSf d (by simp)⟩
  have Kt := Keep.refl h [a, d]
  refine s_aload_n (pc' := 1) W d_jdk_38_method_25_0 rfl rfl rfl ?_
  refine s_dup (pc' := 2) W d_jdk_38_method_25_1 rfl rfl ?_
  refine s_getf (pc' := 5) W (w240 hw) (Via.of (w194 hw)) Fm d_jdk_38_method_25_2 rfl ?_
  intro T W
  refine s_iconst (pc' := 6) W (1 : Int32) d_jdk_38_method_25_5 rfl rfl ?_
  refine s_iadd (pc' := 7) W d_jdk_38_method_25_6 rfl ?_
  rw [show ((1 : Int32) + (1 : Int32)) = (2 : Int32) from by decide]
  refine s_putf (pc' := 10) W (w240 hw) (Via.of (w194 hw)) Fm E M (Or.inl (w46 hw)) (w27 hw) (ty := .int) (by decide) rfl rfl d_jdk_38_method_25_7 rfl ?_
  intro T h W K1 C1 Wr1 Fn1
  replace Fe := Fe.other Wr1 (Or.inr (slot_ne (Or.inl (w49 hw)) (Or.inl (w46 hw)) (by decide) (by decide : parseFieldDescriptor "[Ljava/lang/Object;" = some (.array (.object "java/lang/Object"))) (by decide : parseFieldDescriptor "I" = some .int)))
  replace Fs := Fs.other Wr1 (Or.inr (slot_ne (Or.inl (w209 hw)) (Or.inl (w46 hw)) (by decide) (by decide : parseFieldDescriptor "I" = some .int) (by decide : parseFieldDescriptor "I" = some .int)))
  replace Kt := Kt.trans K1 (allS (P := fun x => _ ∨ _) (Or.inl (by simp)) all0)
  replace E := E.keep K1
  replace X := X.keep K1
  replace V_d := V_d.keep K1 (ninS (Ne.symm nad) nin0)
  replace M := M.mv C1
  replace M_d := M_d.mv C1
  have Fm := Fn1
  clear Fn1
  refine s_aload_n (pc' := 11) W d_jdk_38_method_25_10 rfl rfl rfl ?_
  refine s_aload_n (pc' := 12) W d_jdk_38_method_25_11 rfl rfl rfl ?_
  refine s_aload_n (pc' := 13) W d_jdk_38_method_25_12 rfl rfl rfl ?_
  refine s_getf (pc' := 16) W (w48 hw) Via.refl Fe d_jdk_38_method_25_13 rfl ?_
  intro T W
  refine s_aload_n (pc' := 17) W d_jdk_38_method_25_16 rfl rfl rfl ?_
  refine s_getf (pc' := 20) W (w218 hw) Via.refl Fs d_jdk_38_method_25_17 rfl ?_
  intro T W
  refine s_virt (pc' := 23) W (C0 := "java/util/ArrayList") (w241 hw) (decl_of (w242 hw) (w245 hw)) (w244 hw) (w242 hw) (w28 hw) (w245 hw) (notFace_of_selects (args := a0) (w244 hw)) (by decide) pd27 [(.ref x), (.ref d), (.int (1 : Int32))] rfl E (c_add3FD l hw W.old X E Fe Fs Fm V_d O_d nad M0 M1) (allS ⟨M.2.1, M.2.2⟩ (allS ⟨M_d.2.1, M_d.2.2⟩ all0)) rfl d_jdk_38_method_25_20 0 (le rfl) (bl rfl) (bl rfl) (bl rfl) (bl rfl) rfl ?_
  rintro _ T vm h W C2 ⟨rfl, K2, F⟩
  replace Kt := Kt.trans K2 (allS (P := fun x => _ ∨ _) (Or.inl (by simp)) (allS (P := fun x => _ ∨ _) (Or.inl (by simp)) all0))
  replace E := E.keep K2
  replace X := X.keep K2
  replace M := M.mv C2
  replace M_d := M_d.mv C2
  refine s_iconst (pc' := 24) W (1 : Int32) d_jdk_38_method_25_23 rfl rfl ?_
  refine s_nreturn W (t := .boolean) rfl (by simp) d_jdk_38_method_25_24 (bl rfl) (bl rfl) ?_
  intro vm' C'
  exact ⟨rfl, Kt, F⟩
set_option maxRecDepth 65536 in
set_option maxHeartbeats 40000000 in
theorem ef_add3ES (m : MethodId) (x0 : Addr) (x1 : Addr) (x2 : Addr) (x3 : Int32) : entryFrame m #[(.ref x0), (.ref x1), (.ref x2), (.int x3)] 4 = mkF m 0 #[.val (.ref x0), .val (.ref x1), .val (.ref x2), .val (.int x3)] [] := by first | (simp [entryFrame, mkF, argsToLocals, Value.category]; done) | rfl
set_option maxRecDepth 65536 in
set_option maxHeartbeats 40000000 in
theorem c_add3ES (l : Launch) {Z : State} {a0 : Array Value} (hw : Hw Z a0) {n0 : Nat} {h : Heap} (O : Old Z n0 h) {a de x : Nat} {kde : ClassId} (D : DE Z de kde) (X : Exa Z h x "java/lang/String") (E : Exa Z h a "java/util/ArrayList") (Fe : Fld Z h a "java/util/ArrayList" "elementData" "[Ljava/lang/Object;" (.ref de)) (Fs : Fld Z h a "java/util/ArrayList" "size" "I" (.int 0)) (Fm : Fld Z h a "java/util/AbstractList" "modCount" "I" (.int 1)) (M0 : n0 ≤ a) (Ma : a < h.size) :
    Con l Z EL1 n0 (⟨"java/util/ArrayList", "add", "(Ljava/lang/Object;[Ljava/lang/Object;I)V"⟩ : MethodName) jdk_38_method_24_code 4 none [] ({ frames := 3, cells := 1, slots := 10, locals := 41 } : Room) #[(.ref a), (.ref x), (.ref de), (.int (0 : Int32))] h [a] (fun v vm' h' => v = none ∧ Keep h h' [a] ∧ ∃ d kd, ALF Z h' a d kd 1 [.ref x, .null, .null, .null, .null, .null, .null, .null, .null, .null] ∧ h.size ≤ d ∧ Mine Z EL1 n0 vm' h' d) := by
  refine Con.of pn40 O (el hw) ?_
  intro pg_ e s m below meth cd_ T W hs_ hSf
  rw [ef_add3ES]
  have M : Mine Z EL1 n0 s.vm h a := ⟨M0, Ma, hSf a (by simp)⟩
  have Kt := Keep.refl h [a]
  have AD := D.2.ext W.old.2
  refine s_iload_n (pc' := 1) W d_jdk_38_method_24_0 rfl rfl ?_
  refine s_aload_n (pc' := 2) W d_jdk_38_method_24_1 rfl rfl rfl ?_
  refine s_alen (pc' := 3) W AD d_jdk_38_method_24_2 rfl ?_
  refine s_icmpne (pc' := 6) (pcT := 11) W d_jdk_38_method_24_3 (by decide) rfl rfl (fun hq => absurd (by decide) hq) (fun _ => ?_)
  refine s_aload_n (pc' := 7) W d_jdk_38_method_24_6 rfl rfl rfl ?_
  refine s_virt (pc' := 10) W (C0 := "java/util/ArrayList") (w246 hw) (decl_of (w247 hw) (w250 hw)) (w249 hw) (w247 hw) (w28 hw) (w250 hw) (notFace_of_selects (args := a0) (w249 hw)) (by decide) pd26 [] rfl E (c_grow0 l hw W.old D E Fe Fs Fm M0 Ma) (allS ⟨M.2.1, M.2.2⟩ all0) rfl d_jdk_38_method_24_7 0 (le rfl) (bl rfl) (bl rfl) (bl rfl) (bl rfl) rfl ?_
  rintro _ T vm h W C1 ⟨d, kd, rfl, K1, Fe, Fs, Fm, V_d, O_d, fs_d, M_d⟩
  replace Kt := Kt.trans K1 (allS (P := fun x => _ ∨ _) (Or.inl (by simp)) all0)
  replace E := E.keep K1
  replace X := X.keep K1
  replace M := M.mv C1
  have nad : @Ne Nat a d := by omega
  refine s_astore_n (pc' := 11) W #[rv a, rv x, rv d, iv (0 : Int32)] d_jdk_38_method_24_10 rfl rfl rfl ?_
  refine s_aload_n (pc' := 12) W d_jdk_38_method_24_11 rfl rfl rfl ?_
  refine s_iload_n (pc' := 13) W d_jdk_38_method_24_12 rfl rfl ?_
  refine s_aload_n (pc' := 14) W d_jdk_38_method_24_13 rfl rfl rfl ?_
  refine s_aastore (pc' := 15) W 0 V_d rfl rfl (by obtain ⟨cl, A, q1, -⟩ := V_d; exact Sto.ofV A q1 O_d (Ins.of_exa X (w313 hw))) M_d rfl (by decide) (by decide) (bt rfl) d_jdk_38_method_24_14 rfl ?_
  intro T h W K2 C2 Vn2
  replace Kt := Kt.trans K2 (allS (P := fun x => _ ∨ _) (Or.inr fs_d) all0)
  replace E := E.keep K2
  replace X := X.keep K2
  replace M := M.mv C2
  replace Fe := Fe.keep K2 (ninS nad nin0)
  replace Fs := Fs.keep K2 (ninS nad nin0)
  replace Fm := Fm.keep K2 (ninS nad nin0)
  replace M_d := M_d.mv C2
  have V_d := Vn2
  clear Vn2
  have V_d : Arv Z _ d kd (.object "java/lang/Object") 10 [.ref x, .null, .null, .null, .null, .null, .null, .null, .null, .null] .null := V_d
  refine s_aload_n (pc' := 16) W d_jdk_38_method_24_15 rfl rfl rfl ?_
  refine s_iload_n (pc' := 17) W d_jdk_38_method_24_16 rfl rfl ?_
  refine s_iconst (pc' := 18) W (1 : Int32) d_jdk_38_method_24_17 rfl rfl ?_
  refine s_iadd (pc' := 19) W d_jdk_38_method_24_18 rfl ?_
  rw [show ((0 : Int32) + (1 : Int32)) = (1 : Int32) from by decide]
  refine s_putf (pc' := 22) W (w218 hw) Via.refl Fs E M (Or.inl (w209 hw)) (w27 hw) (ty := .int) (by decide) rfl rfl d_jdk_38_method_24_19 rfl ?_
  intro T h W K3 C3 Wr3 Fn3
  replace Fe := Fe.other Wr3 (Or.inr (slot_ne (Or.inl (w49 hw)) (Or.inl (w209 hw)) (by decide) (by decide : parseFieldDescriptor "[Ljava/lang/Object;" = some (.array (.object "java/lang/Object"))) (by decide : parseFieldDescriptor "I" = some .int)))
  replace Fm := Fm.other Wr3 (Or.inr (slot_ne (Or.inl (w46 hw)) (Or.inl (w209 hw)) (by decide) (by decide : parseFieldDescriptor "I" = some .int) (by decide : parseFieldDescriptor "I" = some .int)))
  replace Kt := Kt.trans K3 (allS (P := fun x => _ ∨ _) (Or.inl (by simp)) all0)
  replace E := E.keep K3
  replace X := X.keep K3
  replace M := M.mv C3
  replace M_d := M_d.mv C3
  replace V_d := V_d.keep K3 (ninS (Ne.symm nad) nin0)
  have Fs := Fn3
  clear Fn3
  refine s_ret W rfl d_jdk_38_method_24_22 (bl rfl) (bl rfl) ?_
  intro vm' C'
  exact ⟨rfl, Kt, d, kd, ⟨E, Fe, Fs, Fm, V_d, O_d⟩, fs_d, M_d.mv C'⟩
set_option maxRecDepth 65536 in
set_option maxHeartbeats 40000000 in
theorem ef_addES (m : MethodId) (x0 : Addr) (x1 : Addr) : entryFrame m #[(.ref x0), (.ref x1)] 2 = mkF m 0 #[.val (.ref x0), .val (.ref x1)] [] := by first | (simp [entryFrame, mkF, argsToLocals, Value.category]; done) | rfl
set_option maxRecDepth 65536 in
set_option maxHeartbeats 40000000 in
theorem c_addES (l : Launch) {Z : State} {a0 : Array Value} (hw : Hw Z a0) {n0 : Nat} {h : Heap} (O : Old Z n0 h) {a de x : Nat} {kde : ClassId} (D : DE Z de kde) (X : Exa Z h x "java/lang/String") (F : ALE Z h a de) (M0 : n0 ≤ a) :
    Con l Z EL1 n0 (⟨"java/util/ArrayList", "add", "(Ljava/lang/Object;)Z"⟩ : MethodName) jdk_38_method_25_code 2 (some .boolean) [] ({ frames := 4, cells := 1, slots := 10, locals := 56 } : Room) #[(.ref a), (.ref x)] h [a] (fun v vm' h' => v = some (.int 1) ∧ Keep h h' [a] ∧ ∃ d kd, ALF Z h' a d kd 1 [.ref x, .null, .null, .null, .null, .null, .null, .null, .null, .null] ∧ h.size ≤ d ∧ Mine Z EL1 n0 vm' h' d) := by
  refine Con.of pn41 O (el hw) ?_
  intro pg_ e s m below meth cd_ T W hs_ hSf
  rw [ef_addES]
  obtain ⟨E, Fe, Fs, Fm⟩ := F
  have Ma := nlt E.lt
  have M : Mine Z EL1 n0 s.vm h a := ⟨M0, Ma, hSf a (by simp)⟩
  have Kt := Keep.refl h [a]
  refine s_aload_n (pc' := 1) W d_jdk_38_method_25_0 rfl rfl rfl ?_
  refine s_dup (pc' := 2) W d_jdk_38_method_25_1 rfl rfl ?_
  refine s_getf (pc' := 5) W (w240 hw) (Via.of (w194 hw)) Fm d_jdk_38_method_25_2 rfl ?_
  intro T W
  refine s_iconst (pc' := 6) W (1 : Int32) d_jdk_38_method_25_5 rfl rfl ?_
  refine s_iadd (pc' := 7) W d_jdk_38_method_25_6 rfl ?_
  rw [show ((0 : Int32) + (1 : Int32)) = (1 : Int32) from by decide]
  refine s_putf (pc' := 10) W (w240 hw) (Via.of (w194 hw)) Fm E M (Or.inl (w46 hw)) (w27 hw) (ty := .int) (by decide) rfl rfl d_jdk_38_method_25_7 rfl ?_
  intro T h W K1 C1 Wr1 Fn1
  replace Fe := Fe.other Wr1 (Or.inr (slot_ne (Or.inl (w49 hw)) (Or.inl (w46 hw)) (by decide) (by decide : parseFieldDescriptor "[Ljava/lang/Object;" = some (.array (.object "java/lang/Object"))) (by decide : parseFieldDescriptor "I" = some .int)))
  replace Fs := Fs.other Wr1 (Or.inr (slot_ne (Or.inl (w209 hw)) (Or.inl (w46 hw)) (by decide) (by decide : parseFieldDescriptor "I" = some .int) (by decide : parseFieldDescriptor "I" = some .int)))
  replace Kt := Kt.trans K1 (allS (P := fun x => _ ∨ _) (Or.inl (by simp)) all0)
  replace E := E.keep K1
  replace X := X.keep K1
  replace M := M.mv C1
  have Fm := Fn1
  clear Fn1
  refine s_aload_n (pc' := 11) W d_jdk_38_method_25_10 rfl rfl rfl ?_
  refine s_aload_n (pc' := 12) W d_jdk_38_method_25_11 rfl rfl rfl ?_
  refine s_aload_n (pc' := 13) W d_jdk_38_method_25_12 rfl rfl rfl ?_
  refine s_getf (pc' := 16) W (w48 hw) Via.refl Fe d_jdk_38_method_25_13 rfl ?_
  intro T W
  refine s_aload_n (pc' := 17) W d_jdk_38_method_25_16 rfl rfl rfl ?_
  refine s_getf (pc' := 20) W (w218 hw) Via.refl Fs d_jdk_38_method_25_17 rfl ?_
  intro T W
  have Kt0 := Kt.1
  refine s_virt (pc' := 23) W (C0 := "java/util/ArrayList") (w241 hw) (decl_of (w242 hw) (w245 hw)) (w244 hw) (w242 hw) (w28 hw) (w245 hw) (notFace_of_selects (args := a0) (w244 hw)) (by decide) pd27 [(.ref x), (.ref de), (.int (0 : Int32))] rfl E (c_add3ES l hw W.old D X E Fe Fs Fm M0 M.2.1) (allS ⟨M.2.1, M.2.2⟩ all0) rfl d_jdk_38_method_25_20 0 (le rfl) (bl rfl) (bl rfl) (bl rfl) (bl rfl) rfl ?_
  rintro _ T vm h W C2 ⟨rfl, K2, d, kd, F, hd, Md⟩
  replace Kt := Kt.trans K2 (allS (P := fun x => _ ∨ _) (Or.inl (by simp)) all0)
  replace E := E.keep K2
  replace X := X.keep K2
  replace M := M.mv C2
  refine s_iconst (pc' := 24) W (1 : Int32) d_jdk_38_method_25_23 rfl rfl ?_
  refine s_nreturn W (t := .boolean) rfl (by simp) d_jdk_38_method_25_24 (bl rfl) (bl rfl) ?_
  intro vm' C'
  exact ⟨rfl, Kt, d, kd, F, Nat.le_trans Kt0 hd, Md.mv C'⟩
set_option maxRecDepth 65536 in
set_option maxHeartbeats 40000000 in
theorem ef_add3FS (m : MethodId) (x0 : Addr) (x1 : Addr) (x2 : Addr) (x3 : Int32) : entryFrame m #[(.ref x0), (.ref x1), (.ref x2), (.int x3)] 4 = mkF m 0 #[.val (.ref x0), .val (.ref x1), .val (.ref x2), .val (.int x3)] [] := by first | (simp [entryFrame, mkF, argsToLocals, Value.category]; done) | rfl
set_option maxRecDepth 65536 in
set_option maxHeartbeats 40000000 in
theorem c_add3FS (l : Launch) {Z : State} {a0 : Array Value} (hw : Hw Z a0) {n0 : Nat} {h : Heap} (O : Old Z n0 h) {a d x y : Nat} {kd : ClassId} (X : Exa Z h x "java/lang/String") (E : Exa Z h a "java/util/ArrayList") (Fe : Fld Z h a "java/util/ArrayList" "elementData" "[Ljava/lang/Object;" (.ref d)) (Fs : Fld Z h a "java/util/ArrayList" "size" "I" (.int 1)) (Fm : Fld Z h a "java/util/AbstractList" "modCount" "I" (.int 2)) (V_d : Arv Z h d kd (.object "java/lang/Object") 10 [.ref y, .null, .null, .null, .null, .null, .null, .null, .null, .null] .null) (O_d : Ovr Z kd "java/lang/Object") (nad : a ≠ d) (M0 : n0 ≤ a) (M1 : n0 ≤ d) :
    Con l Z EL1 n0 (⟨"java/util/ArrayList", "add", "(Ljava/lang/Object;[Ljava/lang/Object;I)V"⟩ : MethodName) jdk_38_method_24_code 4 none [] ({ frames := 0, cells := 0, slots := 0, locals := 0 } : Room) #[(.ref a), (.ref x), (.ref d), (.int (1 : Int32))] h [a, d] (fun v vm' h' => v = none ∧ Keep h h' [a, d] ∧ ALF Z h' a d kd 2 [.ref y, .ref x, .null, .null, .null, .null, .null, .null, .null, .null]) := by
  refine Con.of pn40 O (el hw) ?_
  intro pg_ e s m below meth cd_ T W hs_ hSf
  rw [ef_add3FS]
  have M : Mine Z EL1 n0 s.vm h a := ⟨M0, E.lt, hSf a (by simp)⟩
  have M_d : Mine Z EL1 n0 s.vm h d := ⟨M1, V_d.lt, hSf d (by simp)⟩
  have Kt := Keep.refl h [a, d]
  refine s_iload_n (pc' := 1) W d_jdk_38_method_24_0 rfl rfl ?_
  refine s_aload_n (pc' := 2) W d_jdk_38_method_24_1 rfl rfl rfl ?_
  refine s_alen (pc' := 3) W V_d d_jdk_38_method_24_2 rfl ?_
  refine s_icmpne (pc' := 6) (pcT := 11) W d_jdk_38_method_24_3 (by decide) rfl rfl (fun _ => ?_) (fun hq => absurd hq (by decide))
  refine s_aload_n (pc' := 12) W d_jdk_38_method_24_11 rfl rfl rfl ?_
  refine s_iload_n (pc' := 13) W d_jdk_38_method_24_12 rfl rfl ?_
  refine s_aload_n (pc' := 14) W d_jdk_38_method_24_13 rfl rfl rfl ?_
  refine s_aastore (pc' := 15) W 1 V_d rfl rfl (by obtain ⟨cl, A, q1, -⟩ := V_d; exact Sto.ofV A q1 O_d (Ins.of_exa X (w313 hw))) M_d rfl (by decide) (by decide) (bt rfl) d_jdk_38_method_24_14 rfl ?_
  intro T h W K1 C1 Vn1
  replace Kt := Kt.trans K1 (allS (P := fun x => _ ∨ _) (Or.inl (by simp)) all0)
  replace E := E.keep K1
  replace Fe := Fe.keep K1 (ninS nad nin0)
  replace Fs := Fs.keep K1 (ninS nad nin0)
  replace Fm := Fm.keep K1 (ninS nad nin0)
  replace X := X.keep K1
  replace M := M.mv C1
  replace M_d := M_d.mv C1
  have V_d := Vn1
  clear Vn1
  have V_d : Arv Z _ d kd (.object "java/lang/Object") 10 [.ref y, .ref x, .null, .null, .null, .null, .null, .null, .null, .null] .null := V_d
  refine s_aload_n (pc' := 16) W d_jdk_38_method_24_15 rfl rfl rfl ?_
  refine s_iload_n (pc' := 17) W d_jdk_38_method_24_16 rfl rfl ?_
  refine s_iconst (pc' := 18) W (1 : Int32) d_jdk_38_method_24_17 rfl rfl ?_
  refine s_iadd (pc' := 19) W d_jdk_38_method_24_18 rfl ?_
  rw [show ((1 : Int32) + (1 : Int32)) = (2 : Int32) from by decide]
  refine s_putf (pc' := 22) W (w218 hw) Via.refl Fs E M (Or.inl (w209 hw)) (w27 hw) (ty := .int) (by decide) rfl rfl d_jdk_38_method_24_19 rfl ?_
  intro T h W K2 C2 Wr2 Fn2
  replace Fe := Fe.other Wr2 (Or.inr (slot_ne (Or.inl (w49 hw)) (Or.inl (w209 hw)) (by decide) (by decide : parseFieldDescriptor "[Ljava/lang/Object;" = some (.array (.object "java/lang/Object"))) (by decide : parseFieldDescriptor "I" = some .int)))
  replace Fm := Fm.other Wr2 (Or.inr (slot_ne (Or.inl (w46 hw)) (Or.inl (w209 hw)) (by decide) (by decide : parseFieldDescriptor "I" = some .int) (by decide : parseFieldDescriptor "I" = some .int)))
  replace Kt := Kt.trans K2 (allS (P := fun x => _ ∨ _) (Or.inl (by simp)) all0)
  replace E := E.keep K2
  replace X := X.keep K2
  replace M := M.mv C2
  replace M_d := M_d.mv C2
  replace V_d := V_d.keep K2 (ninS (Ne.symm nad) nin0)
  have Fs := Fn2
  clear Fn2
  refine s_ret W rfl d_jdk_38_method_24_22 (bl rfl) (bl rfl) ?_
  intro vm' C'
  exact ⟨rfl, Kt, E, Fe, Fs, Fm, V_d, O_d⟩
set_option maxRecDepth 65536 in
set_option maxHeartbeats 40000000 in
theorem ef_addFS (m : MethodId) (x0 : Addr) (x1 : Addr) : entryFrame m #[(.ref x0), (.ref x1)] 2 = mkF m 0 #[.val (.ref x0), .val (.ref x1)] [] := by first | (simp [entryFrame, mkF, argsToLocals, Value.category]; done) | rfl
set_option maxRecDepth 65536 in
set_option maxHeartbeats 40000000 in
theorem c_addFS (l : Launch) {Z : State} {a0 : Array Value} (hw : Hw Z a0) {n0 : Nat} {h : Heap} (O : Old Z n0 h) {a d x y : Nat} {kd : ClassId} (X : Exa Z h x "java/lang/String") (F : ALF Z h a d kd 1 [.ref y, .null, .null, .null, .null, .null, .null, .null, .null, .null]) (nad : a ≠ d) (M0 : n0 ≤ a) (M1 : n0 ≤ d) :
    Con l Z EL1 n0 (⟨"java/util/ArrayList", "add", "(Ljava/lang/Object;)Z"⟩ : MethodName) jdk_38_method_25_code 2 (some .boolean) [] ({ frames := 1, cells := 0, slots := 0, locals := 15 } : Room) #[(.ref a), (.ref x)] h [a, d] (fun v vm' h' => v = some (.int 1) ∧ Keep h h' [a, d] ∧ ALF Z h' a d kd 2 [.ref y, .ref x, .null, .null, .null, .null, .null, .null, .null, .null]) := by
  refine Con.of pn41 O (el hw) ?_
  intro pg_ e s m below meth cd_ T W hs_ hSf
  rw [ef_addFS]
  obtain ⟨E, Fe, Fs, Fm, V_d, O_d⟩ := F
  have M : Mine Z EL1 n0 s.vm h a := ⟨M0, E.lt, hSf a (by simp)⟩
  have M_d : Mine Z EL1 n0 s.vm h d := ⟨M1, V_d.lt, hSf d (by simp)⟩
  have Kt := Keep.refl h [a, d]
  refine s_aload_n (pc' := 1) W d_jdk_38_method_25_0 rfl rfl rfl ?_
  refine s_dup (pc' := 2) W d_jdk_38_method_25_1 rfl rfl ?_
  refine s_getf (pc' := 5) W (w240 hw) (Via.of (w194 hw)) Fm d_jdk_38_method_25_2 rfl ?_
  intro T W
  refine s_iconst (pc' := 6) W (1 : Int32) d_jdk_38_method_25_5 rfl rfl ?_
  refine s_iadd (pc' := 7) W d_jdk_38_method_25_6 rfl ?_
  rw [show ((1 : Int32) + (1 : Int32)) = (2 : Int32) from by decide]
  refine s_putf (pc' := 10) W (w240 hw) (Via.of (w194 hw)) Fm E M (Or.inl (w46 hw)) (w27 hw) (ty := .int) (by decide) rfl rfl d_jdk_38_method_25_7 rfl ?_
  intro T h W K1 C1 Wr1 Fn1
  replace Fe := Fe.other Wr1 (Or.inr (slot_ne (Or.inl (w49 hw)) (Or.inl (w46 hw)) (by decide) (by decide : parseFieldDescriptor "[Ljava/lang/Object;" = some (.array (.object "java/lang/Object"))) (by decide : parseFieldDescriptor "I" = some .int)))
  replace Fs := Fs.other Wr1 (Or.inr (slot_ne (Or.inl (w209 hw)) (Or.inl (w46 hw)) (by decide) (by decide : parseFieldDescriptor "I" = some .int) (by decide : parseFieldDescriptor "I" = some .int)))
  replace Kt := Kt.trans K1 (allS (P := fun x => _ ∨ _) (Or.inl (by simp)) all0)
  replace E := E.keep K1
  replace X := X.keep K1
  replace V_d := V_d.keep K1 (ninS (Ne.symm nad) nin0)
  replace M := M.mv C1
  replace M_d := M_d.mv C1
  have Fm := Fn1
  clear Fn1
  refine s_aload_n (pc' := 11) W d_jdk_38_method_25_10 rfl rfl rfl ?_
  refine s_aload_n (pc' := 12) W d_jdk_38_method_25_11 rfl rfl rfl ?_
  refine s_aload_n (pc' := 13) W d_jdk_38_method_25_12 rfl rfl rfl ?_
  refine s_getf (pc' := 16) W (w48 hw) Via.refl Fe d_jdk_38_method_25_13 rfl ?_
  intro T W
  refine s_aload_n (pc' := 17) W d_jdk_38_method_25_16 rfl rfl rfl ?_
  refine s_getf (pc' := 20) W (w218 hw) Via.refl Fs d_jdk_38_method_25_17 rfl ?_
  intro T W
  refine s_virt (pc' := 23) W (C0 := "java/util/ArrayList") (w241 hw) (decl_of (w242 hw) (w245 hw)) (w244 hw) (w242 hw) (w28 hw) (w245 hw) (notFace_of_selects (args := a0) (w244 hw)) (by decide) pd27 [(.ref x), (.ref d), (.int (1 : Int32))] rfl E (c_add3FS l hw W.old X E Fe Fs Fm V_d O_d nad M0 M1) (allS ⟨M.2.1, M.2.2⟩ (allS ⟨M_d.2.1, M_d.2.2⟩ all0)) rfl d_jdk_38_method_25_20 0 (le rfl) (bl rfl) (bl rfl) (bl rfl) (bl rfl) rfl ?_
  rintro _ T vm h W C2 ⟨rfl, K2, F⟩
  replace Kt := Kt.trans K2 (allS (P := fun x => _ ∨ _) (Or.inl (by simp)) (allS (P := fun x => _ ∨ _) (Or.inl (by simp)) all0))
  replace E := E.keep K2
  replace X := X.keep K2
  replace M := M.mv C2
  replace M_d := M_d.mv C2
  refine s_iconst (pc' := 24) W (1 : Int32) d_jdk_38_method_25_23 rfl rfl ?_
  refine s_nreturn W (t := .boolean) rfl (by simp) d_jdk_38_method_25_24 (bl rfl) (bl rfl) ?_
  intro vm' C'
  exact ⟨rfl, Kt, F⟩
set_option maxRecDepth 65536 in
set_option maxHeartbeats 40000000 in
theorem ef_itinit (m : MethodId) (x0 : Addr) (x1 : Addr) : entryFrame m #[(.ref x0), (.ref x1)] 2 = mkF m 0 #[.val (.ref x0), .val (.ref x1)] [] := by first | (simp [entryFrame, mkF, argsToLocals, Value.category]; done) | rfl
set_option maxRecDepth 65536 in
set_option maxHeartbeats 40000000 in
theorem c_itinit (l : Launch) {Z : State} {a0 : Array Value} (hw : Hw Z a0) {n0 : Nat} {h : Heap} (O : Old Z n0 h) {a li : Nat} {mc : Int32} (E : Exa Z h a "java/util/ArrayList$Itr") (Ft : Fld Z h a "java/util/ArrayList$Itr" "this$0" "Ljava/util/ArrayList;" .null) (Fc : Fld Z h a "java/util/ArrayList$Itr" "cursor" "I" (.int 0)) (Fr_ : Fld Z h a "java/util/ArrayList$Itr" "lastRet" "I" (.int 0)) (Fx : Fld Z h a "java/util/ArrayList$Itr" "expectedModCount" "I" (.int 0)) (Fm : Fld Z h li "java/util/AbstractList" "modCount" "I" (.int mc)) (nla : li ≠ a) (M0 : n0 ≤ a) (Ma : a < h.size) :
    Con l Z EL1 n0 (⟨"java/util/ArrayList$Itr", "<init>", "(Ljava/util/ArrayList;)V"⟩ : MethodName) jdk_49_method_1_code 2 none [] ({ frames := 1, cells := 0, slots := 0, locals := 12 } : Room) #[(.ref a), (.ref li)] h [a] (fun v vm' h' => v = none ∧ Keep h h' [a] ∧ IT Z h' a li 0 mc) := by
  refine Con.of pn42 O (el hw) ?_
  intro pg_ e s m below meth cd_ T W hs_ hSf
  rw [ef_itinit]
  have M : Mine Z EL1 n0 s.vm h a := ⟨M0, Ma, hSf a (by simp)⟩
  have Kt := Keep.refl h [a]
  refine s_aload_n (pc' := 1) W d_jdk_49_method_1_0 rfl rfl rfl ?_
  refine s_aload_n (pc' := 2) W d_jdk_49_method_1_1 rfl rfl rfl ?_
  refine s_putf (pc' := 5) W (w188 hw) Via.refl Ft E M (Or.inr ⟨(w189 hw), rfl, rfl⟩) (w182 hw) (ty := (.object "java/util/ArrayList")) (by decide) rfl rfl d_jdk_49_method_1_2 rfl ?_
  intro T h W K1 C1 Wr1 Fn1
  replace Fc := Fc.other Wr1 (Or.inr (slot_ne (Or.inl (w207 hw)) (Or.inr (w189 hw)) (by decide) (by decide : parseFieldDescriptor "I" = some .int) (by decide : parseFieldDescriptor "Ljava/util/ArrayList;" = some (.object "java/util/ArrayList"))))
  replace Fr_ := Fr_.other Wr1 (Or.inr (slot_ne (Or.inl (w192 hw)) (Or.inr (w189 hw)) (by decide) (by decide : parseFieldDescriptor "I" = some .int) (by decide : parseFieldDescriptor "Ljava/util/ArrayList;" = some (.object "java/util/ArrayList"))))
  replace Fx := Fx.other Wr1 (Or.inr (slot_ne (Or.inl (w196 hw)) (Or.inr (w189 hw)) (by decide) (by decide : parseFieldDescriptor "I" = some .int) (by decide : parseFieldDescriptor "Ljava/util/ArrayList;" = some (.object "java/util/ArrayList"))))
  replace Kt := Kt.trans K1 (allS (P := fun x => _ ∨ _) (Or.inl (by simp)) all0)
  replace E := E.keep K1
  replace Fm := Fm.keep K1 (ninS nla nin0)
  replace M := M.mv C1
  have Ft := Fn1
  clear Fn1
  refine s_aload_n (pc' := 6) W d_jdk_49_method_1_5 rfl rfl rfl ?_
  refine s_objinit (pc' := 9) W (w190 hw) (w20 hw) (w21 hw) rfl d_jdk_49_method_1_6 0 (le rfl) (bl rfl) (bl rfl) rfl ?_
  intro T W
  refine s_aload_n (pc' := 10) W d_jdk_49_method_1_9 rfl rfl rfl ?_
  refine s_iconst (pc' := 11) W (-1 : Int32) d_jdk_49_method_1_10 rfl rfl ?_
  refine s_putf (pc' := 14) W (w191 hw) Via.refl Fr_ E M (Or.inl (w192 hw)) (w182 hw) (ty := .int) (by decide) rfl rfl d_jdk_49_method_1_11 rfl ?_
  intro T h W K2 C2 Wr2 Fn2
  replace Fc := Fc.other Wr2 (Or.inr (slot_ne (Or.inl (w207 hw)) (Or.inl (w192 hw)) (by decide) (by decide : parseFieldDescriptor "I" = some .int) (by decide : parseFieldDescriptor "I" = some .int)))
  replace Fx := Fx.other Wr2 (Or.inr (slot_ne (Or.inl (w196 hw)) (Or.inl (w192 hw)) (by decide) (by decide : parseFieldDescriptor "I" = some .int) (by decide : parseFieldDescriptor "I" = some .int)))
  replace Ft := Ft.other Wr2 (Or.inr (slot_ne (Or.inr (w189 hw)) (Or.inl (w192 hw)) (by decide) (by decide : parseFieldDescriptor "Ljava/util/ArrayList;" = some (.object "java/util/ArrayList")) (by decide : parseFieldDescriptor "I" = some .int)))
  replace Kt := Kt.trans K2 (allS (P := fun x => _ ∨ _) (Or.inl (by simp)) all0)
  replace E := E.keep K2
  replace Fm := Fm.keep K2 (ninS nla nin0)
  replace M := M.mv C2
  have Fr_ := Fn2
  clear Fn2
  refine s_aload_n (pc' := 15) W d_jdk_49_method_1_14 rfl rfl rfl ?_
  refine s_aload_n (pc' := 16) W d_jdk_49_method_1_15 rfl rfl rfl ?_
  refine s_getf (pc' := 19) W (w188 hw) Via.refl Ft d_jdk_49_method_1_16 rfl ?_
  intro T W
  refine s_getf (pc' := 22) W (w193 hw) (Via.of (w194 hw)) Fm d_jdk_49_method_1_19 rfl ?_
  intro T W
  refine s_putf (pc' := 25) W (w195 hw) Via.refl Fx E M (Or.inl (w196 hw)) (w182 hw) (ty := .int) (by decide) rfl rfl d_jdk_49_method_1_22 rfl ?_
  intro T h W K3 C3 Wr3 Fn3
  replace Fc := Fc.other Wr3 (Or.inr (slot_ne (Or.inl (w207 hw)) (Or.inl (w196 hw)) (by decide) (by decide : parseFieldDescriptor "I" = some .int) (by decide : parseFieldDescriptor "I" = some .int)))
  replace Ft := Ft.other Wr3 (Or.inr (slot_ne (Or.inr (w189 hw)) (Or.inl (w196 hw)) (by decide) (by decide : parseFieldDescriptor "Ljava/util/ArrayList;" = some (.object "java/util/ArrayList")) (by decide : parseFieldDescriptor "I" = some .int)))
  replace Fr_ := Fr_.other Wr3 (Or.inr (slot_ne (Or.inl (w192 hw)) (Or.inl (w196 hw)) (by decide) (by decide : parseFieldDescriptor "I" = some .int) (by decide : parseFieldDescriptor "I" = some .int)))
  replace Kt := Kt.trans K3 (allS (P := fun x => _ ∨ _) (Or.inl (by simp)) all0)
  replace E := E.keep K3
  replace Fm := Fm.keep K3 (ninS nla nin0)
  replace M := M.mv C3
  have Fx := Fn3
  clear Fn3
  refine s_ret W rfl d_jdk_49_method_1_25 (bl rfl) (bl rfl) ?_
  intro vm' C'
  exact ⟨rfl, Kt, E, Ft, Fc, ⟨_, Fr_⟩, Fx⟩
set_option maxRecDepth 65536 in
set_option maxHeartbeats 40000000 in
theorem ef_iterator (m : MethodId) (x0 : Addr) : entryFrame m #[(.ref x0)] 1 = mkF m 0 #[.val (.ref x0)] [] := by first | (simp [entryFrame, mkF, argsToLocals, Value.category]; done) | rfl
set_option maxRecDepth 65536 in
set_option maxHeartbeats 40000000 in
theorem c_iterator (l : Launch) {Z : State} {a0 : Array Value} (hw : Hw Z a0) {n0 : Nat} {h : Heap} (O : Old Z n0 h) {li : Nat} {mc : Int32} (Fm : Fld Z h li "java/util/AbstractList" "modCount" "I" (.int mc)) :
    Con l Z EL1 n0 (⟨"java/util/ArrayList", "iterator", "()Ljava/util/Iterator;"⟩ : MethodName) jdk_38_method_55_code 1 (some (.object "java/util/Iterator")) [] ({ frames := 2, cells := 1, slots := 4, locals := 26 } : Room) #[(.ref li)] h [] (fun v vm' h' => ∃ a, v = some (.ref a) ∧ Keep h h' [] ∧ IT Z h' a li 0 mc ∧ h.size ≤ a ∧ Mine Z EL1 n0 vm' h' a) := by
  refine Con.of pn43 O (el hw) ?_
  intro pg_ e s m below meth cd_ T W hs_ hSf
  rw [ef_iterator]
  have Kt := Keep.refl h []
  refine s_new (pc' := 3) W (w181 hw) (w182 hw) (w183 hw) d_jdk_38_method_55_0 (bl rfl) (bl rfl) rfl ?_
  intro a T h g_a
  have fs_a := Nat.le_trans Kt.1 (Nat.le_of_eq g_a.symm)
  have ne_li_a : @Ne Nat li a := by have := nlt Fm.lt; omega
  intro W K1 C1 M_a E_a D_a U_a
  replace Kt := Kt.trans K1 all0
  replace Fm := Fm.keep K1 nin0
  have F_this_0_a : Fld Z _ a "java/util/ArrayList$Itr" "this$0" "Ljava/util/ArrayList;" .null := D_a (Or.inr (w189 hw)) (ty := (.object "java/util/ArrayList")) (by decide)
  have F_cursor_a : Fld Z _ a "java/util/ArrayList$Itr" "cursor" "I" (.int 0) := D_a (Or.inl (w207 hw)) (ty := .int) (by decide)
  have F_lastRet_a : Fld Z _ a "java/util/ArrayList$Itr" "lastRet" "I" (.int 0) := D_a (Or.inl (w192 hw)) (ty := .int) (by decide)
  have F_expectedModCount_a : Fld Z _ a "java/util/ArrayList$Itr" "expectedModCount" "I" (.int 0) := D_a (Or.inl (w196 hw)) (ty := .int) (by decide)
  refine s_dup (pc' := 4) W d_jdk_38_method_55_3 rfl rfl ?_
  refine s_aload_n (pc' := 5) W d_jdk_38_method_55_4 rfl rfl rfl ?_
  refine s_init (pc' := 8) W rfl (w184 hw) (w185 hw) (w183 hw) (w187 hw) (by decide) pd28 [(.ref li)] rfl (c_itinit l hw W.old E_a F_this_0_a F_cursor_a F_lastRet_a F_expectedModCount_a Fm ne_li_a M_a.1 M_a.2.1) (allS ⟨M_a.2.1, M_a.2.2⟩ all0) rfl d_jdk_38_method_55_5 1 (le rfl) (bl rfl) (bl rfl) (bl rfl) (bl rfl) rfl ?_
  rintro _ T vm h W C2 ⟨rfl, K2, I⟩
  replace Kt := Kt.trans K2 (allS (P := fun x => _ ∨ _) (Or.inr fs_a) all0)
  replace Fm := Fm.keep K2 (ninS ne_li_a nin0)
  replace E_a := E_a.keep K2
  replace M_a := M_a.mv C2
  refine s_areturn W rfl rfl rfl d_jdk_38_method_55_8 (bl rfl) (bl rfl) ?_
  intro vm' C'
  exact ⟨a, rfl, Kt, I, fs_a, M_a.mv C'⟩
set_option maxRecDepth 65536 in
set_option maxHeartbeats 40000000 in
theorem ef_hasnext (m : MethodId) (x0 : Addr) : entryFrame m #[(.ref x0)] 1 = mkF m 0 #[.val (.ref x0)] [] := by first | (simp [entryFrame, mkF, argsToLocals, Value.category]; done) | rfl
set_option maxRecDepth 65536 in
set_option maxHeartbeats 40000000 in
theorem c_hasnext (l : Launch) {Z : State} {a0 : Array Value} (hw : Hw Z a0) {n0 : Nat} {h : Heap} (O : Old Z n0 h) {a li : Nat} {cur mc n : Int32} (I : IT Z h a li cur mc) (Fs : Fld Z h li "java/util/ArrayList" "size" "I" (.int n)) :
    Con l Z EL1 n0 (⟨"java/util/ArrayList$Itr", "hasNext", "()Z"⟩ : MethodName) jdk_49_method_2_code 1 (some .boolean) [] ({ frames := 0, cells := 0, slots := 0, locals := 0 } : Room) #[(.ref a)] h [] (fun v vm' h' => v = some (.int (if cur = n then 0 else 1)) ∧ h = h') := by
  refine Con.of pn44 O (el hw) ?_
  intro pg_ e s m below meth cd_ T W hs_ hSf
  rw [ef_hasnext]
  obtain ⟨E, Ft, Fc, -, Fx⟩ := I
  refine s_aload_n (pc' := 1) W d_jdk_49_method_2_0 rfl rfl rfl ?_
  refine s_getf (pc' := 4) W (w206 hw) Via.refl Fc d_jdk_49_method_2_1 rfl ?_
  intro T W
  refine s_aload_n (pc' := 5) W d_jdk_49_method_2_4 rfl rfl rfl ?_
  refine s_getf (pc' := 8) W (w188 hw) Via.refl Ft d_jdk_49_method_2_5 rfl ?_
  intro T W
  refine s_getfN (pc' := 11) W (w208 hw) Via.refl Fs d_jdk_49_method_2_8 rfl ?_
  intro T W
  refine s_icmpeq (pc' := 14) (pcT := 18) W d_jdk_49_method_2_11 (by decide) rfl rfl (fun hq => ?_) (fun hq => ?_)
  · refine s_iconst (pc' := 19) W (0 : Int32) d_jdk_49_method_2_18 rfl rfl ?_
    refine s_nreturn W (t := .boolean) rfl (by simp) d_jdk_49_method_2_19 (bl rfl) (bl rfl) ?_
    intro vm' C'
    exact ⟨by rw [if_pos hq]; rfl, rfl⟩
  · refine s_iconst (pc' := 15) W (1 : Int32) d_jdk_49_method_2_14 rfl rfl ?_
    refine s_goto (pc' := 19) W d_jdk_49_method_2_15 (by decide) rfl ?_
    refine s_nreturn W (t := .boolean) rfl (by simp) d_jdk_49_method_2_19 (bl rfl) (bl rfl) ?_
    intro vm' C'
    exact ⟨by rw [if_neg hq]; rfl, rfl⟩
set_option maxRecDepth 65536 in
set_option maxHeartbeats 40000000 in
theorem ef_chkmod (m : MethodId) (x0 : Addr) : entryFrame m #[(.ref x0)] 1 = mkF m 0 #[.val (.ref x0)] [] := by first | (simp [entryFrame, mkF, argsToLocals, Value.category]; done) | rfl
set_option maxRecDepth 65536 in
set_option maxHeartbeats 40000000 in
theorem c_chkmod (l : Launch) {Z : State} {a0 : Array Value} (hw : Hw Z a0) {n0 : Nat} {h : Heap} (O : Old Z n0 h) {a li : Nat} {cur mc : Int32} (I : IT Z h a li cur mc) (Fm : Fld Z h li "java/util/AbstractList" "modCount" "I" (.int mc)) :
    Con l Z EL1 n0 (⟨"java/util/ArrayList$Itr", "checkForComodification", "()V"⟩ : MethodName) jdk_49_method_6_code 1 none [] ({ frames := 0, cells := 0, slots := 0, locals := 0 } : Room) #[(.ref a)] h [] (fun v vm' h' => v = none ∧ h = h') := by
  refine Con.of pn45 O (el hw) ?_
  intro pg_ e s m below meth cd_ T W hs_ hSf
  rw [ef_chkmod]
  obtain ⟨E, Ft, Fc, -, Fx⟩ := I
  refine s_aload_n (pc' := 1) W d_jdk_49_method_6_0 rfl rfl rfl ?_
  refine s_getf (pc' := 4) W (w188 hw) Via.refl Ft d_jdk_49_method_6_1 rfl ?_
  intro T W
  refine s_getf (pc' := 7) W (w193 hw) (Via.of (w194 hw)) Fm d_jdk_49_method_6_4 rfl ?_
  intro T W
  refine s_aload_n (pc' := 8) W d_jdk_49_method_6_7 rfl rfl rfl ?_
  refine s_getf (pc' := 11) W (w195 hw) Via.refl Fx d_jdk_49_method_6_8 rfl ?_
  intro T W
  refine s_icmpeq (pc' := 14) (pcT := 22) W d_jdk_49_method_6_11 (by decide) rfl rfl (fun _ => ?_) (fun hq => absurd (rfl : mc = mc) hq)
  refine s_ret W rfl d_jdk_49_method_6_22 (bl rfl) (bl rfl) ?_
  intro vm' C'
  exact ⟨rfl, rfl⟩
set_option maxRecDepth 65536 in
set_option maxHeartbeats 40000000 in
theorem ef_next (m : MethodId) (x0 : Addr) : entryFrame m #[(.ref x0)] 3 = mkF m 0 #[.val (.ref x0), .unset, .unset] [] := by first | (simp [entryFrame, mkF, argsToLocals, Value.category]; done) | rfl
set_option maxRecDepth 65536 in
set_option maxHeartbeats 40000000 in
theorem c_next (l : Launch) {Z : State} {a0 : Array Value} (hw : Hw Z a0) {n0 : Nat} {h : Heap} (O : Old Z n0 h) {a li d x : Nat} {kd : ClassId} {cur n : Int32} {els : List Value} (I : IT Z h a li cur n) (F : ALF Z h li d kd n els) (hcn : cur < n) (hc0 : ¬ cur < 0) (hc10 : cur < 10) (hx : els.getD cur.toNatClampNeg .null = .ref x) (nda : d ≠ a) (M0 : n0 ≤ a) :
    Con l Z EL1 n0 (⟨"java/util/ArrayList$Itr", "next", "()Ljava/lang/Object;"⟩ : MethodName) jdk_49_method_3_code 3 (some (.object "java/lang/Object")) [] ({ frames := 1, cells := 0, slots := 0, locals := 12 } : Room) #[(.ref a)] h [a] (fun v vm' h' => v = some (.ref x) ∧ Keep h h' [a] ∧ IT Z h' a li (cur + 1) n) := by
  refine Con.of pn46 O (el hw) ?_
  intro pg_ e s m below meth cd_ T W hs_ hSf
  rw [ef_next]
  have I0 := I
  obtain ⟨E, Ft, Fc, ⟨lr, Fr_⟩, Fx⟩ := I
  have M : Mine Z EL1 n0 s.vm h a := ⟨M0, E.lt, hSf a (by simp)⟩
  have F0 := F
  obtain ⟨g1, g2, g3, g4, g5, g6⟩ := F
  have Kt := Keep.refl h [a]
  refine s_aload_n (pc' := 1) W d_jdk_49_method_3_0 rfl rfl rfl ?_
  refine s_virt (pc' := 4) W (C0 := "java/util/ArrayList$Itr") (w270 hw) (w271 hw) (w273 hw) (w272 hw) (w183 hw) (w274 hw) (notFace_of_selects (args := a0) (w273 hw)) (by decide) pd24 [] rfl E (c_chkmod l hw W.old I0 g4) all0 rfl d_jdk_49_method_3_1 0 (le rfl) (bl rfl) (bl rfl) (bl rfl) (bl rfl) rfl ?_
  rintro _ T vm _ W C1 ⟨rfl, rfl⟩
  replace M := M.mv C1
  refine s_aload_n (pc' := 5) W d_jdk_49_method_3_4 rfl rfl rfl ?_
  refine s_getf (pc' := 8) W (w206 hw) Via.refl Fc d_jdk_49_method_3_5 rfl ?_
  intro T W
  refine s_istore_n (pc' := 9) W #[rv a, iv cur, .unset] d_jdk_49_method_3_8 rfl rfl ?_
  refine s_iload_n (pc' := 10) W d_jdk_49_method_3_9 rfl rfl ?_
  refine s_aload_n (pc' := 11) W d_jdk_49_method_3_10 rfl rfl rfl ?_
  refine s_getf (pc' := 14) W (w188 hw) Via.refl Ft d_jdk_49_method_3_11 rfl ?_
  intro T W
  refine s_getfN (pc' := 17) W (w208 hw) Via.refl g3 d_jdk_49_method_3_14 rfl ?_
  intro T W
  refine s_icmplt (pc' := 20) (pcT := 28) W d_jdk_49_method_3_17 (by decide) rfl rfl (fun _ => ?_) (fun hq => absurd hcn hq)
  refine s_aload_n (pc' := 29) W d_jdk_49_method_3_28 rfl rfl rfl ?_
  refine s_getf (pc' := 32) W (w188 hw) Via.refl Ft d_jdk_49_method_3_29 rfl ?_
  intro T W
  refine s_getf (pc' := 35) W (w275 hw) Via.refl g2 d_jdk_49_method_3_32 rfl ?_
  intro T W
  refine s_astore_n (pc' := 36) W #[rv a, iv cur, rv d] d_jdk_49_method_3_35 rfl rfl rfl ?_
  refine s_iload_n (pc' := 37) W d_jdk_49_method_3_36 rfl rfl ?_
  refine s_aload_n (pc' := 38) W d_jdk_49_method_3_37 rfl rfl rfl ?_
  refine s_alen (pc' := 39) W g5 d_jdk_49_method_3_38 rfl ?_
  refine s_icmplt (pc' := 42) (pcT := 50) W d_jdk_49_method_3_39 (by decide) rfl rfl (fun _ => ?_) (fun hq => absurd hc10 hq)
  refine s_aload_n (pc' := 51) W d_jdk_49_method_3_50 rfl rfl rfl ?_
  refine s_iload_n (pc' := 52) W d_jdk_49_method_3_51 rfl rfl ?_
  refine s_iconst (pc' := 53) W (1 : Int32) d_jdk_49_method_3_52 rfl rfl ?_
  refine s_iadd (pc' := 54) W d_jdk_49_method_3_53 rfl ?_
  refine s_putf (pc' := 57) W (w206 hw) Via.refl Fc E M (Or.inl (w207 hw)) (w182 hw) (ty := .int) (by decide) rfl rfl d_jdk_49_method_3_54 rfl ?_
  intro T h W K2 C2 Wr2 Fn2
  replace Ft := Ft.other Wr2 (Or.inr (slot_ne (Or.inr (w189 hw)) (Or.inl (w207 hw)) (by decide) (by decide : parseFieldDescriptor "Ljava/util/ArrayList;" = some (.object "java/util/ArrayList")) (by decide : parseFieldDescriptor "I" = some .int)))
  replace Fr_ := Fr_.other Wr2 (Or.inr (slot_ne (Or.inl (w192 hw)) (Or.inl (w207 hw)) (by decide) (by decide : parseFieldDescriptor "I" = some .int) (by decide : parseFieldDescriptor "I" = some .int)))
  replace Fx := Fx.other Wr2 (Or.inr (slot_ne (Or.inl (w196 hw)) (Or.inl (w207 hw)) (by decide) (by decide : parseFieldDescriptor "I" = some .int) (by decide : parseFieldDescriptor "I" = some .int)))
  replace Kt := Kt.trans K2 (allS (P := fun x => _ ∨ _) (Or.inl (by simp)) all0)
  replace E := E.keep K2
  replace M := M.mv C2
  replace g5 := g5.keep K2 (ninS nda nin0)
  have Fc := Fn2
  clear Fn2
  refine s_aload_n (pc' := 58) W d_jdk_49_method_3_57 rfl rfl rfl ?_
  refine s_aload_n (pc' := 59) W d_jdk_49_method_3_58 rfl rfl rfl ?_
  refine s_iload_n (pc' := 60) W d_jdk_49_method_3_59 rfl rfl ?_
  refine s_dup_x1 (pc' := 61) W d_jdk_49_method_3_60 rfl rfl rfl ?_
  refine s_putf (pc' := 64) W (w191 hw) Via.refl Fr_ E M (Or.inl (w192 hw)) (w182 hw) (ty := .int) (by decide) rfl rfl d_jdk_49_method_3_61 rfl ?_
  intro T h W K3 C3 Wr3 Fn3
  replace Ft := Ft.other Wr3 (Or.inr (slot_ne (Or.inr (w189 hw)) (Or.inl (w192 hw)) (by decide) (by decide : parseFieldDescriptor "Ljava/util/ArrayList;" = some (.object "java/util/ArrayList")) (by decide : parseFieldDescriptor "I" = some .int)))
  replace Fx := Fx.other Wr3 (Or.inr (slot_ne (Or.inl (w196 hw)) (Or.inl (w192 hw)) (by decide) (by decide : parseFieldDescriptor "I" = some .int) (by decide : parseFieldDescriptor "I" = some .int)))
  replace Fc := Fc.other Wr3 (Or.inr (slot_ne (Or.inl (w207 hw)) (Or.inl (w192 hw)) (by decide) (by decide : parseFieldDescriptor "I" = some .int) (by decide : parseFieldDescriptor "I" = some .int)))
  replace Kt := Kt.trans K3 (allS (P := fun x => _ ∨ _) (Or.inl (by simp)) all0)
  replace E := E.keep K3
  replace M := M.mv C3
  replace g5 := g5.keep K3 (ninS nda nin0)
  have Fr_ := Fn3
  clear Fn3
  refine s_aaload (pc' := 65) W (.ref x) g5 rfl hc0 hc10 hx d_jdk_49_method_3_64 rfl ?_
  refine s_areturn W rfl rfl rfl d_jdk_49_method_3_65 (bl rfl) (bl rfl) ?_
  intro vm' C'
  exact ⟨rfl, Kt, E, Ft, Fc, ⟨_, Fr_⟩, Fx⟩
set_option maxRecDepth 65536 in
set_option maxHeartbeats 40000000 in
theorem ef_alsize (m : MethodId) (x0 : Addr) : entryFrame m #[(.ref x0)] 1 = mkF m 0 #[.val (.ref x0)] [] := by first | (simp [entryFrame, mkF, argsToLocals, Value.category]; done) | rfl
set_option maxRecDepth 65536 in
set_option maxHeartbeats 40000000 in
theorem c_alsize (l : Launch) {Z : State} {a0 : Array Value} (hw : Hw Z a0) {n0 : Nat} {h : Heap} (O : Old Z n0 h) {a : Nat} {n : Int32} (Fs : Fld Z h a "java/util/ArrayList" "size" "I" (.int n)) :
    Con l Z EL1 n0 (⟨"java/util/ArrayList", "size", "()I"⟩ : MethodName) jdk_38_method_8_code 1 (some .int) [] ({ frames := 0, cells := 0, slots := 0, locals := 0 } : Room) #[(.ref a)] h [] (fun v vm' h' => v = some (.int n) ∧ h = h') := by
  refine Con.of pn47 O (el hw) ?_
  intro pg_ e s m below meth cd_ T W hs_ hSf
  rw [ef_alsize]
  refine s_aload_n (pc' := 1) W d_jdk_38_method_8_0 rfl rfl rfl ?_
  refine s_getf (pc' := 4) W (w218 hw) Via.refl Fs d_jdk_38_method_8_1 rfl ?_
  intro T W
  refine s_ireturn W rfl d_jdk_38_method_8_4 (bl rfl) (bl rfl) ?_
  intro vm' C'
  exact ⟨rfl, rfl⟩
set_option maxRecDepth 65536 in
set_option maxHeartbeats 40000000 in
theorem ef_ochk (m : MethodId) (x0 : Int32) (x1 : Int32) : entryFrame m #[(.int x0), (.int x1)] 2 = mkF m 0 #[.val (.int x0), .val (.int x1)] [] := by first | (simp [entryFrame, mkF, argsToLocals, Value.category]; done) | rfl
set_option maxRecDepth 65536 in
set_option maxHeartbeats 40000000 in
theorem c_ochk (l : Launch) {Z : State} {a0 : Array Value} (hw : Hw Z a0) {n0 : Nat} {h : Heap} (O : Old Z n0 h) {i z : Int32} (h0 : ¬ i < 0) (h1 : i < z) :
    Con l Z EL1 n0 (⟨"java/util/Objects", "checkIndex", "(II)I"⟩ : MethodName) jdk_31_method_17_code 2 (some .int) [] ({ frames := 1, cells := 0, slots := 0, locals := 14 } : Room) #[(.int i), (.int z)] h [] (fun v vm' h' => v = some (.int i) ∧ h = h') := by
  refine Con.of pn48 O (el hw) ?_
  intro pg_ e s m below meth cd_ T W hs_ hSf
  rw [ef_ochk]
  refine s_iload_n (pc' := 1) W d_jdk_31_method_17_0 rfl rfl ?_
  refine s_iload_n (pc' := 2) W d_jdk_31_method_17_1 rfl rfl ?_
  refine s_aconst_null (pc' := 3) W d_jdk_31_method_17_2 rfl ?_
  refine s_static (pc' := 6) W (w348 hw) (w349 hw) (w350 hw) (w351 hw) (by decide) pd29 [(.int i), (.int z), .null] rfl (c_pchkN l hw W.old h0 h1) all0 rfl d_jdk_31_method_17_3 0 (le rfl) (bl rfl) (bl rfl) (bl rfl) (bl rfl) rfl ?_
  rintro _ T vm _ W C1 ⟨rfl, rfl⟩
  refine s_ireturn W rfl d_jdk_31_method_17_6 (bl rfl) (bl rfl) ?_
  intro vm' C'
  exact ⟨rfl, rfl⟩
set_option maxRecDepth 65536 in
set_option maxHeartbeats 40000000 in
theorem ef_eldata (m : MethodId) (x0 : Addr) (x1 : Int32) : entryFrame m #[(.ref x0), (.int x1)] 2 = mkF m 0 #[.val (.ref x0), .val (.int x1)] [] := by first | (simp [entryFrame, mkF, argsToLocals, Value.category]; done) | rfl
set_option maxRecDepth 65536 in
set_option maxHeartbeats 40000000 in
theorem c_eldata (l : Launch) {Z : State} {a0 : Array Value} (hw : Hw Z a0) {n0 : Nat} {h : Heap} (O : Old Z n0 h) {a d x : Nat} {kd : ClassId} {i n : Int32} {els : List Value} (F : ALF Z h a d kd n els) (h0 : ¬ i < 0) (h1 : i < n) (h10 : i < 10) (hx : els.getD i.toNatClampNeg .null = .ref x) :
    Con l Z EL1 n0 (⟨"java/util/ArrayList", "elementData", "(I)Ljava/lang/Object;"⟩ : MethodName) jdk_38_method_18_code 2 (some (.object "java/lang/Object")) [] ({ frames := 0, cells := 0, slots := 0, locals := 0 } : Room) #[(.ref a), (.int i)] h [] (fun v vm' h' => v = some (.ref x) ∧ h = h') := by
  refine Con.of pn49 O (el hw) ?_
  intro pg_ e s m below meth cd_ T W hs_ hSf
  rw [ef_eldata]
  refine s_aload_n (pc' := 1) W d_jdk_38_method_18_0 rfl rfl rfl ?_
  refine s_getf (pc' := 4) W (w48 hw) Via.refl F.2.1 d_jdk_38_method_18_1 rfl ?_
  intro T W
  refine s_iload_n (pc' := 5) W d_jdk_38_method_18_4 rfl rfl ?_
  refine s_aaload (pc' := 6) W (.ref x) F.2.2.2.2.1 rfl h0 h10 hx d_jdk_38_method_18_5 rfl ?_
  refine s_areturn W rfl rfl rfl d_jdk_38_method_18_6 (bl rfl) (bl rfl) ?_
  intro vm' C'
  exact ⟨rfl, rfl⟩
set_option maxRecDepth 65536 in
set_option maxHeartbeats 40000000 in
theorem ef_alget (m : MethodId) (x0 : Addr) (x1 : Int32) : entryFrame m #[(.ref x0), (.int x1)] 2 = mkF m 0 #[.val (.ref x0), .val (.int x1)] [] := by first | (simp [entryFrame, mkF, argsToLocals, Value.category]; done) | rfl
set_option maxRecDepth 65536 in
set_option maxHeartbeats 40000000 in
theorem c_alget (l : Launch) {Z : State} {a0 : Array Value} (hw : Hw Z a0) {n0 : Nat} {h : Heap} (O : Old Z n0 h) {a d x : Nat} {kd : ClassId} {i n : Int32} {els : List Value} (F : ALF Z h a d kd n els) (h0 : ¬ i < 0) (h1 : i < n) (h10 : i < 10) (hx : els.getD i.toNatClampNeg .null = .ref x) :
    Con l Z EL1 n0 (⟨"java/util/ArrayList", "get", "(I)Ljava/lang/Object;"⟩ : MethodName) jdk_38_method_20_code 2 (some (.object "java/lang/Object")) [] ({ frames := 2, cells := 0, slots := 0, locals := 27 } : Room) #[(.ref a), (.int i)] h [] (fun v vm' h' => v = some (.ref x) ∧ h = h') := by
  refine Con.of pn50 O (el hw) ?_
  intro pg_ e s m below meth cd_ T W hs_ hSf
  rw [ef_alget]
  refine s_iload_n (pc' := 1) W d_jdk_38_method_20_0 rfl rfl ?_
  refine s_aload_n (pc' := 2) W d_jdk_38_method_20_1 rfl rfl rfl ?_
  refine s_getf (pc' := 5) W (w218 hw) Via.refl F.2.2.1 d_jdk_38_method_20_2 rfl ?_
  intro T W
  refine s_static (pc' := 8) W (w344 hw) (w345 hw) (w346 hw) (w347 hw) (by decide) pd8 [(.int i), (.int n)] rfl (c_ochk l hw W.old h0 h1) all0 rfl d_jdk_38_method_20_5 0 (le rfl) (bl rfl) (bl rfl) (bl rfl) (bl rfl) rfl ?_
  rintro _ T vm _ W C1 ⟨rfl, rfl⟩
  refine s_pop (pc' := 9) W d_jdk_38_method_20_8 rfl rfl ?_
  refine s_aload_n (pc' := 10) W d_jdk_38_method_20_9 rfl rfl rfl ?_
  refine s_iload_n (pc' := 11) W d_jdk_38_method_20_10 rfl rfl ?_
  refine s_virt (pc' := 14) W (C0 := "java/util/ArrayList") (w352 hw) (w353 hw) (w355 hw) (w354 hw) (w28 hw) (w356 hw) (notFace_of_selects (args := a0) (w355 hw)) (by decide) pd30 [(.int i)] rfl F.1 (c_eldata l hw W.old F h0 h1 h10 hx) all0 rfl d_jdk_38_method_20_11 0 (le rfl) (bl rfl) (bl rfl) (bl rfl) (bl rfl) rfl ?_
  rintro _ T vm _ W C2 ⟨rfl, rfl⟩
  refine s_areturn W rfl rfl rfl d_jdk_38_method_20_14 (bl rfl) (bl rfl) ?_
  intro vm' C'
  exact ⟨rfl, rfl⟩
set_option maxRecDepth 65536 in
set_option maxHeartbeats 40000000 in
theorem lp_equals {p : Program} {l : Launch} {e : Env} {R : Room} {s : State} {m : MethodId} {args : Array Value} {below : List Frame} {meth : Method} {c : Code} {Z : State} {a0 : Array Value} (hw : Hw Z a0) {n0 : Nat} {cells slots : Nat} (hc : cells ≤ R.cells) (hl : slots ≤ R.slots) {a b : Addr} {ka kb : ClassId} {cs : List Int32} (hbig : cs.length < 2147483648) {h : Heap} {vm : Vm} (A : Arv Z h a ka .byte (Int32.ofNat cs.length) (cs.map bv) (.int 0)) (B : Arv Z h b kb .byte (Int32.ofNat cs.length) (cs.map bv) (.int 0)) : ∀ (r i : Nat), i + r = cs.length → ∀ (T : State), Wk p l e R s m args below meth c Z a0 EL1 n0 "java/lang/StringLatin1" "equals" jdk_43_method_13_code 3 (some .boolean) T vm h cells slots → Go p e below s R Z EL1 n0 (fun v vm' h' => v = some (.int 1) ∧ h = h') (T.setTop (mkF m 9 #[rv a, rv b, iv (Int32.ofNat i)] [])) := by
  intro r
  induction r with
  | zero =>
    intro i hi T W
    obtain rfl : i = cs.length := by omega
    refine s_iload_n (pc' := 10) W d_jdk_43_method_13_9 rfl rfl ?_
    refine s_aload_n (pc' := 11) W d_jdk_43_method_13_10 rfl rfl rfl ?_
    refine s_alen (pc' := 12) W A d_jdk_43_method_13_11 rfl ?_
    refine s_icmpge (pc' := 15) (pcT := 32) W d_jdk_43_method_13_12 (by decide) rfl rfl (fun _ => ?_) (fun hq => absurd hq (n_ge (Nat.le_refl _) hbig))
    refine s_iconst (pc' := 33) W (1 : Int32) d_jdk_43_method_13_32 rfl rfl ?_
    refine s_nreturn W (t := .boolean) rfl (by simp) d_jdk_43_method_13_33 hc hl ?_
    intro vm' C'
    exact ⟨rfl, rfl⟩
  | succ r ih =>
    intro i hi T W
    have hin : i < cs.length := by omega
    have hi31 : i < 2147483648 := by omega
    refine s_iload_n (pc' := 10) W d_jdk_43_method_13_9 rfl rfl ?_
    refine s_aload_n (pc' := 11) W d_jdk_43_method_13_10 rfl rfl rfl ?_
    refine s_alen (pc' := 12) W A d_jdk_43_method_13_11 rfl ?_
    refine s_icmpge (pc' := 15) (pcT := 32) W d_jdk_43_method_13_12 (by decide) rfl rfl (fun hq => absurd (n_lt hin hbig) hq) (fun _ => ?_)
    refine s_aload_n (pc' := 16) W d_jdk_43_method_13_15 rfl rfl rfl ?_
    refine s_iload_n (pc' := 17) W d_jdk_43_method_13_16 rfl rfl ?_
    refine s_baload (pc' := 18) W (.int (cs.getD i 0).toInt8.toInt32) A (n_nn hi31) (n_lt hin hbig) (by rw [n_clamp hi31]; exact bv_getD cs i) d_jdk_43_method_13_17 rfl ?_
    refine s_aload_n (pc' := 19) W d_jdk_43_method_13_18 rfl rfl rfl ?_
    refine s_iload_n (pc' := 20) W d_jdk_43_method_13_19 rfl rfl ?_
    refine s_baload (pc' := 21) W (.int (cs.getD i 0).toInt8.toInt32) B (n_nn hi31) (n_lt hin hbig) (by rw [n_clamp hi31]; exact bv_getD cs i) d_jdk_43_method_13_20 rfl ?_
    refine s_icmpeq (pc' := 24) (pcT := 26) W d_jdk_43_method_13_21 (by decide) rfl rfl (fun _ => ?_) (fun hq => absurd (rfl : (cs.getD i 0).toInt8.toInt32 = (cs.getD i 0).toInt8.toInt32) hq)
    refine s_iinc (pc' := 29) W (1 : Int32) #[rv a, rv b, iv ((Int32.ofNat i) + (1 : Int32))] d_jdk_43_method_13_26 rfl rfl rfl rfl ?_
    refine s_goto (pc' := 9) W d_jdk_43_method_13_29 (by decide) rfl ?_
    simp only [n_succ]
    exact ih (i + 1) (by omega) T W
set_option maxRecDepth 65536 in
set_option maxHeartbeats 40000000 in
theorem ef_l1equals (m : MethodId) (x0 : Addr) (x1 : Addr) : entryFrame m #[(.ref x0), (.ref x1)] 3 = mkF m 0 #[.val (.ref x0), .val (.ref x1), .unset] [] := by first | (simp [entryFrame, mkF, argsToLocals, Value.category]; done) | rfl
set_option maxRecDepth 65536 in
set_option maxHeartbeats 40000000 in
theorem c_l1equals (l : Launch) {Z : State} {a0 : Array Value} (hw : Hw Z a0) {n0 : Nat} {h : Heap} (O : Old Z n0 h) {a b : Nat} {ka kb : ClassId} {cs : List Int32} (hbig : cs.length < 2147483648) (A : Arv Z h a ka .byte (Int32.ofNat cs.length) (cs.map bv) (.int 0)) (B : Arv Z h b kb .byte (Int32.ofNat cs.length) (cs.map bv) (.int 0)) :
    Con l Z EL1 n0 (⟨"java/lang/StringLatin1", "equals", "([B[B)Z"⟩ : MethodName) jdk_43_method_13_code 3 (some .boolean) [] ({ frames := 0, cells := 0, slots := 0, locals := 0 } : Room) #[(.ref a), (.ref b)] h [] (fun v vm' h' => v = some (.int 1) ∧ h = h') := by
  refine Con.of pn51 O (el hw) ?_
  intro pg_ e s m below meth cd_ T W hs_ hSf
  rw [ef_l1equals]
  refine s_aload_n (pc' := 1) W d_jdk_43_method_13_0 rfl rfl rfl ?_
  refine s_alen (pc' := 2) W A d_jdk_43_method_13_1 rfl ?_
  refine s_aload_n (pc' := 3) W d_jdk_43_method_13_2 rfl rfl rfl ?_
  refine s_alen (pc' := 4) W B d_jdk_43_method_13_3 rfl ?_
  refine s_icmpne (pc' := 7) (pcT := 34) W d_jdk_43_method_13_4 (by decide) rfl rfl (fun hq => absurd (rfl : (Int32.ofNat cs.length) = (Int32.ofNat cs.length)) hq) (fun _ => ?_)
  refine s_iconst (pc' := 8) W (0 : Int32) d_jdk_43_method_13_7 rfl rfl ?_
  refine s_istore_n (pc' := 9) W #[rv a, rv b, iv (0 : Int32)] d_jdk_43_method_13_8 rfl rfl ?_
  exact lp_equals hw (Nat.le_refl _) (Nat.le_refl _) hbig A B cs.length 0 (Nat.zero_add _) T W
set_option maxRecDepth 65536 in
set_option maxHeartbeats 40000000 in
theorem ef_equals (m : MethodId) (x0 : Addr) (x1 : Addr) : entryFrame m #[(.ref x0), (.ref x1)] 3 = mkF m 0 #[.val (.ref x0), .val (.ref x1), .unset] [] := by first | (simp [entryFrame, mkF, argsToLocals, Value.category]; done) | rfl
set_option maxRecDepth 65536 in
set_option maxHeartbeats 40000000 in
theorem c_equals (l : Launch) {Z : State} {a0 : Array Value} (hw : Hw Z a0) {n0 : Nat} {h : Heap} (O : Old Z n0 h) (CS0 : CS Z) {a b fb gb : Nat} {ka kb : ClassId} {cs : List Int32} (F : LatB Z h a fb ka cs) (G : LatB Z h b gb kb cs) (nab : a ≠ b) :
    Con l Z EL1 n0 (⟨"java/lang/String", "equals", "(Ljava/lang/Object;)Z"⟩ : MethodName) jdk_42_method_66_code 3 (some .boolean) [] ({ frames := 1, cells := 0, slots := 0, locals := 14 } : Room) #[(.ref a), (.ref b)] h [] (fun v vm' h' => v = some (.int 1) ∧ h = h') := by
  refine Con.of pn52 O (el hw) ?_
  intro pg_ e s m below meth cd_ T W hs_ hSf
  rw [ef_equals]
  refine s_aload_n (pc' := 1) W d_jdk_42_method_66_0 rfl rfl rfl ?_
  refine s_aload_n (pc' := 2) W d_jdk_42_method_66_1 rfl rfl rfl ?_
  refine s_acmpY (pcT := 7) W d_jdk_42_method_66_2 rfl rfl (Jvm.Free.XT.aa_ne_t (fun q => nab (Value.ref.inj q))) (by decide) rfl ?_
  refine s_aload_n (pc' := 8) W d_jdk_42_method_66_7 rfl rfl rfl ?_
  refine s_inst (pc' := 11) W (w9 hw) (Ins.self G.1) d_jdk_42_method_66_8 rfl ?_
  intro T W
  refine s_ifeq (pc' := 14) (pcT := 54) W d_jdk_42_method_66_11 (by decide) rfl rfl (fun hq => absurd hq (by decide)) (fun _ => ?_)
  refine s_aload_n (pc' := 15) W d_jdk_42_method_66_14 rfl rfl rfl ?_
  refine s_cast (pc' := 18) W (w9 hw) (Ins.self G.1) d_jdk_42_method_66_15 rfl ?_
  intro T W
  obtain ⟨vc, Sc, hvc⟩ := CS0
  refine s_astore_n (pc' := 19) W #[rv a, rv b, rv b] d_jdk_42_method_66_18 rfl rfl rfl ?_
  refine s_gets (pc' := 22) W (w4 hw) Via.refl Sc d_jdk_42_method_66_19 rfl ?_
  intro T W
  refine s_ifeq (pc' := 25) (pcT := 36) W d_jdk_42_method_66_22 (by decide) rfl rfl (fun hq => absurd hq hvc) (fun _ => ?_)
  refine s_aload_n (pc' := 26) W d_jdk_42_method_66_25 rfl rfl rfl ?_
  refine s_getf (pc' := 29) W (w24 hw) Via.refl F.2.1 d_jdk_42_method_66_26 rfl ?_
  intro T W
  refine s_aload_n (pc' := 30) W d_jdk_42_method_66_29 rfl rfl rfl ?_
  refine s_getf (pc' := 33) W (w24 hw) Via.refl G.2.1 d_jdk_42_method_66_30 rfl ?_
  intro T W
  refine s_icmpne (pc' := 36) (pcT := 54) W d_jdk_42_method_66_33 (by decide) rfl rfl (fun hq => absurd (by decide) hq) (fun _ => ?_)
  refine s_aload_n (pc' := 37) W d_jdk_42_method_66_36 rfl rfl rfl ?_
  refine s_getf (pc' := 40) W (w22 hw) Via.refl F.2.2.1 d_jdk_42_method_66_37 rfl ?_
  intro T W
  refine s_aload_n (pc' := 41) W d_jdk_42_method_66_40 rfl rfl rfl ?_
  refine s_getf (pc' := 44) W (w22 hw) Via.refl G.2.2.1 d_jdk_42_method_66_41 rfl ?_
  intro T W
  refine s_static (pc' := 47) W (w362 hw) (w363 hw) (w7 hw) (w364 hw) (by decide) pd31 [(.ref fb), (.ref gb)] rfl (c_l1equals l hw W.old F.2.2.2.2.2 F.2.2.2.1 G.2.2.2.1) all0 rfl d_jdk_42_method_66_44 0 (le rfl) (bl rfl) (bl rfl) (bl rfl) (bl rfl) rfl ?_
  rintro _ T vm _ W C1 ⟨rfl, rfl⟩
  refine s_ifeq (pc' := 50) (pcT := 54) W d_jdk_42_method_66_47 (by decide) rfl rfl (fun hq => absurd hq (by decide)) (fun _ => ?_)
  refine s_iconst (pc' := 51) W (1 : Int32) d_jdk_42_method_66_50 rfl rfl ?_
  refine s_goto (pc' := 55) W d_jdk_42_method_66_51 (by decide) rfl ?_
  refine s_nreturn W (t := .boolean) rfl (by simp) d_jdk_42_method_66_55 (bl rfl) (bl rfl) ?_
  intro vm' C'
  exact ⟨rfl, rfl⟩
set_option maxRecDepth 65536 in
set_option maxHeartbeats 40000000 in
theorem ef_drinit (m : MethodId) (x0 : Addr) (x1 : Addr) (x2 : Addr) (x3 : Addr) : entryFrame m #[(.ref x0), (.ref x1), (.ref x2), (.ref x3)] 4 = mkF m 0 #[.val (.ref x0), .val (.ref x1), .val (.ref x2), .val (.ref x3)] [] := by first | (simp [entryFrame, mkF, argsToLocals, Value.category]; done) | rfl
set_option maxRecDepth 65536 in
set_option maxHeartbeats 40000000 in
theorem c_drinit (l : Launch) {Z : State} {a0 : Array Value} (hw : Hw Z a0) {n0 : Nat} {h : Heap} (O : Old Z n0 h) {o x1 x2 x3 : Nat} (E : Exa Z h o "com/example/tiebreak/tiebreak/core/DuplicateRegistration") (M0 : n0 ≤ o) (Ma : o < h.size) (F_filterClass : Fld Z h o "com/example/tiebreak/tiebreak/core/DuplicateRegistration" "filterClass" "Ljava/lang/String;" .null) (F_kept : Fld Z h o "com/example/tiebreak/tiebreak/core/DuplicateRegistration" "kept" "Ljava/lang/String;" .null) (F_dropped : Fld Z h o "com/example/tiebreak/tiebreak/core/DuplicateRegistration" "dropped" "Ljava/lang/String;" .null) :
    Con l Z EL1 n0 (⟨"com/example/tiebreak/tiebreak/core/DuplicateRegistration", "<init>", "(Ljava/lang/String;Ljava/lang/String;Ljava/lang/String;)V"⟩ : MethodName) prog_4_method_1_code 4 none [] ({ frames := 1, cells := 0, slots := 0, locals := 12 } : Room) #[(.ref o), (.ref x1), (.ref x2), (.ref x3)] h [o] (fun v vm' h' => v = none ∧ Keep h h' [o] ∧ Exa Z h' o "com/example/tiebreak/tiebreak/core/DuplicateRegistration" ∧ Fld Z h' o "com/example/tiebreak/tiebreak/core/DuplicateRegistration" "filterClass" "Ljava/lang/String;" (.ref x1) ∧ Fld Z h' o "com/example/tiebreak/tiebreak/core/DuplicateRegistration" "kept" "Ljava/lang/String;" (.ref x2) ∧ Fld Z h' o "com/example/tiebreak/tiebreak/core/DuplicateRegistration" "dropped" "Ljava/lang/String;" (.ref x3)) := by
  refine Con.of pn53 O (el hw) ?_
  intro pg_ e s m below meth cd_ T W hs_ hSf
  rw [ef_drinit]
  have M : Mine Z EL1 n0 s.vm h o := ⟨M0, Ma, hSf o (by simp)⟩
  have Kt := Keep.refl h [o]
  refine s_aload_n (pc' := 1) W d_prog_4_method_1_0 rfl rfl rfl ?_
  refine s_objinit (pc' := 4) W (w225 hw) (w20 hw) (w21 hw) rfl d_prog_4_method_1_1 0 (le rfl) (bl rfl) (bl rfl) rfl ?_
  intro T W
  refine s_aload_n (pc' := 5) W d_prog_4_method_1_4 rfl rfl rfl ?_
  refine s_aload_n (pc' := 6) W d_prog_4_method_1_5 rfl rfl rfl ?_
  refine s_putf (pc' := 9) W (w226 hw) Via.refl F_filterClass E M (Or.inr ⟨(w227 hw), rfl, rfl⟩) (w220 hw) (ty := (.object "java/lang/String")) (by decide) rfl rfl d_prog_4_method_1_6 rfl ?_
  intro T h W K1 C1 Wr1 Fn1
  replace F_kept := F_kept.other Wr1 (Or.inr (slot_ne (Or.inr (w229 hw)) (Or.inr (w227 hw)) (by decide) (by decide : parseFieldDescriptor "Ljava/lang/String;" = some (.object "java/lang/String")) (by decide : parseFieldDescriptor "Ljava/lang/String;" = some (.object "java/lang/String"))))
  replace F_dropped := F_dropped.other Wr1 (Or.inr (slot_ne (Or.inr (w231 hw)) (Or.inr (w227 hw)) (by decide) (by decide : parseFieldDescriptor "Ljava/lang/String;" = some (.object "java/lang/String")) (by decide : parseFieldDescriptor "Ljava/lang/String;" = some (.object "java/lang/String"))))
  replace Kt := Kt.trans K1 (allS (P := fun x => _ ∨ _) (Or.inl (by simp)) all0)
  replace E := E.keep K1
  replace M := M.mv C1
  have F_filterClass := Fn1
  clear Fn1
  refine s_aload_n (pc' := 10) W d_prog_4_method_1_9 rfl rfl rfl ?_
  refine s_aload_n (pc' := 11) W d_prog_4_method_1_10 rfl rfl rfl ?_
  refine s_putf (pc' := 14) W (w228 hw) Via.refl F_kept E M (Or.inr ⟨(w229 hw), rfl, rfl⟩) (w220 hw) (ty := (.object "java/lang/String")) (by decide) rfl rfl d_prog_4_method_1_11 rfl ?_
  intro T h W K2 C2 Wr2 Fn2
  replace F_dropped := F_dropped.other Wr2 (Or.inr (slot_ne (Or.inr (w231 hw)) (Or.inr (w229 hw)) (by decide) (by decide : parseFieldDescriptor "Ljava/lang/String;" = some (.object "java/lang/String")) (by decide : parseFieldDescriptor "Ljava/lang/String;" = some (.object "java/lang/String"))))
  replace F_filterClass := F_filterClass.other Wr2 (Or.inr (slot_ne (Or.inr (w227 hw)) (Or.inr (w229 hw)) (by decide) (by decide : parseFieldDescriptor "Ljava/lang/String;" = some (.object "java/lang/String")) (by decide : parseFieldDescriptor "Ljava/lang/String;" = some (.object "java/lang/String"))))
  replace Kt := Kt.trans K2 (allS (P := fun x => _ ∨ _) (Or.inl (by simp)) all0)
  replace E := E.keep K2
  replace M := M.mv C2
  have F_kept := Fn2
  clear Fn2
  refine s_aload_n (pc' := 15) W d_prog_4_method_1_14 rfl rfl rfl ?_
  refine s_aload_n (pc' := 16) W d_prog_4_method_1_15 rfl rfl rfl ?_
  refine s_putf (pc' := 19) W (w230 hw) Via.refl F_dropped E M (Or.inr ⟨(w231 hw), rfl, rfl⟩) (w220 hw) (ty := (.object "java/lang/String")) (by decide) rfl rfl d_prog_4_method_1_16 rfl ?_
  intro T h W K3 C3 Wr3 Fn3
  replace F_filterClass := F_filterClass.other Wr3 (Or.inr (slot_ne (Or.inr (w227 hw)) (Or.inr (w231 hw)) (by decide) (by decide : parseFieldDescriptor "Ljava/lang/String;" = some (.object "java/lang/String")) (by decide : parseFieldDescriptor "Ljava/lang/String;" = some (.object "java/lang/String"))))
  replace F_kept := F_kept.other Wr3 (Or.inr (slot_ne (Or.inr (w229 hw)) (Or.inr (w231 hw)) (by decide) (by decide : parseFieldDescriptor "Ljava/lang/String;" = some (.object "java/lang/String")) (by decide : parseFieldDescriptor "Ljava/lang/String;" = some (.object "java/lang/String"))))
  replace Kt := Kt.trans K3 (allS (P := fun x => _ ∨ _) (Or.inl (by simp)) all0)
  replace E := E.keep K3
  replace M := M.mv C3
  have F_dropped := Fn3
  clear Fn3
  refine s_ret W rfl d_prog_4_method_1_19 (bl rfl) (bl rfl) ?_
  intro vm' C'
  exact ⟨rfl, Kt, E, F_filterClass, F_kept, F_dropped⟩
set_option maxRecDepth 65536 in
set_option maxHeartbeats 40000000 in
theorem ef_dr_filterClass (m : MethodId) (x0 : Addr) : entryFrame m #[(.ref x0)] 1 = mkF m 0 #[.val (.ref x0)] [] := by first | (simp [entryFrame, mkF, argsToLocals, Value.category]; done) | rfl
set_option maxRecDepth 65536 in
set_option maxHeartbeats 40000000 in
theorem c_dr_filterClass (l : Launch) {Z : State} {a0 : Array Value} (hw : Hw Z a0) {n0 : Nat} {h : Heap} (O : Old Z n0 h) {o x : Nat} (F : Fld Z h o "com/example/tiebreak/tiebreak/core/DuplicateRegistration" "filterClass" "Ljava/lang/String;" (.ref x)) :
    Con l Z EL1 n0 (⟨"com/example/tiebreak/tiebreak/core/DuplicateRegistration", "filterClass", "()Ljava/lang/String;"⟩ : MethodName) prog_4_method_2_code 1 (some (.object "java/lang/String")) [] ({ frames := 0, cells := 0, slots := 0, locals := 0 } : Room) #[(.ref o)] h [] (fun v vm' h' => v = some (.ref x) ∧ h = h') := by
  refine Con.of pn54 O (el hw) ?_
  intro pg_ e s m below meth cd_ T W hs_ hSf
  rw [ef_dr_filterClass]
  refine s_aload_n (pc' := 1) W d_prog_4_method_2_0 rfl rfl rfl ?_
  refine s_getf (pc' := 4) W (w226 hw) Via.refl F d_prog_4_method_2_1 rfl ?_
  intro T W
  refine s_areturn W rfl rfl rfl d_prog_4_method_2_4 (bl rfl) (bl rfl) ?_
  intro vm' C'
  exact ⟨rfl, rfl⟩
set_option maxRecDepth 65536 in
set_option maxHeartbeats 40000000 in
theorem ef_dr_kept (m : MethodId) (x0 : Addr) : entryFrame m #[(.ref x0)] 1 = mkF m 0 #[.val (.ref x0)] [] := by first | (simp [entryFrame, mkF, argsToLocals, Value.category]; done) | rfl
set_option maxRecDepth 65536 in
set_option maxHeartbeats 40000000 in
theorem c_dr_kept (l : Launch) {Z : State} {a0 : Array Value} (hw : Hw Z a0) {n0 : Nat} {h : Heap} (O : Old Z n0 h) {o x : Nat} (F : Fld Z h o "com/example/tiebreak/tiebreak/core/DuplicateRegistration" "kept" "Ljava/lang/String;" (.ref x)) :
    Con l Z EL1 n0 (⟨"com/example/tiebreak/tiebreak/core/DuplicateRegistration", "kept", "()Ljava/lang/String;"⟩ : MethodName) prog_4_method_3_code 1 (some (.object "java/lang/String")) [] ({ frames := 0, cells := 0, slots := 0, locals := 0 } : Room) #[(.ref o)] h [] (fun v vm' h' => v = some (.ref x) ∧ h = h') := by
  refine Con.of pn55 O (el hw) ?_
  intro pg_ e s m below meth cd_ T W hs_ hSf
  rw [ef_dr_kept]
  refine s_aload_n (pc' := 1) W d_prog_4_method_3_0 rfl rfl rfl ?_
  refine s_getf (pc' := 4) W (w228 hw) Via.refl F d_prog_4_method_3_1 rfl ?_
  intro T W
  refine s_areturn W rfl rfl rfl d_prog_4_method_3_4 (bl rfl) (bl rfl) ?_
  intro vm' C'
  exact ⟨rfl, rfl⟩
set_option maxRecDepth 65536 in
set_option maxHeartbeats 40000000 in
theorem ef_dr_dropped (m : MethodId) (x0 : Addr) : entryFrame m #[(.ref x0)] 1 = mkF m 0 #[.val (.ref x0)] [] := by first | (simp [entryFrame, mkF, argsToLocals, Value.category]; done) | rfl
set_option maxRecDepth 65536 in
set_option maxHeartbeats 40000000 in
theorem c_dr_dropped (l : Launch) {Z : State} {a0 : Array Value} (hw : Hw Z a0) {n0 : Nat} {h : Heap} (O : Old Z n0 h) {o x : Nat} (F : Fld Z h o "com/example/tiebreak/tiebreak/core/DuplicateRegistration" "dropped" "Ljava/lang/String;" (.ref x)) :
    Con l Z EL1 n0 (⟨"com/example/tiebreak/tiebreak/core/DuplicateRegistration", "dropped", "()Ljava/lang/String;"⟩ : MethodName) prog_4_method_4_code 1 (some (.object "java/lang/String")) [] ({ frames := 0, cells := 0, slots := 0, locals := 0 } : Room) #[(.ref o)] h [] (fun v vm' h' => v = some (.ref x) ∧ h = h') := by
  refine Con.of pn56 O (el hw) ?_
  intro pg_ e s m below meth cd_ T W hs_ hSf
  rw [ef_dr_dropped]
  refine s_aload_n (pc' := 1) W d_prog_4_method_4_0 rfl rfl rfl ?_
  refine s_getf (pc' := 4) W (w230 hw) Via.refl F d_prog_4_method_4_1 rfl ?_
  intro T W
  refine s_areturn W rfl rfl rfl d_prog_4_method_4_4 (bl rfl) (bl rfl) ?_
  intro vm' C'
  exact ⟨rfl, rfl⟩
set_option maxRecDepth 65536 in
set_option maxHeartbeats 40000000 in
theorem ef_prefix (m : MethodId) (x0 : Addr) : entryFrame m #[(.ref x0)] 1 = mkF m 0 #[.val (.ref x0)] [] := by first | (simp [entryFrame, mkF, argsToLocals, Value.category]; done) | rfl
set_option maxRecDepth 65536 in
set_option maxHeartbeats 40000000 in
theorem c_prefix (l : Launch) {Z : State} {a0 : Array Value} (hw : Hw Z a0) {n0 : Nat} {h : Heap} (O : Old Z n0 h) (CS0 : CS Z) {sa sb : Nat} {ks : ClassId} {x : Int32} (G : LatB Z h sa sb ks [x]) :
    Con l Z EL1 n0 (⟨"com/example/tiebreak/tiebreak/core/ChainReport", "prefix", "(Ljava/lang/String;)Ljava/lang/String;"⟩ : MethodName) prog_2_method_7_code 1 (some (.object "java/lang/String")) [] ({ frames := 6, cells := 8, slots := 112, locals := 91 } : Room) #[(.ref sa)] h [] (fun v vm' h' => ∃ t c kc, v = some (.ref t) ∧ Keep h h' [] ∧ LatB Z h' t c kc [(116 : Int32), (105 : Int32), (101 : Int32), (98 : Int32), (114 : Int32), (101 : Int32), (97 : Int32), (107 : Int32), (32 : Int32), x] ∧ h.size ≤ t ∧ h.size ≤ c) := by
  refine Con.of pn57 O (el hw) ?_
  intro pg_ e s m below meth cd_ T W hs_ hSf
  rw [ef_prefix]
  have Kt := Keep.refl h []
  have lt1_0 := nlt G.lt
  have lt1_1 := nlt G.ltb
  refine s_new (pc' := 3) W (w57 hw) (w58 hw) (w59 hw) d_prog_2_method_7_0 (bl rfl) (bl rfl) rfl ?_
  intro a T h g_a
  have fs_a := Nat.le_trans Kt.1 (Nat.le_of_eq g_a.symm)
  have ne_sa_a : @Ne Nat sa a := by have := nlt G.lt; omega
  have ne_sb_a : @Ne Nat sb a := by have := nlt G.ltb; omega
  intro W K2 C2 M_a E_a D_a U_a
  replace Kt := Kt.trans K2 all0
  replace G := G.keep K2 nin0 nin0
  have F_coder_a : Fld Z _ a "java/lang/AbstractStringBuilder" "coder" "B" (.int 0) := D_a (Or.inl (w74 hw)) (ty := .byte) (by decide)
  have F_value_a : Fld Z _ a "java/lang/AbstractStringBuilder" "value" "[B" .null := D_a (Or.inl (w72 hw)) (ty := (.array .byte)) (by decide)
  have F_count_a : Fld Z _ a "java/lang/AbstractStringBuilder" "count" "I" (.int 0) := D_a (Or.inl (w99 hw)) (ty := .int) (by decide)
  have la_a := nlt M_a.2.1
  have Kt0 := Kt.1
  have hgr1 := K2.1
  refine s_dup (pc' := 4) W d_prog_2_method_7_3 rfl rfl ?_
  refine s_init (pc' := 7) W rfl (w60 hw) (w61 hw) (w59 hw) (w62 hw) (by decide) pd24 [] rfl (c_sbinit l hw W.old CS0 E_a M_a.1 M_a.2.1 F_coder_a F_value_a F_count_a) (allS ⟨M_a.2.1, M_a.2.2⟩ all0) rfl d_prog_2_method_7_4 1 (le rfl) (bl rfl) (bl rfl) (bl rfl) (bl rfl) rfl ?_
  rintro _ T vm h W C3 ⟨rfl, K3, b, k_b, Sb, hb_, M_b⟩
  replace Kt := Kt.trans K3 (allS (P := fun x => _ ∨ _) (Or.inr fs_a) all0)
  replace G := G.keep K3 (ninS ne_sa_a nin0) (ninS ne_sb_a nin0)
  replace E_a := E_a.keep K3
  replace M_a := M_a.mv C3
  have nab : @Ne Nat a b := by omega
  have fs_b := Nat.le_trans Kt0 hb_
  have ne_sa_b : @Ne Nat sa b := by omega
  have ne_sb_b : @Ne Nat sb b := by omega
  refine s_ldcS (pc' := 9) W 36 (w75 hw) (wS hw) (by decide +kernel) (vs := [.int (116), .int (105), .int (101), .int (98), .int (114), .int (101), .int (97), .int (107), .int (32)]) (z := 9) (by decide +kernel) (by decide) (by decide) d_prog_2_method_7_7 (by decide +kernel) (by decide) (bl rfl) (bl rfl) rfl ?_
  intro e1 b_e1 k_e1 T vm h W K4 C4 E_e1 Fc_e1 Fv_e1 V_e1 N_e1
  replace Kt := Kt.trans K4 all0
  replace G := G.keep K4 nin0 nin0
  replace M_a := M_a.mv C4
  replace M_b := M_b.mv C4
  replace Sb := Sb.keep K4 nin0 nin0
  have G_e1 : LatB Z _ e1 b_e1 k_e1 [116, 105, 101, 98, 114, 101, 97, 107, 32] := ⟨E_e1, Fc_e1, Fv_e1, V_e1, by simp [L1]; try decide, by decide⟩
  have ne_a_e1 := N_e1 _ M_a.2.2
  have ne_b_e1 := N_e1 _ M_b.2.2
  have lt5_0 := nlt G.lt
  have lt5_1 := nlt G.ltb
  have lt5_2 := nlt M_a.2.1
  have lt5_3 := nlt M_b.2.1
  have lt5_4 := nlt G_e1.lt
  have lt5_5 := nlt G_e1.ltb
  have KtS5 := Kt.1
  refine s_virt (pc' := 12) W (C0 := "java/lang/StringBuilder") (w78 hw) (w79 hw) (w81 hw) (w80 hw) (w59 hw) (w82 hw) (notFace_of_selects (args := a0) (w81 hw)) (by decide) pd32 [(.ref e1)] rfl Sb.1 (c_sbappendG l hw W.old CS0 Sb G_e1 (bl rfl) (Ne.symm ne_a_e1.1) (Ne.symm ne_a_e1.2) nab M_a.1 M_b.1) (allS ⟨M_a.2.1, M_a.2.2⟩ (allS ⟨M_b.2.1, M_b.2.2⟩ all0)) rfl d_prog_2_method_7_9 0 (le rfl) (bl rfl) (bl rfl) (bl rfl) (bl rfl) rfl ?_
  rintro _ T vm h W C6 ⟨rfl, K6, b1, k_b1, Sb, hg_b1, M_b1, nab⟩
  replace Kt := Kt.trans K6 (allS (P := fun x => _ ∨ _) (Or.inr fs_a) (allS (P := fun x => _ ∨ _) (Or.inr fs_b) all0))
  replace G := G.keep K6 (ninS ne_sa_a (ninS ne_sa_b nin0)) (ninS ne_sb_a (ninS ne_sb_b nin0))
  replace M_a := M_a.mv C6
  replace M_b := M_b.mv C6
  replace G_e1 := G_e1.keep K6 (ninS (Ne.symm ne_a_e1.1) (ninS (Ne.symm ne_b_e1.1) nin0)) (ninS (Ne.symm ne_a_e1.2) (ninS (Ne.symm ne_b_e1.2) nin0))
  have ne_sa_b1 : @Ne Nat sa b1 := by rcases hg_b1 with q | q; rw [q]; exact ne_sa_b; omega
  have ne_sb_b1 : @Ne Nat sb b1 := by rcases hg_b1 with q | q; rw [q]; exact ne_sb_b; omega
  have fs_b1 := hg_b1.elim (fun q => by rw [q]; exact fs_b) (fun q => Nat.le_trans KtS5 q)
  have Sb : SBd Z _ a b1 k_b1 16 [(116 : Int32), (105 : Int32), (101 : Int32), (98 : Int32), (114 : Int32), (101 : Int32), (97 : Int32), (107 : Int32), (32 : Int32)] := Sb
  refine s_aload_n (pc' := 13) W d_prog_2_method_7_12 rfl rfl rfl ?_
  have lt7_0 := nlt G.lt
  have lt7_1 := nlt G.ltb
  have lt7_2 := nlt M_a.2.1
  have lt7_3 := nlt M_b1.2.1
  have KtS7 := Kt.1
  refine s_virt (pc' := 16) W (C0 := "java/lang/StringBuilder") (w78 hw) (w79 hw) (w81 hw) (w80 hw) (w59 hw) (w82 hw) (notFace_of_selects (args := a0) (w81 hw)) (by decide) pd32 [(.ref sa)] rfl Sb.1 (c_sbappendG l hw W.old CS0 Sb G (bl rfl) ne_sa_a ne_sb_a nab M_a.1 M_b1.1) (allS ⟨M_a.2.1, M_a.2.2⟩ (allS ⟨M_b1.2.1, M_b1.2.2⟩ all0)) rfl d_prog_2_method_7_13 0 (le rfl) (bl rfl) (bl rfl) (bl rfl) (bl rfl) rfl ?_
  rintro _ T vm h W C8 ⟨rfl, K8, b2, k_b2, Sb, hg_b2, M_b2, nab⟩
  replace Kt := Kt.trans K8 (allS (P := fun x => _ ∨ _) (Or.inr fs_a) (allS (P := fun x => _ ∨ _) (Or.inr fs_b1) all0))
  replace G := G.keep K8 (ninS ne_sa_a (ninS ne_sa_b1 nin0)) (ninS ne_sb_a (ninS ne_sb_b1 nin0))
  replace M_a := M_a.mv C8
  replace M_b1 := M_b1.mv C8
  have fs_b2 := hg_b2.elim (fun q => by rw [q]; exact fs_b1) (fun q => Nat.le_trans KtS7 q)
  have Sb : SBd Z _ a b2 k_b2 16 [(116 : Int32), (105 : Int32), (101 : Int32), (98 : Int32), (114 : Int32), (101 : Int32), (97 : Int32), (107 : Int32), (32 : Int32), x] := Sb
  have lt9_0 := nlt M_a.2.1
  have lt9_1 := nlt Sb.ltb
  have KtS9 := Kt.1
  refine s_virt (pc' := 19) W (C0 := "java/lang/StringBuilder") (w125 hw) (w126 hw) (w128 hw) (w127 hw) (w59 hw) (w129 hw) (notFace_of_selects (args := a0) (w128 hw)) (by decide) pd33 [] rfl Sb.1 (c_sbtostring l hw W.old CS0 Sb (bt rfl)) all0 rfl d_prog_2_method_7_16 0 (le rfl) (bl rfl) (bl rfl) (bl rfl) (bl rfl) rfl ?_
  rintro _ T vm h W C10 ⟨t, c_t, k_t, rfl, K10, L_t, ht_t, hc_t⟩
  replace Kt := Kt.trans K10 all0
  replace M_a := M_a.mv C10
  replace Sb := Sb.keep K10 nin0 nin0
  replace M_b2 := M_b2.mv C10
  have ne_a_t : @Ne Nat a t := by omega
  have ne_b2_t : @Ne Nat b2 t := by omega
  have fs_t := Nat.le_trans KtS9 ht_t
  have ne_a_c_t : @Ne Nat a c_t := by omega
  have ne_b2_c_t : @Ne Nat b2 c_t := by omega
  have fs_c_t := Nat.le_trans KtS9 hc_t
  refine s_areturn W rfl rfl rfl d_prog_2_method_7_19 (bl rfl) (bl rfl) ?_
  intro vm' C'
  exact ⟨t, c_t, k_t, rfl, Kt, L_t, fs_t, fs_c_t⟩
set_option maxRecDepth 65536 in
set_option maxHeartbeats 40000000 in
theorem ef_dup0 (m : MethodId) (x0 : Addr) (x1 : Addr) : entryFrame m #[(.ref x0), (.ref x1)] 6 = mkF m 0 #[.val (.ref x0), .val (.ref x1), .unset, .unset, .unset, .unset] [] := by first | (simp [entryFrame, mkF, argsToLocals, Value.category]; done) | rfl
set_option maxRecDepth 65536 in
set_option maxHeartbeats 40000000 in
theorem c_dup0 (l : Launch) {Z : State} {a0 : Array Value} (hw : Hw Z a0) {n0 : Nat} {h : Heap} (O : Old Z n0 h) (CS0 : CS Z) {de : Nat} {kde : ClassId} (D : DE Z de kde) {sa sb : Nat} {ks : ClassId} {x : Int32} (G : LatB Z h sa sb ks [x]) {li de0 : Nat} (F : ALE Z h li de0) :
    Con l Z EL1 n0 (⟨"com/example/tiebreak/tiebreak/core/ChainReport", "duplicateLines", "(Ljava/lang/String;Ljava/util/List;)Ljava/util/List;"⟩ : MethodName) prog_2_method_4_code 6 (some (.object "java/util/List")) [] ({ frames := 7, cells := 10, slots := 119, locals := 103 } : Room) #[(.ref sa), (.ref li)] h [] (fun v vm' h' => ∃ r, v = some (.ref r) ∧ Keep h h' [] ∧ ALE Z h' r de) := by
  refine Con.of pn58 O (el hw) ?_
  intro pg_ e s m below meth cd_ T W hs_ hSf
  rw [ef_dup0]
  have Kt := Keep.refl h []
  have W0 := W.old
  have KtS1 := Kt.1
  refine s_aload_n (pc' := 1) W d_prog_2_method_4_0 rfl rfl rfl ?_
  refine s_static (pc' := 4) W (w54 hw) (w55 hw) (w52 hw) (w56 hw) (by decide) pd34 [(.ref sa)] rfl (c_prefix l hw W.old CS0 G) all0 rfl d_prog_2_method_4_1 0 (le rfl) (bl rfl) (bl rfl) (bl rfl) (bl rfl) rfl ?_
  rintro _ T vm h W C2 ⟨pf, pc, kp, rfl, K2, P, hp1, hp2⟩
  replace Kt := Kt.trans K2 all0
  have fs_pf := Nat.le_trans KtS1 hp1
  have fs_pc := Nat.le_trans KtS1 hp2
  refine s_astore_n (pc' := 5) W #[rv sa, rv li, rv pf, .unset, .unset, .unset] d_prog_2_method_4_4 rfl rfl rfl ?_
  refine s_new (pc' := 8) W (w170 hw) (w27 hw) (w28 hw) d_prog_2_method_4_5 (bl rfl) (bl rfl) rfl ?_
  intro r T h g_r
  have fs_r := Nat.le_trans Kt.1 (Nat.le_of_eq g_r.symm)
  have ne_pf_r : @Ne Nat pf r := by have := nlt P.lt; omega
  have ne_pc_r : @Ne Nat pc r := by have := nlt P.ltb; omega
  intro W K3 C3 M_r E_r D_r U_r
  replace Kt := Kt.trans K3 all0
  replace P := P.keep K3 nin0 nin0
  have F_elementData_r : Fld Z _ r "java/util/ArrayList" "elementData" "[Ljava/lang/Object;" .null := D_r (Or.inl (w49 hw)) (ty := (.array (.object "java/lang/Object"))) (by decide)
  have F_size_r : Fld Z _ r "java/util/ArrayList" "size" "I" (.int 0) := D_r (Or.inl (w209 hw)) (ty := .int) (by decide)
  have F_modCount_r : Fld Z _ r "java/util/AbstractList" "modCount" "I" (.int 0) := D_r (Or.inl (w46 hw)) (ty := .int) (by decide)
  refine s_dup (pc' := 9) W d_prog_2_method_4_8 rfl rfl ?_
  refine s_init (pc' := 12) W rfl (w171 hw) (w30 hw) (w28 hw) (w31 hw) (by decide) pd24 [] rfl (c_alinit l hw W.old D E_r M_r.1 M_r.2.1 F_modCount_r F_elementData_r F_size_r) (allS ⟨M_r.2.1, M_r.2.2⟩ all0) rfl d_prog_2_method_4_9 1 (le rfl) (bl rfl) (bl rfl) (bl rfl) (bl rfl) rfl ?_
  rintro _ T vm h W C4 ⟨rfl, K4, R_⟩
  replace Kt := Kt.trans K4 (allS (P := fun x => _ ∨ _) (Or.inr fs_r) all0)
  replace P := P.keep K4 (ninS ne_pf_r nin0) (ninS ne_pc_r nin0)
  replace E_r := E_r.keep K4
  replace M_r := M_r.mv C4
  refine s_astore_n (pc' := 13) W #[rv sa, rv li, rv pf, rv r, .unset, .unset] d_prog_2_method_4_12 rfl rfl rfl ?_
  refine s_aload_n (pc' := 14) W d_prog_2_method_4_13 rfl rfl rfl ?_
  have FL := F.keep Kt nin0
  have lt5_0 := nlt P.lt
  have lt5_1 := nlt P.ltb
  have lt5_2 := nlt M_r.2.1
  have KtS5 := Kt.1
  refine s_face (pc' := 19) W (C0 := "java/util/ArrayList") (w172 hw) (w173 hw) (w174 hw) (w175 hw) (w176 hw) (w177 hw) (w178 hw) (w179 hw) (w28 hw) (w180 hw) (by decide) pd35 [] rfl FL.1 (c_iterator l hw W.old FL.2.2.2) all0 rfl d_prog_2_method_4_14 0 (le rfl) (bl rfl) (bl rfl) (bl rfl) (bl rfl) rfl ?_
  rintro _ T vm h W C6 ⟨it, rfl, K6, I, hit, M_it⟩
  replace Kt := Kt.trans K6 all0
  replace P := P.keep K6 nin0 nin0
  replace M_r := M_r.mv C6
  replace R_ := R_.keep K6 nin0
  have ne_pf_it : @Ne Nat pf it := by omega
  have ne_pc_it : @Ne Nat pc it := by omega
  have ne_r_it : @Ne Nat r it := by omega
  have fs_it := Nat.le_trans KtS5 hit
  refine s_astore (pc' := 21) W #[rv sa, rv li, rv pf, rv r, rv it, .unset] d_prog_2_method_4_19 rfl rfl rfl ?_
  refine s_aload (pc' := 23) W d_prog_2_method_4_21 rfl rfl rfl ?_
  have FL := F.keep Kt nin0
  refine s_face (pc' := 28) W (C0 := "java/util/ArrayList$Itr") (w197 hw) (w198 hw) (w199 hw) (w200 hw) (w201 hw) (w202 hw) (w203 hw) (w204 hw) (w183 hw) (w205 hw) (by decide) pd21 [] rfl I.1 (c_hasnext l hw W.old I FL.2.2.1) all0 rfl d_prog_2_method_4_23 0 (le rfl) (bl rfl) (bl rfl) (bl rfl) (bl rfl) rfl ?_
  rintro _ T vm _ W C7 ⟨rfl, rfl⟩
  replace M_r := M_r.mv C7
  replace M_it := M_it.mv C7
  rw [show (if (0 : Int32) = (0 : Int32) then (0 : Int32) else 1) = 0 from by decide]
  refine s_ifeq (pc' := 31) (pcT := 119) W d_prog_2_method_4_28 (by decide) rfl rfl (fun _ => ?_) (fun hq => absurd (by decide) hq)
  refine s_aload_n (pc' := 120) W d_prog_2_method_4_119 rfl rfl rfl ?_
  refine s_areturn W rfl rfl rfl d_prog_2_method_4_120 (bl rfl) (bl rfl) ?_
  intro vm' C'
  exact ⟨r, rfl, Kt, R_⟩
set_option maxRecDepth 65536 in
set_option maxHeartbeats 40000000 in
theorem ef_dup1 (m : MethodId) (x0 : Addr) (x1 : Addr) : entryFrame m #[(.ref x0), (.ref x1)] 6 = mkF m 0 #[.val (.ref x0), .val (.ref x1), .unset, .unset, .unset, .unset] [] := by first | (simp [entryFrame, mkF, argsToLocals, Value.category]; done) | rfl
set_option maxRecDepth 65536 in
set_option maxHeartbeats 40000000 in
theorem c_dup1 (l : Launch) {Z : State} {a0 : Array Value} (hw : Hw Z a0) {n0 : Nat} {h : Heap} (O : Old Z n0 h) (CS0 : CS Z) {de : Nat} {kde : ClassId} (D : DE Z de kde) {sa sb : Nat} {ks : ClassId} {x : Int32} (G : LatB Z h sa sb ks [x]) {li d : Nat} {kd : ClassId} {o0 : Nat} (E0 : Exa Z h o0 "com/example/tiebreak/tiebreak/core/DuplicateRegistration") {s0c u0c : Nat} {m0c : ClassId} {c0 : Int32} (F0c : Fld Z h o0 "com/example/tiebreak/tiebreak/core/DuplicateRegistration" "filterClass" "Ljava/lang/String;" (.ref s0c)) (G0c : LatB Z h s0c u0c m0c [c0]) {s0k u0k : Nat} {m0k : ClassId} {k0 : Int32} (F0k : Fld Z h o0 "com/example/tiebreak/tiebreak/core/DuplicateRegistration" "kept" "Ljava/lang/String;" (.ref s0k)) (G0k : LatB Z h s0k u0k m0k [k0]) {s0d u0d : Nat} {m0d : ClassId} {d0 : Int32} (F0d : Fld Z h o0 "com/example/tiebreak/tiebreak/core/DuplicateRegistration" "dropped" "Ljava/lang/String;" (.ref s0d)) (G0d : LatB Z h s0d u0d m0d [d0]) (F : ALF Z h li d kd 1 [.ref o0, .null, .null, .null, .null, .null, .null, .null, .null, .null]) :
    Con l Z EL1 n0 (⟨"com/example/tiebreak/tiebreak/core/ChainReport", "duplicateLines", "(Ljava/lang/String;Ljava/util/List;)Ljava/util/List;"⟩ : MethodName) prog_2_method_4_code 6 (some (.object "java/util/List")) [] ({ frames := 7, cells := 32, slots := 899, locals := 103 } : Room) #[(.ref sa), (.ref li)] h [] (fun v vm' h' => ∃ r rd krd t0 ct0 kt0, v = some (.ref r) ∧ Keep h h' [] ∧ ALF Z h' r rd krd 1 [.ref t0, .null, .null, .null, .null, .null, .null, .null, .null, .null] ∧ LatB Z h' t0 ct0 kt0 [(116 : Int32), (105 : Int32), (101 : Int32), (98 : Int32), (114 : Int32), (101 : Int32), (97 : Int32), (107 : Int32), (32 : Int32), x, (32 : Int32), (100 : Int32), (117 : Int32), (112 : Int32), (108 : Int32), (105 : Int32), (99 : Int32), (97 : Int32), (116 : Int32), (101 : Int32), (58 : Int32), (32 : Int32), c0, (32 : Int32), (114 : Int32), (101 : Int32), (103 : Int32), (105 : Int32), (115 : Int32), (116 : Int32), (101 : Int32), (114 : Int32), (101 : Int32), (100 : Int32), (32 : Int32), (97 : Int32), (115 : Int32), (32 : Int32), k0, (32 : Int32), (97 : Int32), (110 : Int32), (100 : Int32), (32 : Int32), d0, (59 : Int32), (32 : Int32), (107 : Int32), (101 : Int32), (112 : Int32), (116 : Int32), (32 : Int32), k0]) := by
  refine Con.of pn58 O (el hw) ?_
  intro pg_ e s m below meth cd_ T W hs_ hSf
  rw [ef_dup1]
  have Kt := Keep.refl h []
  have W0 := W.old
  have KtS1 := Kt.1
  refine s_aload_n (pc' := 1) W d_prog_2_method_4_0 rfl rfl rfl ?_
  refine s_static (pc' := 4) W (w54 hw) (w55 hw) (w52 hw) (w56 hw) (by decide) pd34 [(.ref sa)] rfl (c_prefix l hw W.old CS0 G) all0 rfl d_prog_2_method_4_1 0 (le rfl) (bl rfl) (bl rfl) (bl rfl) (bl rfl) rfl ?_
  rintro _ T vm h W C2 ⟨pf, pc, kp, rfl, K2, P, hp1, hp2⟩
  replace Kt := Kt.trans K2 all0
  have fs_pf := Nat.le_trans KtS1 hp1
  have fs_pc := Nat.le_trans KtS1 hp2
  refine s_astore_n (pc' := 5) W #[rv sa, rv li, rv pf, .unset, .unset, .unset] d_prog_2_method_4_4 rfl rfl rfl ?_
  refine s_new (pc' := 8) W (w170 hw) (w27 hw) (w28 hw) d_prog_2_method_4_5 (bl rfl) (bl rfl) rfl ?_
  intro r T h g_r
  have fs_r := Nat.le_trans Kt.1 (Nat.le_of_eq g_r.symm)
  have ne_pf_r : @Ne Nat pf r := by have := nlt P.lt; omega
  have ne_pc_r : @Ne Nat pc r := by have := nlt P.ltb; omega
  intro W K3 C3 M_r E_r D_r U_r
  replace Kt := Kt.trans K3 all0
  replace P := P.keep K3 nin0 nin0
  have F_elementData_r : Fld Z _ r "java/util/ArrayList" "elementData" "[Ljava/lang/Object;" .null := D_r (Or.inl (w49 hw)) (ty := (.array (.object "java/lang/Object"))) (by decide)
  have F_size_r : Fld Z _ r "java/util/ArrayList" "size" "I" (.int 0) := D_r (Or.inl (w209 hw)) (ty := .int) (by decide)
  have F_modCount_r : Fld Z _ r "java/util/AbstractList" "modCount" "I" (.int 0) := D_r (Or.inl (w46 hw)) (ty := .int) (by decide)
  refine s_dup (pc' := 9) W d_prog_2_method_4_8 rfl rfl ?_
  refine s_init (pc' := 12) W rfl (w171 hw) (w30 hw) (w28 hw) (w31 hw) (by decide) pd24 [] rfl (c_alinit l hw W.old D E_r M_r.1 M_r.2.1 F_modCount_r F_elementData_r F_size_r) (allS ⟨M_r.2.1, M_r.2.2⟩ all0) rfl d_prog_2_method_4_9 1 (le rfl) (bl rfl) (bl rfl) (bl rfl) (bl rfl) rfl ?_
  rintro _ T vm h W C4 ⟨rfl, K4, R_⟩
  replace Kt := Kt.trans K4 (allS (P := fun x => _ ∨ _) (Or.inr fs_r) all0)
  replace P := P.keep K4 (ninS ne_pf_r nin0) (ninS ne_pc_r nin0)
  replace E_r := E_r.keep K4
  replace M_r := M_r.mv C4
  refine s_astore_n (pc' := 13) W #[rv sa, rv li, rv pf, rv r, .unset, .unset] d_prog_2_method_4_12 rfl rfl rfl ?_
  refine s_aload_n (pc' := 14) W d_prog_2_method_4_13 rfl rfl rfl ?_
  have FL := F.keep Kt nin0 nin0
  have lt5_0 := nlt P.lt
  have lt5_1 := nlt P.ltb
  have lt5_2 := nlt M_r.2.1
  have KtS5 := Kt.1
  refine s_face (pc' := 19) W (C0 := "java/util/ArrayList") (w172 hw) (w173 hw) (w174 hw) (w175 hw) (w176 hw) (w177 hw) (w178 hw) (w179 hw) (w28 hw) (w180 hw) (by decide) pd35 [] rfl FL.1 (c_iterator l hw W.old FL.2.2.2.1) all0 rfl d_prog_2_method_4_14 0 (le rfl) (bl rfl) (bl rfl) (bl rfl) (bl rfl) rfl ?_
  rintro _ T vm h W C6 ⟨it, rfl, K6, I, hit, M_it⟩
  replace Kt := Kt.trans K6 all0
  replace P := P.keep K6 nin0 nin0
  replace M_r := M_r.mv C6
  replace R_ := R_.keep K6 nin0
  have ne_pf_it : @Ne Nat pf it := by omega
  have ne_pc_it : @Ne Nat pc it := by omega
  have ne_r_it : @Ne Nat r it := by omega
  have fs_it := Nat.le_trans KtS5 hit
  refine s_astore (pc' := 21) W #[rv sa, rv li, rv pf, rv r, rv it, .unset] d_prog_2_method_4_19 rfl rfl rfl ?_
  refine s_aload (pc' := 23) W d_prog_2_method_4_21 rfl rfl rfl ?_
  have FL := F.keep Kt nin0 nin0
  refine s_face (pc' := 28) W (C0 := "java/util/ArrayList$Itr") (w197 hw) (w198 hw) (w199 hw) (w200 hw) (w201 hw) (w202 hw) (w203 hw) (w204 hw) (w183 hw) (w205 hw) (by decide) pd21 [] rfl I.1 (c_hasnext l hw W.old I FL.2.2.1) all0 rfl d_prog_2_method_4_23 0 (le rfl) (bl rfl) (bl rfl) (bl rfl) (bl rfl) rfl ?_
  rintro _ T vm _ W C7 ⟨rfl, rfl⟩
  replace M_r := M_r.mv C7
  replace M_it := M_it.mv C7
  rw [show (if (0 : Int32) = (1 : Int32) then (0 : Int32) else 1) = 1 from by decide]
  refine s_ifeq (pc' := 31) (pcT := 119) W d_prog_2_method_4_28 (by decide) rfl rfl (fun hq => absurd hq (by decide)) (fun _ => ?_)
  refine s_aload (pc' := 33) W d_prog_2_method_4_31 rfl rfl rfl ?_
  have nd_it : @Ne Nat d it := by have := nlt F.ltb; omega
  refine s_face (pc' := 38) W (C0 := "java/util/ArrayList$Itr") (w262 hw) (w263 hw) (w264 hw) (w265 hw) (w266 hw) (w267 hw) (w268 hw) (w204 hw) (w183 hw) (w269 hw) (by decide) pd36 [] rfl I.1 (c_next l hw W.old I FL (by decide) (by decide) (by decide) rfl nd_it M_it.1) (allS ⟨M_it.2.1, M_it.2.2⟩ all0) rfl d_prog_2_method_4_33 0 (le rfl) (bl rfl) (bl rfl) (bl rfl) (bl rfl) rfl ?_
  rintro _ T vm h W C8 ⟨rfl, K8, I⟩
  replace Kt := Kt.trans K8 (allS (P := fun x => _ ∨ _) (Or.inr fs_it) all0)
  replace P := P.keep K8 (ninS ne_pf_it nin0) (ninS ne_pc_it nin0)
  replace M_r := M_r.mv C8
  replace R_ := R_.keep K8 (ninS ne_r_it nin0)
  replace M_it := M_it.mv C8
  have I : IT Z _ it li 1 1 := I
  refine s_cast (pc' := 41) W (w276 hw) (Ins.of_exa (E0.keep Kt) (w277 hw)) d_prog_2_method_4_38 rfl ?_
  intro T W
  refine s_astore (pc' := 43) W #[rv sa, rv li, rv pf, rv r, rv it, rv o0] d_prog_2_method_4_41 rfl rfl rfl ?_
  refine s_aload_n (pc' := 44) W d_prog_2_method_4_43 rfl rfl rfl ?_
  have lt9_0 := nlt P.lt
  have lt9_1 := nlt P.ltb
  have lt9_2 := nlt M_r.2.1
  have lt9_3 := nlt M_it.2.1
  refine s_new (pc' := 47) W (w57 hw) (w58 hw) (w59 hw) d_prog_2_method_4_44 (bl rfl) (bl rfl) rfl ?_
  intro aa0 T h g_aa0
  have fs_aa0 := Nat.le_trans Kt.1 (Nat.le_of_eq g_aa0.symm)
  have ne_pf_aa0 : @Ne Nat pf aa0 := by have := nlt P.lt; omega
  have ne_pc_aa0 : @Ne Nat pc aa0 := by have := nlt P.ltb; omega
  have ne_r_aa0 : @Ne Nat r aa0 := by have := nlt M_r.2.1; omega
  have ne_it_aa0 : @Ne Nat it aa0 := by have := nlt M_it.2.1; omega
  intro W K10 C10 M_aa0 E_aa0 D_aa0 U_aa0
  replace Kt := Kt.trans K10 all0
  replace P := P.keep K10 nin0 nin0
  replace M_r := M_r.mv C10
  replace R_ := R_.keep K10 nin0
  replace M_it := M_it.mv C10
  replace I := I.keep K10 nin0
  have F_coder_aa0 : Fld Z _ aa0 "java/lang/AbstractStringBuilder" "coder" "B" (.int 0) := D_aa0 (Or.inl (w74 hw)) (ty := .byte) (by decide)
  have F_value_aa0 : Fld Z _ aa0 "java/lang/AbstractStringBuilder" "value" "[B" .null := D_aa0 (Or.inl (w72 hw)) (ty := (.array .byte)) (by decide)
  have F_count_aa0 : Fld Z _ aa0 "java/lang/AbstractStringBuilder" "count" "I" (.int 0) := D_aa0 (Or.inl (w99 hw)) (ty := .int) (by decide)
  have la_aa0 := nlt M_aa0.2.1
  have Kt0 := Kt.1
  have hgr9 := K10.1
  refine s_dup (pc' := 48) W d_prog_2_method_4_47 rfl rfl ?_
  refine s_init (pc' := 51) W rfl (w60 hw) (w61 hw) (w59 hw) (w62 hw) (by decide) pd24 [] rfl (c_sbinit l hw W.old CS0 E_aa0 M_aa0.1 M_aa0.2.1 F_coder_aa0 F_value_aa0 F_count_aa0) (allS ⟨M_aa0.2.1, M_aa0.2.2⟩ all0) rfl d_prog_2_method_4_48 2 (le rfl) (bl rfl) (bl rfl) (bl rfl) (bl rfl) rfl ?_
  rintro _ T vm h W C11 ⟨rfl, K11, bb0, k_bb0, Sb, hb_, M_bb0⟩
  replace Kt := Kt.trans K11 (allS (P := fun x => _ ∨ _) (Or.inr fs_aa0) all0)
  replace P := P.keep K11 (ninS ne_pf_aa0 nin0) (ninS ne_pc_aa0 nin0)
  replace M_r := M_r.mv C11
  replace R_ := R_.keep K11 (ninS ne_r_aa0 nin0)
  replace M_it := M_it.mv C11
  replace I := I.keep K11 (ninS ne_it_aa0 nin0)
  replace E_aa0 := E_aa0.keep K11
  replace M_aa0 := M_aa0.mv C11
  have nab : @Ne Nat aa0 bb0 := by omega
  have fs_bb0 := Nat.le_trans Kt0 hb_
  have ne_pf_bb0 : @Ne Nat pf bb0 := by omega
  have ne_pc_bb0 : @Ne Nat pc bb0 := by omega
  have ne_r_bb0 : @Ne Nat r bb0 := by omega
  have ne_it_bb0 : @Ne Nat it bb0 := by omega
  refine s_aload_n (pc' := 52) W d_prog_2_method_4_51 rfl rfl rfl ?_
  have lt12_0 := nlt P.lt
  have lt12_1 := nlt P.ltb
  have lt12_2 := nlt M_r.2.1
  have lt12_3 := nlt M_it.2.1
  have lt12_4 := nlt M_aa0.2.1
  have lt12_5 := nlt M_bb0.2.1
  have KtS12 := Kt.1
  refine s_virt (pc' := 55) W (C0 := "java/lang/StringBuilder") (w78 hw) (w79 hw) (w81 hw) (w80 hw) (w59 hw) (w82 hw) (notFace_of_selects (args := a0) (w81 hw)) (by decide) pd32 [(.ref pf)] rfl Sb.1 (c_sbappendG l hw W.old CS0 Sb P (bl rfl) ne_pf_aa0 ne_pc_aa0 nab M_aa0.1 M_bb0.1) (allS ⟨M_aa0.2.1, M_aa0.2.2⟩ (allS ⟨M_bb0.2.1, M_bb0.2.2⟩ all0)) rfl d_prog_2_method_4_52 1 (le rfl) (bl rfl) (bl rfl) (bl rfl) (bl rfl) rfl ?_
  rintro _ T vm h W C13 ⟨rfl, K13, b0_1, k_b0_1, Sb, hg_b0_1, M_b0_1, nab⟩
  replace Kt := Kt.trans K13 (allS (P := fun x => _ ∨ _) (Or.inr fs_aa0) (allS (P := fun x => _ ∨ _) (Or.inr fs_bb0) all0))
  replace P := P.keep K13 (ninS ne_pf_aa0 (ninS ne_pf_bb0 nin0)) (ninS ne_pc_aa0 (ninS ne_pc_bb0 nin0))
  replace M_r := M_r.mv C13
  replace R_ := R_.keep K13 (ninS ne_r_aa0 (ninS ne_r_bb0 nin0))
  replace M_it := M_it.mv C13
  replace I := I.keep K13 (ninS ne_it_aa0 (ninS ne_it_bb0 nin0))
  replace M_aa0 := M_aa0.mv C13
  replace M_bb0 := M_bb0.mv C13
  have ne_pf_b0_1 : @Ne Nat pf b0_1 := by rcases hg_b0_1 with q | q; rw [q]; exact ne_pf_bb0; omega
  have ne_pc_b0_1 : @Ne Nat pc b0_1 := by rcases hg_b0_1 with q | q; rw [q]; exact ne_pc_bb0; omega
  have ne_r_b0_1 : @Ne Nat r b0_1 := by rcases hg_b0_1 with q | q; rw [q]; exact ne_r_bb0; omega
  have ne_it_b0_1 : @Ne Nat it b0_1 := by rcases hg_b0_1 with q | q; rw [q]; exact ne_it_bb0; omega
  have fs_b0_1 := hg_b0_1.elim (fun q => by rw [q]; exact fs_bb0) (fun q => Nat.le_trans KtS12 q)
  have Sb : SBd Z _ aa0 b0_1 k_b0_1 16 [(116 : Int32), (105 : Int32), (101 : Int32), (98 : Int32), (114 : Int32), (101 : Int32), (97 : Int32), (107 : Int32), (32 : Int32), x] := Sb
  refine s_ldcS (pc' := 57) W 48 (w278 hw) (wS hw) (by decide +kernel) (vs := [.int (32), .int (100), .int (117), .int (112), .int (108), .int (105), .int (99), .int (97), .int (116), .int (101), .int (58), .int (32)]) (z := 12) (by decide +kernel) (by decide) (by decide) d_prog_2_method_4_55 (by decide +kernel) (by decide) (bl rfl) (bl rfl) rfl ?_
  intro e01 b_e01 k_e01 T vm h W K14 C14 E_e01 Fc_e01 Fv_e01 V_e01 N_e01
  replace Kt := Kt.trans K14 all0
  replace P := P.keep K14 nin0 nin0
  replace M_r := M_r.mv C14
  replace R_ := R_.keep K14 nin0
  replace M_it := M_it.mv C14
  replace I := I.keep K14 nin0
  replace M_aa0 := M_aa0.mv C14
  replace Sb := Sb.keep K14 nin0 nin0
  replace M_b0_1 := M_b0_1.mv C14
  have G_e01 : LatB Z _ e01 b_e01 k_e01 [32, 100, 117, 112, 108, 105, 99, 97, 116, 101, 58, 32] := ⟨E_e01, Fc_e01, Fv_e01, V_e01, by simp [L1]; try decide, by decide⟩
  have ne_r_e01 := N_e01 _ M_r.2.2
  have ne_it_e01 := N_e01 _ M_it.2.2
  have ne_aa0_e01 := N_e01 _ M_aa0.2.2
  have ne_b0_1_e01 := N_e01 _ M_b0_1.2.2
  have lt15_0 := nlt P.lt
  have lt15_1 := nlt P.ltb
  have lt15_2 := nlt M_r.2.1
  have lt15_3 := nlt M_it.2.1
  have lt15_4 := nlt M_aa0.2.1
  have lt15_5 := nlt M_b0_1.2.1
  have lt15_6 := nlt G_e01.lt
  have lt15_7 := nlt G_e01.ltb
  have KtS15 := Kt.1
  refine s_virt (pc' := 60) W (C0 := "java/lang/StringBuilder") (w78 hw) (w79 hw) (w81 hw) (w80 hw) (w59 hw) (w82 hw) (notFace_of_selects (args := a0) (w81 hw)) (by decide) pd32 [(.ref e01)] rfl Sb.1 (c_sbappendG l hw W.old CS0 Sb G_e01 (bl rfl) (Ne.symm ne_aa0_e01.1) (Ne.symm ne_aa0_e01.2) nab M_aa0.1 M_b0_1.1) (allS ⟨M_aa0.2.1, M_aa0.2.2⟩ (allS ⟨M_b0_1.2.1, M_b0_1.2.2⟩ all0)) rfl d_prog_2_method_4_57 1 (le rfl) (bl rfl) (bl rfl) (bl rfl) (bl rfl) rfl ?_
  rintro _ T vm h W C16 ⟨rfl, K16, b0_2, k_b0_2, Sb, hg_b0_2, M_b0_2, nab⟩
  replace Kt := Kt.trans K16 (allS (P := fun x => _ ∨ _) (Or.inr fs_aa0) (allS (P := fun x => _ ∨ _) (Or.inr fs_b0_1) all0))
  replace P := P.keep K16 (ninS ne_pf_aa0 (ninS ne_pf_b0_1 nin0)) (ninS ne_pc_aa0 (ninS ne_pc_b0_1 nin0))
  replace M_r := M_r.mv C16
  replace R_ := R_.keep K16 (ninS ne_r_aa0 (ninS ne_r_b0_1 nin0))
  replace M_it := M_it.mv C16
  replace I := I.keep K16 (ninS ne_it_aa0 (ninS ne_it_b0_1 nin0))
  replace M_aa0 := M_aa0.mv C16
  replace M_b0_1 := M_b0_1.mv C16
  replace G_e01 := G_e01.keep K16 (ninS (Ne.symm ne_aa0_e01.1) (ninS (Ne.symm ne_b0_1_e01.1) nin0)) (ninS (Ne.symm ne_aa0_e01.2) (ninS (Ne.symm ne_b0_1_e01.2) nin0))
  have ne_pf_b0_2 : @Ne Nat pf b0_2 := by rcases hg_b0_2 with q | q; rw [q]; exact ne_pf_b0_1; omega
  have ne_pc_b0_2 : @Ne Nat pc b0_2 := by rcases hg_b0_2 with q | q; rw [q]; exact ne_pc_b0_1; omega
  have ne_r_b0_2 : @Ne Nat r b0_2 := by rcases hg_b0_2 with q | q; rw [q]; exact ne_r_b0_1; omega
  have ne_it_b0_2 : @Ne Nat it b0_2 := by rcases hg_b0_2 with q | q; rw [q]; exact ne_it_b0_1; omega
  have fs_b0_2 := hg_b0_2.elim (fun q => by rw [q]; exact fs_b0_1) (fun q => Nat.le_trans KtS15 q)
  have Sb : SBd Z _ aa0 b0_2 k_b0_2 34 [(116 : Int32), (105 : Int32), (101 : Int32), (98 : Int32), (114 : Int32), (101 : Int32), (97 : Int32), (107 : Int32), (32 : Int32), x, (32 : Int32), (100 : Int32), (117 : Int32), (112 : Int32), (108 : Int32), (105 : Int32), (99 : Int32), (97 : Int32), (116 : Int32), (101 : Int32), (58 : Int32), (32 : Int32)] := Sb
  refine s_aload (pc' := 62) W d_prog_2_method_4_60 rfl rfl rfl ?_
  refine s_virt (pc' := 65) W (C0 := "com/example/tiebreak/tiebreak/core/DuplicateRegistration") (w294 hw) (w295 hw) (w297 hw) (w296 hw) (w221 hw) (w298 hw) (notFace_of_selects (args := a0) (w297 hw)) (by decide) pd33 [] rfl (E0.keep Kt) (c_dr_filterClass l hw W.old (F0c.keep Kt nin0)) all0 rfl d_prog_2_method_4_62 2 (le rfl) (bl rfl) (bl rfl) (bl rfl) (bl rfl) rfl ?_
  rintro _ T vm _ W C17 ⟨rfl, rfl⟩
  replace M_r := M_r.mv C17
  replace M_it := M_it.mv C17
  replace M_aa0 := M_aa0.mv C17
  replace M_b0_2 := M_b0_2.mv C17
  have Gq := G0c.keep Kt nin0 nin0
  have nq_s0c : @Ne Nat s0c aa0 := by have := nlt G0c.lt; have := nlt G0c.ltb; omega
  have nq_u0c : @Ne Nat u0c aa0 := by have := nlt G0c.lt; have := nlt G0c.ltb; omega
  have lt18_0 := nlt P.lt
  have lt18_1 := nlt P.ltb
  have lt18_2 := nlt M_r.2.1
  have lt18_3 := nlt M_it.2.1
  have lt18_4 := nlt M_aa0.2.1
  have lt18_5 := nlt M_b0_2.2.1
  have KtS18 := Kt.1
  refine s_virt (pc' := 68) W (C0 := "java/lang/StringBuilder") (w78 hw) (w79 hw) (w81 hw) (w80 hw) (w59 hw) (w82 hw) (notFace_of_selects (args := a0) (w81 hw)) (by decide) pd32 [(.ref s0c)] rfl Sb.1 (c_sbappendG l hw W.old CS0 Sb Gq (bl rfl) nq_s0c nq_u0c nab M_aa0.1 M_b0_2.1) (allS ⟨M_aa0.2.1, M_aa0.2.2⟩ (allS ⟨M_b0_2.2.1, M_b0_2.2.2⟩ all0)) rfl d_prog_2_method_4_65 1 (le rfl) (bl rfl) (bl rfl) (bl rfl) (bl rfl) rfl ?_
  rintro _ T vm h W C19 ⟨rfl, K19, b0_3, k_b0_3, Sb, hg_b0_3, M_b0_3, nab⟩
  replace Kt := Kt.trans K19 (allS (P := fun x => _ ∨ _) (Or.inr fs_aa0) (allS (P := fun x => _ ∨ _) (Or.inr fs_b0_2) all0))
  replace P := P.keep K19 (ninS ne_pf_aa0 (ninS ne_pf_b0_2 nin0)) (ninS ne_pc_aa0 (ninS ne_pc_b0_2 nin0))
  replace M_r := M_r.mv C19
  replace R_ := R_.keep K19 (ninS ne_r_aa0 (ninS ne_r_b0_2 nin0))
  replace M_it := M_it.mv C19
  replace I := I.keep K19 (ninS ne_it_aa0 (ninS ne_it_b0_2 nin0))
  replace M_aa0 := M_aa0.mv C19
  replace M_b0_2 := M_b0_2.mv C19
  have ne_pf_b0_3 : @Ne Nat pf b0_3 := by rcases hg_b0_3 with q | q; rw [q]; exact ne_pf_b0_2; omega
  have ne_pc_b0_3 : @Ne Nat pc b0_3 := by rcases hg_b0_3 with q | q; rw [q]; exact ne_pc_b0_2; omega
  have ne_r_b0_3 : @Ne Nat r b0_3 := by rcases hg_b0_3 with q | q; rw [q]; exact ne_r_b0_2; omega
  have ne_it_b0_3 : @Ne Nat it b0_3 := by rcases hg_b0_3 with q | q; rw [q]; exact ne_it_b0_2; omega
  have fs_b0_3 := hg_b0_3.elim (fun q => by rw [q]; exact fs_b0_2) (fun q => Nat.le_trans KtS18 q)
  have Sb : SBd Z _ aa0 b0_3 k_b0_3 34 [(116 : Int32), (105 : Int32), (101 : Int32), (98 : Int32), (114 : Int32), (101 : Int32), (97 : Int32), (107 : Int32), (32 : Int32), x, (32 : Int32), (100 : Int32), (117 : Int32), (112 : Int32), (108 : Int32), (105 : Int32), (99 : Int32), (97 : Int32), (116 : Int32), (101 : Int32), (58 : Int32), (32 : Int32), c0] := Sb
  refine s_ldcS (pc' := 70) W 60 (w299 hw) (wS hw) (by decide +kernel) (vs := [.int (32), .int (114), .int (101), .int (103), .int (105), .int (115), .int (116), .int (101), .int (114), .int (101), .int (100), .int (32), .int (97), .int (115), .int (32)]) (z := 15) (by decide +kernel) (by decide) (by decide) d_prog_2_method_4_68 (by decide +kernel) (by decide) (bl rfl) (bl rfl) rfl ?_
  intro e02 b_e02 k_e02 T vm h W K20 C20 E_e02 Fc_e02 Fv_e02 V_e02 N_e02
  replace Kt := Kt.trans K20 all0
  replace P := P.keep K20 nin0 nin0
  replace M_r := M_r.mv C20
  replace R_ := R_.keep K20 nin0
  replace M_it := M_it.mv C20
  replace I := I.keep K20 nin0
  replace M_aa0 := M_aa0.mv C20
  replace Sb := Sb.keep K20 nin0 nin0
  replace M_b0_3 := M_b0_3.mv C20
  have G_e02 : LatB Z _ e02 b_e02 k_e02 [32, 114, 101, 103, 105, 115, 116, 101, 114, 101, 100, 32, 97, 115, 32] := ⟨E_e02, Fc_e02, Fv_e02, V_e02, by simp [L1]; try decide, by decide⟩
  have ne_r_e02 := N_e02 _ M_r.2.2
  have ne_it_e02 := N_e02 _ M_it.2.2
  have ne_aa0_e02 := N_e02 _ M_aa0.2.2
  have ne_b0_3_e02 := N_e02 _ M_b0_3.2.2
  have lt21_0 := nlt P.lt
  have lt21_1 := nlt P.ltb
  have lt21_2 := nlt M_r.2.1
  have lt21_3 := nlt M_it.2.1
  have lt21_4 := nlt M_aa0.2.1
  have lt21_5 := nlt M_b0_3.2.1
  have lt21_6 := nlt G_e02.lt
  have lt21_7 := nlt G_e02.ltb
  have KtS21 := Kt.1
  refine s_virt (pc' := 73) W (C0 := "java/lang/StringBuilder") (w78 hw) (w79 hw) (w81 hw) (w80 hw) (w59 hw) (w82 hw) (notFace_of_selects (args := a0) (w81 hw)) (by decide) pd32 [(.ref e02)] rfl Sb.1 (c_sbappendG l hw W.old CS0 Sb G_e02 (bl rfl) (Ne.symm ne_aa0_e02.1) (Ne.symm ne_aa0_e02.2) nab M_aa0.1 M_b0_3.1) (allS ⟨M_aa0.2.1, M_aa0.2.2⟩ (allS ⟨M_b0_3.2.1, M_b0_3.2.2⟩ all0)) rfl d_prog_2_method_4_70 1 (le rfl) (bl rfl) (bl rfl) (bl rfl) (bl rfl) rfl ?_
  rintro _ T vm h W C22 ⟨rfl, K22, b0_4, k_b0_4, Sb, hg_b0_4, M_b0_4, nab⟩
  replace Kt := Kt.trans K22 (allS (P := fun x => _ ∨ _) (Or.inr fs_aa0) (allS (P := fun x => _ ∨ _) (Or.inr fs_b0_3) all0))
  replace P := P.keep K22 (ninS ne_pf_aa0 (ninS ne_pf_b0_3 nin0)) (ninS ne_pc_aa0 (ninS ne_pc_b0_3 nin0))
  replace M_r := M_r.mv C22
  replace R_ := R_.keep K22 (ninS ne_r_aa0 (ninS ne_r_b0_3 nin0))
  replace M_it := M_it.mv C22
  replace I := I.keep K22 (ninS ne_it_aa0 (ninS ne_it_b0_3 nin0))
  replace M_aa0 := M_aa0.mv C22
  replace M_b0_3 := M_b0_3.mv C22
  replace G_e02 := G_e02.keep K22 (ninS (Ne.symm ne_aa0_e02.1) (ninS (Ne.symm ne_b0_3_e02.1) nin0)) (ninS (Ne.symm ne_aa0_e02.2) (ninS (Ne.symm ne_b0_3_e02.2) nin0))
  have ne_pf_b0_4 : @Ne Nat pf b0_4 := by rcases hg_b0_4 with q | q; rw [q]; exact ne_pf_b0_3; omega
  have ne_pc_b0_4 : @Ne Nat pc b0_4 := by rcases hg_b0_4 with q | q; rw [q]; exact ne_pc_b0_3; omega
  have ne_r_b0_4 : @Ne Nat r b0_4 := by rcases hg_b0_4 with q | q; rw [q]; exact ne_r_b0_3; omega
  have ne_it_b0_4 : @Ne Nat it b0_4 := by rcases hg_b0_4 with q | q; rw [q]; exact ne_it_b0_3; omega
  have fs_b0_4 := hg_b0_4.elim (fun q => by rw [q]; exact fs_b0_3) (fun q => Nat.le_trans KtS21 q)
  have Sb : SBd Z _ aa0 b0_4 k_b0_4 70 [(116 : Int32), (105 : Int32), (101 : Int32), (98 : Int32), (114 : Int32), (101 : Int32), (97 : Int32), (107 : Int32), (32 : Int32), x, (32 : Int32), (100 : Int32), (117 : Int32), (112 : Int32), (108 : Int32), (105 : Int32), (99 : Int32), (97 : Int32), (116 : Int32), (101 : Int32), (58 : Int32), (32 : Int32), c0, (32 : Int32), (114 : Int32), (101 : Int32), (103 : Int32), (105 : Int32), (115 : Int32), (116 : Int32), (101 : Int32), (114 : Int32), (101 : Int32), (100 : Int32), (32 : Int32), (97 : Int32), (115 : Int32), (32 : Int32)] := Sb
  refine s_aload (pc' := 75) W d_prog_2_method_4_73 rfl rfl rfl ?_
  refine s_virt (pc' := 78) W (C0 := "com/example/tiebreak/tiebreak/core/DuplicateRegistration") (w300 hw) (w301 hw) (w303 hw) (w302 hw) (w221 hw) (w304 hw) (notFace_of_selects (args := a0) (w303 hw)) (by decide) pd33 [] rfl (E0.keep Kt) (c_dr_kept l hw W.old (F0k.keep Kt nin0)) all0 rfl d_prog_2_method_4_75 2 (le rfl) (bl rfl) (bl rfl) (bl rfl) (bl rfl) rfl ?_
  rintro _ T vm _ W C23 ⟨rfl, rfl⟩
  replace M_r := M_r.mv C23
  replace M_it := M_it.mv C23
  replace M_aa0 := M_aa0.mv C23
  replace M_b0_4 := M_b0_4.mv C23
  have Gq := G0k.keep Kt nin0 nin0
  have nq_s0k : @Ne Nat s0k aa0 := by have := nlt G0k.lt; have := nlt G0k.ltb; omega
  have nq_u0k : @Ne Nat u0k aa0 := by have := nlt G0k.lt; have := nlt G0k.ltb; omega
  have lt24_0 := nlt P.lt
  have lt24_1 := nlt P.ltb
  have lt24_2 := nlt M_r.2.1
  have lt24_3 := nlt M_it.2.1
  have lt24_4 := nlt M_aa0.2.1
  have lt24_5 := nlt M_b0_4.2.1
  have KtS24 := Kt.1
  refine s_virt (pc' := 81) W (C0 := "java/lang/StringBuilder") (w78 hw) (w79 hw) (w81 hw) (w80 hw) (w59 hw) (w82 hw) (notFace_of_selects (args := a0) (w81 hw)) (by decide) pd32 [(.ref s0k)] rfl Sb.1 (c_sbappendG l hw W.old CS0 Sb Gq (bl rfl) nq_s0k nq_u0k nab M_aa0.1 M_b0_4.1) (allS ⟨M_aa0.2.1, M_aa0.2.2⟩ (allS ⟨M_b0_4.2.1, M_b0_4.2.2⟩ all0)) rfl d_prog_2_method_4_78 1 (le rfl) (bl rfl) (bl rfl) (bl rfl) (bl rfl) rfl ?_
  rintro _ T vm h W C25 ⟨rfl, K25, b0_5, k_b0_5, Sb, hg_b0_5, M_b0_5, nab⟩
  replace Kt := Kt.trans K25 (allS (P := fun x => _ ∨ _) (Or.inr fs_aa0) (allS (P := fun x => _ ∨ _) (Or.inr fs_b0_4) all0))
  replace P := P.keep K25 (ninS ne_pf_aa0 (ninS ne_pf_b0_4 nin0)) (ninS ne_pc_aa0 (ninS ne_pc_b0_4 nin0))
  replace M_r := M_r.mv C25
  replace R_ := R_.keep K25 (ninS ne_r_aa0 (ninS ne_r_b0_4 nin0))
  replace M_it := M_it.mv C25
  replace I := I.keep K25 (ninS ne_it_aa0 (ninS ne_it_b0_4 nin0))
  replace M_aa0 := M_aa0.mv C25
  replace M_b0_4 := M_b0_4.mv C25
  have ne_pf_b0_5 : @Ne Nat pf b0_5 := by rcases hg_b0_5 with q | q; rw [q]; exact ne_pf_b0_4; omega
  have ne_pc_b0_5 : @Ne Nat pc b0_5 := by rcases hg_b0_5 with q | q; rw [q]; exact ne_pc_b0_4; omega
  have ne_r_b0_5 : @Ne Nat r b0_5 := by rcases hg_b0_5 with q | q; rw [q]; exact ne_r_b0_4; omega
  have ne_it_b0_5 : @Ne Nat it b0_5 := by rcases hg_b0_5 with q | q; rw [q]; exact ne_it_b0_4; omega
  have fs_b0_5 := hg_b0_5.elim (fun q => by rw [q]; exact fs_b0_4) (fun q => Nat.le_trans KtS24 q)
  have Sb : SBd Z _ aa0 b0_5 k_b0_5 70 [(116 : Int32), (105 : Int32), (101 : Int32), (98 : Int32), (114 : Int32), (101 : Int32), (97 : Int32), (107 : Int32), (32 : Int32), x, (32 : Int32), (100 : Int32), (117 : Int32), (112 : Int32), (108 : Int32), (105 : Int32), (99 : Int32), (97 : Int32), (116 : Int32), (101 : Int32), (58 : Int32), (32 : Int32), c0, (32 : Int32), (114 : Int32), (101 : Int32), (103 : Int32), (105 : Int32), (115 : Int32), (116 : Int32), (101 : Int32), (114 : Int32), (101 : Int32), (100 : Int32), (32 : Int32), (97 : Int32), (115 : Int32), (32 : Int32), k0] := Sb
  refine s_ldcS (pc' := 83) W 20 (w305 hw) (wS hw) (by decide +kernel) (vs := [.int (32), .int (97), .int (110), .int (100), .int (32)]) (z := 5) (by decide +kernel) (by decide) (by decide) d_prog_2_method_4_81 (by decide +kernel) (by decide) (bl rfl) (bl rfl) rfl ?_
  intro e03 b_e03 k_e03 T vm h W K26 C26 E_e03 Fc_e03 Fv_e03 V_e03 N_e03
  replace Kt := Kt.trans K26 all0
  replace P := P.keep K26 nin0 nin0
  replace M_r := M_r.mv C26
  replace R_ := R_.keep K26 nin0
  replace M_it := M_it.mv C26
  replace I := I.keep K26 nin0
  replace M_aa0 := M_aa0.mv C26
  replace Sb := Sb.keep K26 nin0 nin0
  replace M_b0_5 := M_b0_5.mv C26
  have G_e03 : LatB Z _ e03 b_e03 k_e03 [32, 97, 110, 100, 32] := ⟨E_e03, Fc_e03, Fv_e03, V_e03, by simp [L1]; try decide, by decide⟩
  have ne_r_e03 := N_e03 _ M_r.2.2
  have ne_it_e03 := N_e03 _ M_it.2.2
  have ne_aa0_e03 := N_e03 _ M_aa0.2.2
  have ne_b0_5_e03 := N_e03 _ M_b0_5.2.2
  have lt27_0 := nlt P.lt
  have lt27_1 := nlt P.ltb
  have lt27_2 := nlt M_r.2.1
  have lt27_3 := nlt M_it.2.1
  have lt27_4 := nlt M_aa0.2.1
  have lt27_5 := nlt M_b0_5.2.1
  have lt27_6 := nlt G_e03.lt
  have lt27_7 := nlt G_e03.ltb
  have KtS27 := Kt.1
  refine s_virt (pc' := 86) W (C0 := "java/lang/StringBuilder") (w78 hw) (w79 hw) (w81 hw) (w80 hw) (w59 hw) (w82 hw) (notFace_of_selects (args := a0) (w81 hw)) (by decide) pd32 [(.ref e03)] rfl Sb.1 (c_sbappendG l hw W.old CS0 Sb G_e03 (bl rfl) (Ne.symm ne_aa0_e03.1) (Ne.symm ne_aa0_e03.2) nab M_aa0.1 M_b0_5.1) (allS ⟨M_aa0.2.1, M_aa0.2.2⟩ (allS ⟨M_b0_5.2.1, M_b0_5.2.2⟩ all0)) rfl d_prog_2_method_4_83 1 (le rfl) (bl rfl) (bl rfl) (bl rfl) (bl rfl) rfl ?_
  rintro _ T vm h W C28 ⟨rfl, K28, b0_6, k_b0_6, Sb, hg_b0_6, M_b0_6, nab⟩
  replace Kt := Kt.trans K28 (allS (P := fun x => _ ∨ _) (Or.inr fs_aa0) (allS (P := fun x => _ ∨ _) (Or.inr fs_b0_5) all0))
  replace P := P.keep K28 (ninS ne_pf_aa0 (ninS ne_pf_b0_5 nin0)) (ninS ne_pc_aa0 (ninS ne_pc_b0_5 nin0))
  replace M_r := M_r.mv C28
  replace R_ := R_.keep K28 (ninS ne_r_aa0 (ninS ne_r_b0_5 nin0))
  replace M_it := M_it.mv C28
  replace I := I.keep K28 (ninS ne_it_aa0 (ninS ne_it_b0_5 nin0))
  replace M_aa0 := M_aa0.mv C28
  replace M_b0_5 := M_b0_5.mv C28
  replace G_e03 := G_e03.keep K28 (ninS (Ne.symm ne_aa0_e03.1) (ninS (Ne.symm ne_b0_5_e03.1) nin0)) (ninS (Ne.symm ne_aa0_e03.2) (ninS (Ne.symm ne_b0_5_e03.2) nin0))
  have ne_pf_b0_6 : @Ne Nat pf b0_6 := by rcases hg_b0_6 with q | q; rw [q]; exact ne_pf_b0_5; omega
  have ne_pc_b0_6 : @Ne Nat pc b0_6 := by rcases hg_b0_6 with q | q; rw [q]; exact ne_pc_b0_5; omega
  have ne_r_b0_6 : @Ne Nat r b0_6 := by rcases hg_b0_6 with q | q; rw [q]; exact ne_r_b0_5; omega
  have ne_it_b0_6 : @Ne Nat it b0_6 := by rcases hg_b0_6 with q | q; rw [q]; exact ne_it_b0_5; omega
  have fs_b0_6 := hg_b0_6.elim (fun q => by rw [q]; exact fs_b0_5) (fun q => Nat.le_trans KtS27 q)
  have Sb : SBd Z _ aa0 b0_6 k_b0_6 70 [(116 : Int32), (105 : Int32), (101 : Int32), (98 : Int32), (114 : Int32), (101 : Int32), (97 : Int32), (107 : Int32), (32 : Int32), x, (32 : Int32), (100 : Int32), (117 : Int32), (112 : Int32), (108 : Int32), (105 : Int32), (99 : Int32), (97 : Int32), (116 : Int32), (101 : Int32), (58 : Int32), (32 : Int32), c0, (32 : Int32), (114 : Int32), (101 : Int32), (103 : Int32), (105 : Int32), (115 : Int32), (116 : Int32), (101 : Int32), (114 : Int32), (101 : Int32), (100 : Int32), (32 : Int32), (97 : Int32), (115 : Int32), (32 : Int32), k0, (32 : Int32), (97 : Int32), (110 : Int32), (100 : Int32), (32 : Int32)] := Sb
  refine s_aload (pc' := 88) W d_prog_2_method_4_86 rfl rfl rfl ?_
  refine s_virt (pc' := 91) W (C0 := "com/example/tiebreak/tiebreak/core/DuplicateRegistration") (w306 hw) (w307 hw) (w309 hw) (w308 hw) (w221 hw) (w310 hw) (notFace_of_selects (args := a0) (w309 hw)) (by decide) pd33 [] rfl (E0.keep Kt) (c_dr_dropped l hw W.old (F0d.keep Kt nin0)) all0 rfl d_prog_2_method_4_88 2 (le rfl) (bl rfl) (bl rfl) (bl rfl) (bl rfl) rfl ?_
  rintro _ T vm _ W C29 ⟨rfl, rfl⟩
  replace M_r := M_r.mv C29
  replace M_it := M_it.mv C29
  replace M_aa0 := M_aa0.mv C29
  replace M_b0_6 := M_b0_6.mv C29
  have Gq := G0d.keep Kt nin0 nin0
  have nq_s0d : @Ne Nat s0d aa0 := by have := nlt G0d.lt; have := nlt G0d.ltb; omega
  have nq_u0d : @Ne Nat u0d aa0 := by have := nlt G0d.lt; have := nlt G0d.ltb; omega
  have lt30_0 := nlt P.lt
  have lt30_1 := nlt P.ltb
  have lt30_2 := nlt M_r.2.1
  have lt30_3 := nlt M_it.2.1
  have lt30_4 := nlt M_aa0.2.1
  have lt30_5 := nlt M_b0_6.2.1
  have KtS30 := Kt.1
  refine s_virt (pc' := 94) W (C0 := "java/lang/StringBuilder") (w78 hw) (w79 hw) (w81 hw) (w80 hw) (w59 hw) (w82 hw) (notFace_of_selects (args := a0) (w81 hw)) (by decide) pd32 [(.ref s0d)] rfl Sb.1 (c_sbappendG l hw W.old CS0 Sb Gq (bl rfl) nq_s0d nq_u0d nab M_aa0.1 M_b0_6.1) (allS ⟨M_aa0.2.1, M_aa0.2.2⟩ (allS ⟨M_b0_6.2.1, M_b0_6.2.2⟩ all0)) rfl d_prog_2_method_4_91 1 (le rfl) (bl rfl) (bl rfl) (bl rfl) (bl rfl) rfl ?_
  rintro _ T vm h W C31 ⟨rfl, K31, b0_7, k_b0_7, Sb, hg_b0_7, M_b0_7, nab⟩
  replace Kt := Kt.trans K31 (allS (P := fun x => _ ∨ _) (Or.inr fs_aa0) (allS (P := fun x => _ ∨ _) (Or.inr fs_b0_6) all0))
  replace P := P.keep K31 (ninS ne_pf_aa0 (ninS ne_pf_b0_6 nin0)) (ninS ne_pc_aa0 (ninS ne_pc_b0_6 nin0))
  replace M_r := M_r.mv C31
  replace R_ := R_.keep K31 (ninS ne_r_aa0 (ninS ne_r_b0_6 nin0))
  replace M_it := M_it.mv C31
  replace I := I.keep K31 (ninS ne_it_aa0 (ninS ne_it_b0_6 nin0))
  replace M_aa0 := M_aa0.mv C31
  replace M_b0_6 := M_b0_6.mv C31
  have ne_pf_b0_7 : @Ne Nat pf b0_7 := by rcases hg_b0_7 with q | q; rw [q]; exact ne_pf_b0_6; omega
  have ne_pc_b0_7 : @Ne Nat pc b0_7 := by rcases hg_b0_7 with q | q; rw [q]; exact ne_pc_b0_6; omega
  have ne_r_b0_7 : @Ne Nat r b0_7 := by rcases hg_b0_7 with q | q; rw [q]; exact ne_r_b0_6; omega
  have ne_it_b0_7 : @Ne Nat it b0_7 := by rcases hg_b0_7 with q | q; rw [q]; exact ne_it_b0_6; omega
  have fs_b0_7 := hg_b0_7.elim (fun q => by rw [q]; exact fs_b0_6) (fun q => Nat.le_trans KtS30 q)
  have Sb : SBd Z _ aa0 b0_7 k_b0_7 70 [(116 : Int32), (105 : Int32), (101 : Int32), (98 : Int32), (114 : Int32), (101 : Int32), (97 : Int32), (107 : Int32), (32 : Int32), x, (32 : Int32), (100 : Int32), (117 : Int32), (112 : Int32), (108 : Int32), (105 : Int32), (99 : Int32), (97 : Int32), (116 : Int32), (101 : Int32), (58 : Int32), (32 : Int32), c0, (32 : Int32), (114 : Int32), (101 : Int32), (103 : Int32), (105 : Int32), (115 : Int32), (116 : Int32), (101 : Int32), (114 : Int32), (101 : Int32), (100 : Int32), (32 : Int32), (97 : Int32), (115 : Int32), (32 : Int32), k0, (32 : Int32), (97 : Int32), (110 : Int32), (100 : Int32), (32 : Int32), d0] := Sb
  refine s_ldcS (pc' := 96) W 28 (w311 hw) (wS hw) (by decide +kernel) (vs := [.int (59), .int (32), .int (107), .int (101), .int (112), .int (116), .int (32)]) (z := 7) (by decide +kernel) (by decide) (by decide) d_prog_2_method_4_94 (by decide +kernel) (by decide) (bl rfl) (bl rfl) rfl ?_
  intro e04 b_e04 k_e04 T vm h W K32 C32 E_e04 Fc_e04 Fv_e04 V_e04 N_e04
  replace Kt := Kt.trans K32 all0
  replace P := P.keep K32 nin0 nin0
  replace M_r := M_r.mv C32
  replace R_ := R_.keep K32 nin0
  replace M_it := M_it.mv C32
  replace I := I.keep K32 nin0
  replace M_aa0 := M_aa0.mv C32
  replace Sb := Sb.keep K32 nin0 nin0
  replace M_b0_7 := M_b0_7.mv C32
  have G_e04 : LatB Z _ e04 b_e04 k_e04 [59, 32, 107, 101, 112, 116, 32] := ⟨E_e04, Fc_e04, Fv_e04, V_e04, by simp [L1]; try decide, by decide⟩
  have ne_r_e04 := N_e04 _ M_r.2.2
  have ne_it_e04 := N_e04 _ M_it.2.2
  have ne_aa0_e04 := N_e04 _ M_aa0.2.2
  have ne_b0_7_e04 := N_e04 _ M_b0_7.2.2
  have lt33_0 := nlt P.lt
  have lt33_1 := nlt P.ltb
  have lt33_2 := nlt M_r.2.1
  have lt33_3 := nlt M_it.2.1
  have lt33_4 := nlt M_aa0.2.1
  have lt33_5 := nlt M_b0_7.2.1
  have lt33_6 := nlt G_e04.lt
  have lt33_7 := nlt G_e04.ltb
  have KtS33 := Kt.1
  refine s_virt (pc' := 99) W (C0 := "java/lang/StringBuilder") (w78 hw) (w79 hw) (w81 hw) (w80 hw) (w59 hw) (w82 hw) (notFace_of_selects (args := a0) (w81 hw)) (by decide) pd32 [(.ref e04)] rfl Sb.1 (c_sbappendG l hw W.old CS0 Sb G_e04 (bl rfl) (Ne.symm ne_aa0_e04.1) (Ne.symm ne_aa0_e04.2) nab M_aa0.1 M_b0_7.1) (allS ⟨M_aa0.2.1, M_aa0.2.2⟩ (allS ⟨M_b0_7.2.1, M_b0_7.2.2⟩ all0)) rfl d_prog_2_method_4_96 1 (le rfl) (bl rfl) (bl rfl) (bl rfl) (bl rfl) rfl ?_
  rintro _ T vm h W C34 ⟨rfl, K34, b0_8, k_b0_8, Sb, hg_b0_8, M_b0_8, nab⟩
  replace Kt := Kt.trans K34 (allS (P := fun x => _ ∨ _) (Or.inr fs_aa0) (allS (P := fun x => _ ∨ _) (Or.inr fs_b0_7) all0))
  replace P := P.keep K34 (ninS ne_pf_aa0 (ninS ne_pf_b0_7 nin0)) (ninS ne_pc_aa0 (ninS ne_pc_b0_7 nin0))
  replace M_r := M_r.mv C34
  replace R_ := R_.keep K34 (ninS ne_r_aa0 (ninS ne_r_b0_7 nin0))
  replace M_it := M_it.mv C34
  replace I := I.keep K34 (ninS ne_it_aa0 (ninS ne_it_b0_7 nin0))
  replace M_aa0 := M_aa0.mv C34
  replace M_b0_7 := M_b0_7.mv C34
  replace G_e04 := G_e04.keep K34 (ninS (Ne.symm ne_aa0_e04.1) (ninS (Ne.symm ne_b0_7_e04.1) nin0)) (ninS (Ne.symm ne_aa0_e04.2) (ninS (Ne.symm ne_b0_7_e04.2) nin0))
  have ne_pf_b0_8 : @Ne Nat pf b0_8 := by rcases hg_b0_8 with q | q; rw [q]; exact ne_pf_b0_7; omega
  have ne_pc_b0_8 : @Ne Nat pc b0_8 := by rcases hg_b0_8 with q | q; rw [q]; exact ne_pc_b0_7; omega
  have ne_r_b0_8 : @Ne Nat r b0_8 := by rcases hg_b0_8 with q | q; rw [q]; exact ne_r_b0_7; omega
  have ne_it_b0_8 : @Ne Nat it b0_8 := by rcases hg_b0_8 with q | q; rw [q]; exact ne_it_b0_7; omega
  have fs_b0_8 := hg_b0_8.elim (fun q => by rw [q]; exact fs_b0_7) (fun q => Nat.le_trans KtS33 q)
  have Sb : SBd Z _ aa0 b0_8 k_b0_8 70 [(116 : Int32), (105 : Int32), (101 : Int32), (98 : Int32), (114 : Int32), (101 : Int32), (97 : Int32), (107 : Int32), (32 : Int32), x, (32 : Int32), (100 : Int32), (117 : Int32), (112 : Int32), (108 : Int32), (105 : Int32), (99 : Int32), (97 : Int32), (116 : Int32), (101 : Int32), (58 : Int32), (32 : Int32), c0, (32 : Int32), (114 : Int32), (101 : Int32), (103 : Int32), (105 : Int32), (115 : Int32), (116 : Int32), (101 : Int32), (114 : Int32), (101 : Int32), (100 : Int32), (32 : Int32), (97 : Int32), (115 : Int32), (32 : Int32), k0, (32 : Int32), (97 : Int32), (110 : Int32), (100 : Int32), (32 : Int32), d0, (59 : Int32), (32 : Int32), (107 : Int32), (101 : Int32), (112 : Int32), (116 : Int32), (32 : Int32)] := Sb
  refine s_aload (pc' := 101) W d_prog_2_method_4_99 rfl rfl rfl ?_
  refine s_virt (pc' := 104) W (C0 := "com/example/tiebreak/tiebreak/core/DuplicateRegistration") (w300 hw) (w301 hw) (w303 hw) (w302 hw) (w221 hw) (w304 hw) (notFace_of_selects (args := a0) (w303 hw)) (by decide) pd33 [] rfl (E0.keep Kt) (c_dr_kept l hw W.old (F0k.keep Kt nin0)) all0 rfl d_prog_2_method_4_101 2 (le rfl) (bl rfl) (bl rfl) (bl rfl) (bl rfl) rfl ?_
  rintro _ T vm _ W C35 ⟨rfl, rfl⟩
  replace M_r := M_r.mv C35
  replace M_it := M_it.mv C35
  replace M_aa0 := M_aa0.mv C35
  replace M_b0_8 := M_b0_8.mv C35
  have Gq := G0k.keep Kt nin0 nin0
  have nq_s0k : @Ne Nat s0k aa0 := by have := nlt G0k.lt; have := nlt G0k.ltb; omega
  have nq_u0k : @Ne Nat u0k aa0 := by have := nlt G0k.lt; have := nlt G0k.ltb; omega
  have lt36_0 := nlt P.lt
  have lt36_1 := nlt P.ltb
  have lt36_2 := nlt M_r.2.1
  have lt36_3 := nlt M_it.2.1
  have lt36_4 := nlt M_aa0.2.1
  have lt36_5 := nlt M_b0_8.2.1
  have KtS36 := Kt.1
  refine s_virt (pc' := 107) W (C0 := "java/lang/StringBuilder") (w78 hw) (w79 hw) (w81 hw) (w80 hw) (w59 hw) (w82 hw) (notFace_of_selects (args := a0) (w81 hw)) (by decide) pd32 [(.ref s0k)] rfl Sb.1 (c_sbappendG l hw W.old CS0 Sb Gq (bl rfl) nq_s0k nq_u0k nab M_aa0.1 M_b0_8.1) (allS ⟨M_aa0.2.1, M_aa0.2.2⟩ (allS ⟨M_b0_8.2.1, M_b0_8.2.2⟩ all0)) rfl d_prog_2_method_4_104 1 (le rfl) (bl rfl) (bl rfl) (bl rfl) (bl rfl) rfl ?_
  rintro _ T vm h W C37 ⟨rfl, K37, b0_9, k_b0_9, Sb, hg_b0_9, M_b0_9, nab⟩
  replace Kt := Kt.trans K37 (allS (P := fun x => _ ∨ _) (Or.inr fs_aa0) (allS (P := fun x => _ ∨ _) (Or.inr fs_b0_8) all0))
  replace P := P.keep K37 (ninS ne_pf_aa0 (ninS ne_pf_b0_8 nin0)) (ninS ne_pc_aa0 (ninS ne_pc_b0_8 nin0))
  replace M_r := M_r.mv C37
  replace R_ := R_.keep K37 (ninS ne_r_aa0 (ninS ne_r_b0_8 nin0))
  replace M_it := M_it.mv C37
  replace I := I.keep K37 (ninS ne_it_aa0 (ninS ne_it_b0_8 nin0))
  replace M_aa0 := M_aa0.mv C37
  replace M_b0_8 := M_b0_8.mv C37
  have ne_pf_b0_9 : @Ne Nat pf b0_9 := by rcases hg_b0_9 with q | q; rw [q]; exact ne_pf_b0_8; omega
  have ne_pc_b0_9 : @Ne Nat pc b0_9 := by rcases hg_b0_9 with q | q; rw [q]; exact ne_pc_b0_8; omega
  have ne_r_b0_9 : @Ne Nat r b0_9 := by rcases hg_b0_9 with q | q; rw [q]; exact ne_r_b0_8; omega
  have ne_it_b0_9 : @Ne Nat it b0_9 := by rcases hg_b0_9 with q | q; rw [q]; exact ne_it_b0_8; omega
  have fs_b0_9 := hg_b0_9.elim (fun q => by rw [q]; exact fs_b0_8) (fun q => Nat.le_trans KtS36 q)
  have Sb : SBd Z _ aa0 b0_9 k_b0_9 70 [(116 : Int32), (105 : Int32), (101 : Int32), (98 : Int32), (114 : Int32), (101 : Int32), (97 : Int32), (107 : Int32), (32 : Int32), x, (32 : Int32), (100 : Int32), (117 : Int32), (112 : Int32), (108 : Int32), (105 : Int32), (99 : Int32), (97 : Int32), (116 : Int32), (101 : Int32), (58 : Int32), (32 : Int32), c0, (32 : Int32), (114 : Int32), (101 : Int32), (103 : Int32), (105 : Int32), (115 : Int32), (116 : Int32), (101 : Int32), (114 : Int32), (101 : Int32), (100 : Int32), (32 : Int32), (97 : Int32), (115 : Int32), (32 : Int32), k0, (32 : Int32), (97 : Int32), (110 : Int32), (100 : Int32), (32 : Int32), d0, (59 : Int32), (32 : Int32), (107 : Int32), (101 : Int32), (112 : Int32), (116 : Int32), (32 : Int32), k0] := Sb
  have lt38_0 := nlt P.lt
  have lt38_1 := nlt P.ltb
  have lt38_2 := nlt M_r.2.1
  have lt38_3 := nlt M_it.2.1
  have lt38_4 := nlt M_aa0.2.1
  have lt38_5 := nlt Sb.ltb
  have KtS38 := Kt.1
  refine s_virt (pc' := 110) W (C0 := "java/lang/StringBuilder") (w125 hw) (w126 hw) (w128 hw) (w127 hw) (w59 hw) (w129 hw) (notFace_of_selects (args := a0) (w128 hw)) (by decide) pd33 [] rfl Sb.1 (c_sbtostring l hw W.old CS0 Sb (bt rfl)) all0 rfl d_prog_2_method_4_107 1 (le rfl) (bl rfl) (bl rfl) (bl rfl) (bl rfl) rfl ?_
  rintro _ T vm h W C39 ⟨t0, c_t0, k_t0, rfl, K39, L_t0, ht_t0, hc_t0⟩
  replace Kt := Kt.trans K39 all0
  replace P := P.keep K39 nin0 nin0
  replace M_r := M_r.mv C39
  replace R_ := R_.keep K39 nin0
  replace M_it := M_it.mv C39
  replace I := I.keep K39 nin0
  replace M_aa0 := M_aa0.mv C39
  replace Sb := Sb.keep K39 nin0 nin0
  replace M_b0_9 := M_b0_9.mv C39
  have ne_pf_t0 : @Ne Nat pf t0 := by omega
  have ne_pc_t0 : @Ne Nat pc t0 := by omega
  have ne_r_t0 : @Ne Nat r t0 := by omega
  have ne_it_t0 : @Ne Nat it t0 := by omega
  have ne_aa0_t0 : @Ne Nat aa0 t0 := by omega
  have ne_b0_9_t0 : @Ne Nat b0_9 t0 := by omega
  have fs_t0 := Nat.le_trans KtS38 ht_t0
  have ne_pf_c_t0 : @Ne Nat pf c_t0 := by omega
  have ne_pc_c_t0 : @Ne Nat pc c_t0 := by omega
  have ne_r_c_t0 : @Ne Nat r c_t0 := by omega
  have ne_it_c_t0 : @Ne Nat it c_t0 := by omega
  have ne_aa0_c_t0 : @Ne Nat aa0 c_t0 := by omega
  have ne_b0_9_c_t0 : @Ne Nat b0_9 c_t0 := by omega
  have fs_c_t0 := Nat.le_trans KtS38 hc_t0
  have lt40_0 := nlt P.lt
  have lt40_1 := nlt P.ltb
  have lt40_2 := nlt M_r.2.1
  have lt40_3 := nlt M_it.2.1
  have lt40_4 := nlt L_t0.lt
  have lt40_5 := nlt L_t0.ltb
  have KtS40 := Kt.1
  refine s_face (pc' := 115) W (C0 := "java/util/ArrayList") (w312 hw) (w233 hw) (w234 hw) (w235 hw) (w236 hw) (w237 hw) (w238 hw) (w179 hw) (w28 hw) (w239 hw) (by decide) pd37 [(.ref t0)] rfl R_.1 (c_addES l hw W.old D L_t0.1 R_ M_r.1) (allS ⟨M_r.2.1, M_r.2.2⟩ all0) rfl d_prog_2_method_4_110 0 (le rfl) (bl rfl) (bl rfl) (bl rfl) (bl rfl) rfl ?_
  rintro _ T vm h W C41 ⟨rfl, K41, rd, krd, RF, hrd, M_rd⟩
  replace Kt := Kt.trans K41 (allS (P := fun x => _ ∨ _) (Or.inr fs_r) all0)
  replace P := P.keep K41 (ninS ne_pf_r nin0) (ninS ne_pc_r nin0)
  replace M_r := M_r.mv C41
  replace M_it := M_it.mv C41
  replace I := I.keep K41 (ninS (Ne.symm ne_r_it) nin0)
  replace L_t0 := L_t0.keep K41 (ninS (Ne.symm ne_r_t0) nin0) (ninS (Ne.symm ne_r_c_t0) nin0)
  have ne_pf_rd : @Ne Nat pf rd := by omega
  have ne_pc_rd : @Ne Nat pc rd := by omega
  have ne_r_rd : @Ne Nat r rd := by omega
  have ne_it_rd : @Ne Nat it rd := by omega
  have ne_t0_rd : @Ne Nat t0 rd := by omega
  have ne_c_t0_rd : @Ne Nat c_t0 rd := by omega
  have fs_rd := Nat.le_trans KtS40 hrd
  refine s_pop (pc' := 116) W d_prog_2_method_4_115 rfl rfl ?_
  refine s_goto (pc' := 21) W d_prog_2_method_4_116 (by decide) rfl ?_
  refine s_aload (pc' := 23) W d_prog_2_method_4_21 rfl rfl rfl ?_
  have FL := F.keep Kt nin0 nin0
  refine s_face (pc' := 28) W (C0 := "java/util/ArrayList$Itr") (w197 hw) (w198 hw) (w199 hw) (w200 hw) (w201 hw) (w202 hw) (w203 hw) (w204 hw) (w183 hw) (w205 hw) (by decide) pd21 [] rfl I.1 (c_hasnext l hw W.old I FL.2.2.1) all0 rfl d_prog_2_method_4_23 0 (le rfl) (bl rfl) (bl rfl) (bl rfl) (bl rfl) rfl ?_
  rintro _ T vm _ W C42 ⟨rfl, rfl⟩
  replace M_r := M_r.mv C42
  replace M_it := M_it.mv C42
  replace M_rd := M_rd.mv C42
  rw [show (if (1 : Int32) = (1 : Int32) then (0 : Int32) else 1) = 0 from by decide]
  refine s_ifeq (pc' := 31) (pcT := 119) W d_prog_2_method_4_28 (by decide) rfl rfl (fun _ => ?_) (fun hq => absurd (by decide) hq)
  refine s_aload_n (pc' := 120) W d_prog_2_method_4_119 rfl rfl rfl ?_
  refine s_areturn W rfl rfl rfl d_prog_2_method_4_120 (bl rfl) (bl rfl) ?_
  intro vm' C'
  exact ⟨r, rd, krd, t0, c_t0, k_t0, rfl, Kt, RF, L_t0⟩
set_option maxRecDepth 65536 in
set_option maxHeartbeats 40000000 in
theorem ef_dup2 (m : MethodId) (x0 : Addr) (x1 : Addr) : entryFrame m #[(.ref x0), (.ref x1)] 6 = mkF m 0 #[.val (.ref x0), .val (.ref x1), .unset, .unset, .unset, .unset] [] := by first | (simp [entryFrame, mkF, argsToLocals, Value.category]; done) | rfl
set_option maxRecDepth 65536 in
set_option maxHeartbeats 40000000 in
theorem c_dup2 (l : Launch) {Z : State} {a0 : Array Value} (hw : Hw Z a0) {n0 : Nat} {h : Heap} (O : Old Z n0 h) (CS0 : CS Z) {de : Nat} {kde : ClassId} (D : DE Z de kde) {sa sb : Nat} {ks : ClassId} {x : Int32} (G : LatB Z h sa sb ks [x]) {li d : Nat} {kd : ClassId} {o0 : Nat} (E0 : Exa Z h o0 "com/example/tiebreak/tiebreak/core/DuplicateRegistration") {s0c u0c : Nat} {m0c : ClassId} {c0 : Int32} (F0c : Fld Z h o0 "com/example/tiebreak/tiebreak/core/DuplicateRegistration" "filterClass" "Ljava/lang/String;" (.ref s0c)) (G0c : LatB Z h s0c u0c m0c [c0]) {s0k u0k : Nat} {m0k : ClassId} {k0 : Int32} (F0k : Fld Z h o0 "com/example/tiebreak/tiebreak/core/DuplicateRegistration" "kept" "Ljava/lang/String;" (.ref s0k)) (G0k : LatB Z h s0k u0k m0k [k0]) {s0d u0d : Nat} {m0d : ClassId} {d0 : Int32} (F0d : Fld Z h o0 "com/example/tiebreak/tiebreak/core/DuplicateRegistration" "dropped" "Ljava/lang/String;" (.ref s0d)) (G0d : LatB Z h s0d u0d m0d [d0]) {o1 : Nat} (E1 : Exa Z h o1 "com/example/tiebreak/tiebreak/core/DuplicateRegistration") {s1c u1c : Nat} {m1c : ClassId} {c1 : Int32} (F1c : Fld Z h o1 "com/example/tiebreak/tiebreak/core/DuplicateRegistration" "filterClass" "Ljava/lang/String;" (.ref s1c)) (G1c : LatB Z h s1c u1c m1c [c1]) {s1k u1k : Nat} {m1k : ClassId} {k1 : Int32} (F1k : Fld Z h o1 "com/example/tiebreak/tiebreak/core/DuplicateRegistration" "kept" "Ljava/lang/String;" (.ref s1k)) (G1k : LatB Z h s1k u1k m1k [k1]) {s1d u1d : Nat} {m1d : ClassId} {d1 : Int32} (F1d : Fld Z h o1 "com/example/tiebreak/tiebreak/core/DuplicateRegistration" "dropped" "Ljava/lang/String;" (.ref s1d)) (G1d : LatB Z h s1d u1d m1d [d1]) (F : ALF Z h li d kd 2 [.ref o0, .ref o1, .null, .null, .null, .null, .null, .null, .null, .null]) :
    Con l Z EL1 n0 (⟨"com/example/tiebreak/tiebreak/core/ChainReport", "duplicateLines", "(Ljava/lang/String;Ljava/util/List;)Ljava/util/List;"⟩ : MethodName) prog_2_method_4_code 6 (some (.object "java/util/List")) [] ({ frames := 7, cells := 53, slots := 1669, locals := 103 } : Room) #[(.ref sa), (.ref li)] h [] (fun v vm' h' => ∃ r rd krd t0 ct0 kt0 t1 ct1 kt1, v = some (.ref r) ∧ Keep h h' [] ∧ ALF Z h' r rd krd 2 [.ref t0, .ref t1, .null, .null, .null, .null, .null, .null, .null, .null] ∧ LatB Z h' t0 ct0 kt0 [(116 : Int32), (105 : Int32), (101 : Int32), (98 : Int32), (114 : Int32), (101 : Int32), (97 : Int32), (107 : Int32), (32 : Int32), x, (32 : Int32), (100 : Int32), (117 : Int32), (112 : Int32), (108 : Int32), (105 : Int32), (99 : Int32), (97 : Int32), (116 : Int32), (101 : Int32), (58 : Int32), (32 : Int32), c0, (32 : Int32), (114 : Int32), (101 : Int32), (103 : Int32), (105 : Int32), (115 : Int32), (116 : Int32), (101 : Int32), (114 : Int32), (101 : Int32), (100 : Int32), (32 : Int32), (97 : Int32), (115 : Int32), (32 : Int32), k0, (32 : Int32), (97 : Int32), (110 : Int32), (100 : Int32), (32 : Int32), d0, (59 : Int32), (32 : Int32), (107 : Int32), (101 : Int32), (112 : Int32), (116 : Int32), (32 : Int32), k0] ∧ LatB Z h' t1 ct1 kt1 [(116 : Int32), (105 : Int32), (101 : Int32), (98 : Int32), (114 : Int32), (101 : Int32), (97 : Int32), (107 : Int32), (32 : Int32), x, (32 : Int32), (100 : Int32), (117 : Int32), (112 : Int32), (108 : Int32), (105 : Int32), (99 : Int32), (97 : Int32), (116 : Int32), (101 : Int32), (58 : Int32), (32 : Int32), c1, (32 : Int32), (114 : Int32), (101 : Int32), (103 : Int32), (105 : Int32), (115 : Int32), (116 : Int32), (101 : Int32), (114 : Int32), (101 : Int32), (100 : Int32), (32 : Int32), (97 : Int32), (115 : Int32), (32 : Int32), k1, (32 : Int32), (97 : Int32), (110 : Int32), (100 : Int32), (32 : Int32), d1, (59 : Int32), (32 : Int32), (107 : Int32), (101 : Int32), (112 : Int32), (116 : Int32), (32 : Int32), k1]) := by
  refine Con.of pn58 O (el hw) ?_
  intro pg_ e s m below meth cd_ T W hs_ hSf
  rw [ef_dup2]
  have Kt := Keep.refl h []
  have W0 := W.old
  have KtS1 := Kt.1
  refine s_aload_n (pc' := 1) W d_prog_2_method_4_0 rfl rfl rfl ?_
  refine s_static (pc' := 4) W (w54 hw) (w55 hw) (w52 hw) (w56 hw) (by decide) pd34 [(.ref sa)] rfl (c_prefix l hw W.old CS0 G) all0 rfl d_prog_2_method_4_1 0 (le rfl) (bl rfl) (bl rfl) (bl rfl) (bl rfl) rfl ?_
  rintro _ T vm h W C2 ⟨pf, pc, kp, rfl, K2, P, hp1, hp2⟩
  replace Kt := Kt.trans K2 all0
  have fs_pf := Nat.le_trans KtS1 hp1
  have fs_pc := Nat.le_trans KtS1 hp2
  refine s_astore_n (pc' := 5) W #[rv sa, rv li, rv pf, .unset, .unset, .unset] d_prog_2_method_4_4 rfl rfl rfl ?_
  refine s_new (pc' := 8) W (w170 hw) (w27 hw) (w28 hw) d_prog_2_method_4_5 (bl rfl) (bl rfl) rfl ?_
  intro r T h g_r
  have fs_r := Nat.le_trans Kt.1 (Nat.le_of_eq g_r.symm)
  have ne_pf_r : @Ne Nat pf r := by have := nlt P.lt; omega
  have ne_pc_r : @Ne Nat pc r := by have := nlt P.ltb; omega
  intro W K3 C3 M_r E_r D_r U_r
  replace Kt := Kt.trans K3 all0
  replace P := P.keep K3 nin0 nin0
  have F_elementData_r : Fld Z _ r "java/util/ArrayList" "elementData" "[Ljava/lang/Object;" .null := D_r (Or.inl (w49 hw)) (ty := (.array (.object "java/lang/Object"))) (by decide)
  have F_size_r : Fld Z _ r "java/util/ArrayList" "size" "I" (.int 0) := D_r (Or.inl (w209 hw)) (ty := .int) (by decide)
  have F_modCount_r : Fld Z _ r "java/util/AbstractList" "modCount" "I" (.int 0) := D_r (Or.inl (w46 hw)) (ty := .int) (by decide)
  refine s_dup (pc' := 9) W d_prog_2_method_4_8 rfl rfl ?_
  refine s_init (pc' := 12) W rfl (w171 hw) (w30 hw) (w28 hw) (w31 hw) (by decide) pd24 [] rfl (c_alinit l hw W.old D E_r M_r.1 M_r.2.1 F_modCount_r F_elementData_r F_size_r) (allS ⟨M_r.2.1, M_r.2.2⟩ all0) rfl d_prog_2_method_4_9 1 (le rfl) (bl rfl) (bl rfl) (bl rfl) (bl rfl) rfl ?_
  rintro _ T vm h W C4 ⟨rfl, K4, R_⟩
  replace Kt := Kt.trans K4 (allS (P := fun x => _ ∨ _) (Or.inr fs_r) all0)
  replace P := P.keep K4 (ninS ne_pf_r nin0) (ninS ne_pc_r nin0)
  replace E_r := E_r.keep K4
  replace M_r := M_r.mv C4
  refine s_astore_n (pc' := 13) W #[rv sa, rv li, rv pf, rv r, .unset, .unset] d_prog_2_method_4_12 rfl rfl rfl ?_
  refine s_aload_n (pc' := 14) W d_prog_2_method_4_13 rfl rfl rfl ?_
  have FL := F.keep Kt nin0 nin0
  have lt5_0 := nlt P.lt
  have lt5_1 := nlt P.ltb
  have lt5_2 := nlt M_r.2.1
  have KtS5 := Kt.1
  refine s_face (pc' := 19) W (C0 := "java/util/ArrayList") (w172 hw) (w173 hw) (w174 hw) (w175 hw) (w176 hw) (w177 hw) (w178 hw) (w179 hw) (w28 hw) (w180 hw) (by decide) pd35 [] rfl FL.1 (c_iterator l hw W.old FL.2.2.2.1) all0 rfl d_prog_2_method_4_14 0 (le rfl) (bl rfl) (bl rfl) (bl rfl) (bl rfl) rfl ?_
  rintro _ T vm h W C6 ⟨it, rfl, K6, I, hit, M_it⟩
  replace Kt := Kt.trans K6 all0
  replace P := P.keep K6 nin0 nin0
  replace M_r := M_r.mv C6
  replace R_ := R_.keep K6 nin0
  have ne_pf_it : @Ne Nat pf it := by omega
  have ne_pc_it : @Ne Nat pc it := by omega
  have ne_r_it : @Ne Nat r it := by omega
  have fs_it := Nat.le_trans KtS5 hit
  refine s_astore (pc' := 21) W #[rv sa, rv li, rv pf, rv r, rv it, .unset] d_prog_2_method_4_19 rfl rfl rfl ?_
  refine s_aload (pc' := 23) W d_prog_2_method_4_21 rfl rfl rfl ?_
  have FL := F.keep Kt nin0 nin0
  refine s_face (pc' := 28) W (C0 := "java/util/ArrayList$Itr") (w197 hw) (w198 hw) (w199 hw) (w200 hw) (w201 hw) (w202 hw) (w203 hw) (w204 hw) (w183 hw) (w205 hw) (by decide) pd21 [] rfl I.1 (c_hasnext l hw W.old I FL.2.2.1) all0 rfl d_prog_2_method_4_23 0 (le rfl) (bl rfl) (bl rfl) (bl rfl) (bl rfl) rfl ?_
  rintro _ T vm _ W C7 ⟨rfl, rfl⟩
  replace M_r := M_r.mv C7
  replace M_it := M_it.mv C7
  rw [show (if (0 : Int32) = (2 : Int32) then (0 : Int32) else 1) = 1 from by decide]
  refine s_ifeq (pc' := 31) (pcT := 119) W d_prog_2_method_4_28 (by decide) rfl rfl (fun hq => absurd hq (by decide)) (fun _ => ?_)
  refine s_aload (pc' := 33) W d_prog_2_method_4_31 rfl rfl rfl ?_
  have nd_it : @Ne Nat d it := by have := nlt F.ltb; omega
  refine s_face (pc' := 38) W (C0 := "java/util/ArrayList$Itr") (w262 hw) (w263 hw) (w264 hw) (w265 hw) (w266 hw) (w267 hw) (w268 hw) (w204 hw) (w183 hw) (w269 hw) (by decide) pd36 [] rfl I.1 (c_next l hw W.old I FL (by decide) (by decide) (by decide) rfl nd_it M_it.1) (allS ⟨M_it.2.1, M_it.2.2⟩ all0) rfl d_prog_2_method_4_33 0 (le rfl) (bl rfl) (bl rfl) (bl rfl) (bl rfl) rfl ?_
  rintro _ T vm h W C8 ⟨rfl, K8, I⟩
  replace Kt := Kt.trans K8 (allS (P := fun x => _ ∨ _) (Or.inr fs_it) all0)
  replace P := P.keep K8 (ninS ne_pf_it nin0) (ninS ne_pc_it nin0)
  replace M_r := M_r.mv C8
  replace R_ := R_.keep K8 (ninS ne_r_it nin0)
  replace M_it := M_it.mv C8
  have I : IT Z _ it li 1 2 := I
  refine s_cast (pc' := 41) W (w276 hw) (Ins.of_exa (E0.keep Kt) (w277 hw)) d_prog_2_method_4_38 rfl ?_
  intro T W
  refine s_astore (pc' := 43) W #[rv sa, rv li, rv pf, rv r, rv it, rv o0] d_prog_2_method_4_41 rfl rfl rfl ?_
  refine s_aload_n (pc' := 44) W d_prog_2_method_4_43 rfl rfl rfl ?_
  have lt9_0 := nlt P.lt
  have lt9_1 := nlt P.ltb
  have lt9_2 := nlt M_r.2.1
  have lt9_3 := nlt M_it.2.1
  refine s_new (pc' := 47) W (w57 hw) (w58 hw) (w59 hw) d_prog_2_method_4_44 (bl rfl) (bl rfl) rfl ?_
  intro aa0 T h g_aa0
  have fs_aa0 := Nat.le_trans Kt.1 (Nat.le_of_eq g_aa0.symm)
  have ne_pf_aa0 : @Ne Nat pf aa0 := by have := nlt P.lt; omega
  have ne_pc_aa0 : @Ne Nat pc aa0 := by have := nlt P.ltb; omega
  have ne_r_aa0 : @Ne Nat r aa0 := by have := nlt M_r.2.1; omega
  have ne_it_aa0 : @Ne Nat it aa0 := by have := nlt M_it.2.1; omega
  intro W K10 C10 M_aa0 E_aa0 D_aa0 U_aa0
  replace Kt := Kt.trans K10 all0
  replace P := P.keep K10 nin0 nin0
  replace M_r := M_r.mv C10
  replace R_ := R_.keep K10 nin0
  replace M_it := M_it.mv C10
  replace I := I.keep K10 nin0
  have F_coder_aa0 : Fld Z _ aa0 "java/lang/AbstractStringBuilder" "coder" "B" (.int 0) := D_aa0 (Or.inl (w74 hw)) (ty := .byte) (by decide)
  have F_value_aa0 : Fld Z _ aa0 "java/lang/AbstractStringBuilder" "value" "[B" .null := D_aa0 (Or.inl (w72 hw)) (ty := (.array .byte)) (by decide)
  have F_count_aa0 : Fld Z _ aa0 "java/lang/AbstractStringBuilder" "count" "I" (.int 0) := D_aa0 (Or.inl (w99 hw)) (ty := .int) (by decide)
  have la_aa0 := nlt M_aa0.2.1
  have Kt0 := Kt.1
  have hgr9 := K10.1
  refine s_dup (pc' := 48) W d_prog_2_method_4_47 rfl rfl ?_
  refine s_init (pc' := 51) W rfl (w60 hw) (w61 hw) (w59 hw) (w62 hw) (by decide) pd24 [] rfl (c_sbinit l hw W.old CS0 E_aa0 M_aa0.1 M_aa0.2.1 F_coder_aa0 F_value_aa0 F_count_aa0) (allS ⟨M_aa0.2.1, M_aa0.2.2⟩ all0) rfl d_prog_2_method_4_48 2 (le rfl) (bl rfl) (bl rfl) (bl rfl) (bl rfl) rfl ?_
  rintro _ T vm h W C11 ⟨rfl, K11, bb0, k_bb0, Sb, hb_, M_bb0⟩
  replace Kt := Kt.trans K11 (allS (P := fun x => _ ∨ _) (Or.inr fs_aa0) all0)
  replace P := P.keep K11 (ninS ne_pf_aa0 nin0) (ninS ne_pc_aa0 nin0)
  replace M_r := M_r.mv C11
  replace R_ := R_.keep K11 (ninS ne_r_aa0 nin0)
  replace M_it := M_it.mv C11
  replace I := I.keep K11 (ninS ne_it_aa0 nin0)
  replace E_aa0 := E_aa0.keep K11
  replace M_aa0 := M_aa0.mv C11
  have nab : @Ne Nat aa0 bb0 := by omega
  have fs_bb0 := Nat.le_trans Kt0 hb_
  have ne_pf_bb0 : @Ne Nat pf bb0 := by omega
  have ne_pc_bb0 : @Ne Nat pc bb0 := by omega
  have ne_r_bb0 : @Ne Nat r bb0 := by omega
  have ne_it_bb0 : @Ne Nat it bb0 := by omega
  refine s_aload_n (pc' := 52) W d_prog_2_method_4_51 rfl rfl rfl ?_
  have lt12_0 := nlt P.lt
  have lt12_1 := nlt P.ltb
  have lt12_2 := nlt M_r.2.1
  have lt12_3 := nlt M_it.2.1
  have lt12_4 := nlt M_aa0.2.1
  have lt12_5 := nlt M_bb0.2.1
  have KtS12 := Kt.1
  refine s_virt (pc' := 55) W (C0 := "java/lang/StringBuilder") (w78 hw) (w79 hw) (w81 hw) (w80 hw) (w59 hw) (w82 hw) (notFace_of_selects (args := a0) (w81 hw)) (by decide) pd32 [(.ref pf)] rfl Sb.1 (c_sbappendG l hw W.old CS0 Sb P (bl rfl) ne_pf_aa0 ne_pc_aa0 nab M_aa0.1 M_bb0.1) (allS ⟨M_aa0.2.1, M_aa0.2.2⟩ (allS ⟨M_bb0.2.1, M_bb0.2.2⟩ all0)) rfl d_prog_2_method_4_52 1 (le rfl) (bl rfl) (bl rfl) (bl rfl) (bl rfl) rfl ?_
  rintro _ T vm h W C13 ⟨rfl, K13, b0_1, k_b0_1, Sb, hg_b0_1, M_b0_1, nab⟩
  replace Kt := Kt.trans K13 (allS (P := fun x => _ ∨ _) (Or.inr fs_aa0) (allS (P := fun x => _ ∨ _) (Or.inr fs_bb0) all0))
  replace P := P.keep K13 (ninS ne_pf_aa0 (ninS ne_pf_bb0 nin0)) (ninS ne_pc_aa0 (ninS ne_pc_bb0 nin0))
  replace M_r := M_r.mv C13
  replace R_ := R_.keep K13 (ninS ne_r_aa0 (ninS ne_r_bb0 nin0))
  replace M_it := M_it.mv C13
  replace I := I.keep K13 (ninS ne_it_aa0 (ninS ne_it_bb0 nin0))
  replace M_aa0 := M_aa0.mv C13
  replace M_bb0 := M_bb0.mv C13
  have ne_pf_b0_1 : @Ne Nat pf b0_1 := by rcases hg_b0_1 with q | q; rw [q]; exact ne_pf_bb0; omega
  have ne_pc_b0_1 : @Ne Nat pc b0_1 := by rcases hg_b0_1 with q | q; rw [q]; exact ne_pc_bb0; omega
  have ne_r_b0_1 : @Ne Nat r b0_1 := by rcases hg_b0_1 with q | q; rw [q]; exact ne_r_bb0; omega
  have ne_it_b0_1 : @Ne Nat it b0_1 := by rcases hg_b0_1 with q | q; rw [q]; exact ne_it_bb0; omega
  have fs_b0_1 := hg_b0_1.elim (fun q => by rw [q]; exact fs_bb0) (fun q => Nat.le_trans KtS12 q)
  have Sb : SBd Z _ aa0 b0_1 k_b0_1 16 [(116 : Int32), (105 : Int32), (101 : Int32), (98 : Int32), (114 : Int32), (101 : Int32), (97 : Int32), (107 : Int32), (32 : Int32), x] := Sb
  refine s_ldcS (pc' := 57) W 48 (w278 hw) (wS hw) (by decide +kernel) (vs := [.int (32), .int (100), .int (117), .int (112), .int (108), .int (105), .int (99), .int (97), .int (116), .int (101), .int (58), .int (32)]) (z := 12) (by decide +kernel) (by decide) (by decide) d_prog_2_method_4_55 (by decide +kernel) (by decide) (bl rfl) (bl rfl) rfl ?_
  intro e01 b_e01 k_e01 T vm h W K14 C14 E_e01 Fc_e01 Fv_e01 V_e01 N_e01
  replace Kt := Kt.trans K14 all0
  replace P := P.keep K14 nin0 nin0
  replace M_r := M_r.mv C14
  replace R_ := R_.keep K14 nin0
  replace M_it := M_it.mv C14
  replace I := I.keep K14 nin0
  replace M_aa0 := M_aa0.mv C14
  replace Sb := Sb.keep K14 nin0 nin0
  replace M_b0_1 := M_b0_1.mv C14
  have G_e01 : LatB Z _ e01 b_e01 k_e01 [32, 100, 117, 112, 108, 105, 99, 97, 116, 101, 58, 32] := ⟨E_e01, Fc_e01, Fv_e01, V_e01, by simp [L1]; try decide, by decide⟩
  have ne_r_e01 := N_e01 _ M_r.2.2
  have ne_it_e01 := N_e01 _ M_it.2.2
  have ne_aa0_e01 := N_e01 _ M_aa0.2.2
  have ne_b0_1_e01 := N_e01 _ M_b0_1.2.2
  have lt15_0 := nlt P.lt
  have lt15_1 := nlt P.ltb
  have lt15_2 := nlt M_r.2.1
  have lt15_3 := nlt M_it.2.1
  have lt15_4 := nlt M_aa0.2.1
  have lt15_5 := nlt M_b0_1.2.1
  have lt15_6 := nlt G_e01.lt
  have lt15_7 := nlt G_e01.ltb
  have KtS15 := Kt.1
  refine s_virt (pc' := 60) W (C0 := "java/lang/StringBuilder") (w78 hw) (w79 hw) (w81 hw) (w80 hw) (w59 hw) (w82 hw) (notFace_of_selects (args := a0) (w81 hw)) (by decide) pd32 [(.ref e01)] rfl Sb.1 (c_sbappendG l hw W.old CS0 Sb G_e01 (bl rfl) (Ne.symm ne_aa0_e01.1) (Ne.symm ne_aa0_e01.2) nab M_aa0.1 M_b0_1.1) (allS ⟨M_aa0.2.1, M_aa0.2.2⟩ (allS ⟨M_b0_1.2.1, M_b0_1.2.2⟩ all0)) rfl d_prog_2_method_4_57 1 (le rfl) (bl rfl) (bl rfl) (bl rfl) (bl rfl) rfl ?_
  rintro _ T vm h W C16 ⟨rfl, K16, b0_2, k_b0_2, Sb, hg_b0_2, M_b0_2, nab⟩
  replace Kt := Kt.trans K16 (allS (P := fun x => _ ∨ _) (Or.inr fs_aa0) (allS (P := fun x => _ ∨ _) (Or.inr fs_b0_1) all0))
  replace P := P.keep K16 (ninS ne_pf_aa0 (ninS ne_pf_b0_1 nin0)) (ninS ne_pc_aa0 (ninS ne_pc_b0_1 nin0))
  replace M_r := M_r.mv C16
  replace R_ := R_.keep K16 (ninS ne_r_aa0 (ninS ne_r_b0_1 nin0))
  replace M_it := M_it.mv C16
  replace I := I.keep K16 (ninS ne_it_aa0 (ninS ne_it_b0_1 nin0))
  replace M_aa0 := M_aa0.mv C16
  replace M_b0_1 := M_b0_1.mv C16
  replace G_e01 := G_e01.keep K16 (ninS (Ne.symm ne_aa0_e01.1) (ninS (Ne.symm ne_b0_1_e01.1) nin0)) (ninS (Ne.symm ne_aa0_e01.2) (ninS (Ne.symm ne_b0_1_e01.2) nin0))
  have ne_pf_b0_2 : @Ne Nat pf b0_2 := by rcases hg_b0_2 with q | q; rw [q]; exact ne_pf_b0_1; omega
  have ne_pc_b0_2 : @Ne Nat pc b0_2 := by rcases hg_b0_2 with q | q; rw [q]; exact ne_pc_b0_1; omega
  have ne_r_b0_2 : @Ne Nat r b0_2 := by rcases hg_b0_2 with q | q; rw [q]; exact ne_r_b0_1; omega
  have ne_it_b0_2 : @Ne Nat it b0_2 := by rcases hg_b0_2 with q | q; rw [q]; exact ne_it_b0_1; omega
  have fs_b0_2 := hg_b0_2.elim (fun q => by rw [q]; exact fs_b0_1) (fun q => Nat.le_trans KtS15 q)
  have Sb : SBd Z _ aa0 b0_2 k_b0_2 34 [(116 : Int32), (105 : Int32), (101 : Int32), (98 : Int32), (114 : Int32), (101 : Int32), (97 : Int32), (107 : Int32), (32 : Int32), x, (32 : Int32), (100 : Int32), (117 : Int32), (112 : Int32), (108 : Int32), (105 : Int32), (99 : Int32), (97 : Int32), (116 : Int32), (101 : Int32), (58 : Int32), (32 : Int32)] := Sb
  refine s_aload (pc' := 62) W d_prog_2_method_4_60 rfl rfl rfl ?_
  refine s_virt (pc' := 65) W (C0 := "com/example/tiebreak/tiebreak/core/DuplicateRegistration") (w294 hw) (w295 hw) (w297 hw) (w296 hw) (w221 hw) (w298 hw) (notFace_of_selects (args := a0) (w297 hw)) (by decide) pd33 [] rfl (E0.keep Kt) (c_dr_filterClass l hw W.old (F0c.keep Kt nin0)) all0 rfl d_prog_2_method_4_62 2 (le rfl) (bl rfl) (bl rfl) (bl rfl) (bl rfl) rfl ?_
  rintro _ T vm _ W C17 ⟨rfl, rfl⟩
  replace M_r := M_r.mv C17
  replace M_it := M_it.mv C17
  replace M_aa0 := M_aa0.mv C17
  replace M_b0_2 := M_b0_2.mv C17
  have Gq := G0c.keep Kt nin0 nin0
  have nq_s0c : @Ne Nat s0c aa0 := by have := nlt G0c.lt; have := nlt G0c.ltb; omega
  have nq_u0c : @Ne Nat u0c aa0 := by have := nlt G0c.lt; have := nlt G0c.ltb; omega
  have lt18_0 := nlt P.lt
  have lt18_1 := nlt P.ltb
  have lt18_2 := nlt M_r.2.1
  have lt18_3 := nlt M_it.2.1
  have lt18_4 := nlt M_aa0.2.1
  have lt18_5 := nlt M_b0_2.2.1
  have KtS18 := Kt.1
  refine s_virt (pc' := 68) W (C0 := "java/lang/StringBuilder") (w78 hw) (w79 hw) (w81 hw) (w80 hw) (w59 hw) (w82 hw) (notFace_of_selects (args := a0) (w81 hw)) (by decide) pd32 [(.ref s0c)] rfl Sb.1 (c_sbappendG l hw W.old CS0 Sb Gq (bl rfl) nq_s0c nq_u0c nab M_aa0.1 M_b0_2.1) (allS ⟨M_aa0.2.1, M_aa0.2.2⟩ (allS ⟨M_b0_2.2.1, M_b0_2.2.2⟩ all0)) rfl d_prog_2_method_4_65 1 (le rfl) (bl rfl) (bl rfl) (bl rfl) (bl rfl) rfl ?_
  rintro _ T vm h W C19 ⟨rfl, K19, b0_3, k_b0_3, Sb, hg_b0_3, M_b0_3, nab⟩
  replace Kt := Kt.trans K19 (allS (P := fun x => _ ∨ _) (Or.inr fs_aa0) (allS (P := fun x => _ ∨ _) (Or.inr fs_b0_2) all0))
  replace P := P.keep K19 (ninS ne_pf_aa0 (ninS ne_pf_b0_2 nin0)) (ninS ne_pc_aa0 (ninS ne_pc_b0_2 nin0))
  replace M_r := M_r.mv C19
  replace R_ := R_.keep K19 (ninS ne_r_aa0 (ninS ne_r_b0_2 nin0))
  replace M_it := M_it.mv C19
  replace I := I.keep K19 (ninS ne_it_aa0 (ninS ne_it_b0_2 nin0))
  replace M_aa0 := M_aa0.mv C19
  replace M_b0_2 := M_b0_2.mv C19
  have ne_pf_b0_3 : @Ne Nat pf b0_3 := by rcases hg_b0_3 with q | q; rw [q]; exact ne_pf_b0_2; omega
  have ne_pc_b0_3 : @Ne Nat pc b0_3 := by rcases hg_b0_3 with q | q; rw [q]; exact ne_pc_b0_2; omega
  have ne_r_b0_3 : @Ne Nat r b0_3 := by rcases hg_b0_3 with q | q; rw [q]; exact ne_r_b0_2; omega
  have ne_it_b0_3 : @Ne Nat it b0_3 := by rcases hg_b0_3 with q | q; rw [q]; exact ne_it_b0_2; omega
  have fs_b0_3 := hg_b0_3.elim (fun q => by rw [q]; exact fs_b0_2) (fun q => Nat.le_trans KtS18 q)
  have Sb : SBd Z _ aa0 b0_3 k_b0_3 34 [(116 : Int32), (105 : Int32), (101 : Int32), (98 : Int32), (114 : Int32), (101 : Int32), (97 : Int32), (107 : Int32), (32 : Int32), x, (32 : Int32), (100 : Int32), (117 : Int32), (112 : Int32), (108 : Int32), (105 : Int32), (99 : Int32), (97 : Int32), (116 : Int32), (101 : Int32), (58 : Int32), (32 : Int32), c0] := Sb
  refine s_ldcS (pc' := 70) W 60 (w299 hw) (wS hw) (by decide +kernel) (vs := [.int (32), .int (114), .int (101), .int (103), .int (105), .int (115), .int (116), .int (101), .int (114), .int (101), .int (100), .int (32), .int (97), .int (115), .int (32)]) (z := 15) (by decide +kernel) (by decide) (by decide) d_prog_2_method_4_68 (by decide +kernel) (by decide) (bl rfl) (bl rfl) rfl ?_
  intro e02 b_e02 k_e02 T vm h W K20 C20 E_e02 Fc_e02 Fv_e02 V_e02 N_e02
  replace Kt := Kt.trans K20 all0
  replace P := P.keep K20 nin0 nin0
  replace M_r := M_r.mv C20
  replace R_ := R_.keep K20 nin0
  replace M_it := M_it.mv C20
  replace I := I.keep K20 nin0
  replace M_aa0 := M_aa0.mv C20
  replace Sb := Sb.keep K20 nin0 nin0
  replace M_b0_3 := M_b0_3.mv C20
  have G_e02 : LatB Z _ e02 b_e02 k_e02 [32, 114, 101, 103, 105, 115, 116, 101, 114, 101, 100, 32, 97, 115, 32] := ⟨E_e02, Fc_e02, Fv_e02, V_e02, by simp [L1]; try decide, by decide⟩
  have ne_r_e02 := N_e02 _ M_r.2.2
  have ne_it_e02 := N_e02 _ M_it.2.2
  have ne_aa0_e02 := N_e02 _ M_aa0.2.2
  have ne_b0_3_e02 := N_e02 _ M_b0_3.2.2
  have lt21_0 := nlt P.lt
  have lt21_1 := nlt P.ltb
  have lt21_2 := nlt M_r.2.1
  have lt21_3 := nlt M_it.2.1
  have lt21_4 := nlt M_aa0.2.1
  have lt21_5 := nlt M_b0_3.2.1
  have lt21_6 := nlt G_e02.lt
  have lt21_7 := nlt G_e02.ltb
  have KtS21 := Kt.1
  refine s_virt (pc' := 73) W (C0 := "java/lang/StringBuilder") (w78 hw) (w79 hw) (w81 hw) (w80 hw) (w59 hw) (w82 hw) (notFace_of_selects (args := a0) (w81 hw)) (by decide) pd32 [(.ref e02)] rfl Sb.1 (c_sbappendG l hw W.old CS0 Sb G_e02 (bl rfl) (Ne.symm ne_aa0_e02.1) (Ne.symm ne_aa0_e02.2) nab M_aa0.1 M_b0_3.1) (allS ⟨M_aa0.2.1, M_aa0.2.2⟩ (allS ⟨M_b0_3.2.1, M_b0_3.2.2⟩ all0)) rfl d_prog_2_method_4_70 1 (le rfl) (bl rfl) (bl rfl) (bl rfl) (bl rfl) rfl ?_
  rintro _ T vm h W C22 ⟨rfl, K22, b0_4, k_b0_4, Sb, hg_b0_4, M_b0_4, nab⟩
  replace Kt := Kt.trans K22 (allS (P := fun x => _ ∨ _) (Or.inr fs_aa0) (allS (P := fun x => _ ∨ _) (Or.inr fs_b0_3) all0))
  replace P := P.keep K22 (ninS ne_pf_aa0 (ninS ne_pf_b0_3 nin0)) (ninS ne_pc_aa0 (ninS ne_pc_b0_3 nin0))
  replace M_r := M_r.mv C22
  replace R_ := R_.keep K22 (ninS ne_r_aa0 (ninS ne_r_b0_3 nin0))
  replace M_it := M_it.mv C22
  replace I := I.keep K22 (ninS ne_it_aa0 (ninS ne_it_b0_3 nin0))
  replace M_aa0 := M_aa0.mv C22
  replace M_b0_3 := M_b0_3.mv C22
  replace G_e02 := G_e02.keep K22 (ninS (Ne.symm ne_aa0_e02.1) (ninS (Ne.symm ne_b0_3_e02.1) nin0)) (ninS (Ne.symm ne_aa0_e02.2) (ninS (Ne.symm ne_b0_3_e02.2) nin0))
  have ne_pf_b0_4 : @Ne Nat pf b0_4 := by rcases hg_b0_4 with q | q; rw [q]; exact ne_pf_b0_3; omega
  have ne_pc_b0_4 : @Ne Nat pc b0_4 := by rcases hg_b0_4 with q | q; rw [q]; exact ne_pc_b0_3; omega
  have ne_r_b0_4 : @Ne Nat r b0_4 := by rcases hg_b0_4 with q | q; rw [q]; exact ne_r_b0_3; omega
  have ne_it_b0_4 : @Ne Nat it b0_4 := by rcases hg_b0_4 with q | q; rw [q]; exact ne_it_b0_3; omega
  have fs_b0_4 := hg_b0_4.elim (fun q => by rw [q]; exact fs_b0_3) (fun q => Nat.le_trans KtS21 q)
  have Sb : SBd Z _ aa0 b0_4 k_b0_4 70 [(116 : Int32), (105 : Int32), (101 : Int32), (98 : Int32), (114 : Int32), (101 : Int32), (97 : Int32), (107 : Int32), (32 : Int32), x, (32 : Int32), (100 : Int32), (117 : Int32), (112 : Int32), (108 : Int32), (105 : Int32), (99 : Int32), (97 : Int32), (116 : Int32), (101 : Int32), (58 : Int32), (32 : Int32), c0, (32 : Int32), (114 : Int32), (101 : Int32), (103 : Int32), (105 : Int32), (115 : Int32), (116 : Int32), (101 : Int32), (114 : Int32), (101 : Int32), (100 : Int32), (32 : Int32), (97 : Int32), (115 : Int32), (32 : Int32)] := Sb
  refine s_aload (pc' := 75) W d_prog_2_method_4_73 rfl rfl rfl ?_
  refine s_virt (pc' := 78) W (C0 := "com/example/tiebreak/tiebreak/core/DuplicateRegistration") (w300 hw) (w301 hw) (w303 hw) (w302 hw) (w221 hw) (w304 hw) (notFace_of_selects (args := a0) (w303 hw)) (by decide) pd33 [] rfl (E0.keep Kt) (c_dr_kept l hw W.old (F0k.keep Kt nin0)) all0 rfl d_prog_2_method_4_75 2 (le rfl) (bl rfl) (bl rfl) (bl rfl) (bl rfl) rfl ?_
  rintro _ T vm _ W C23 ⟨rfl, rfl⟩
  replace M_r := M_r.mv C23
  replace M_it := M_it.mv C23
  replace M_aa0 := M_aa0.mv C23
  replace M_b0_4 := M_b0_4.mv C23
  have Gq := G0k.keep Kt nin0 nin0
  have nq_s0k : @Ne Nat s0k aa0 := by have := nlt G0k.lt; have := nlt G0k.ltb; omega
  have nq_u0k : @Ne Nat u0k aa0 := by have := nlt G0k.lt; have := nlt G0k.ltb; omega
  have lt24_0 := nlt P.lt
  have lt24_1 := nlt P.ltb
  have lt24_2 := nlt M_r.2.1
  have lt24_3 := nlt M_it.2.1
  have lt24_4 := nlt M_aa0.2.1
  have lt24_5 := nlt M_b0_4.2.1
  have KtS24 := Kt.1
  refine s_virt (pc' := 81) W (C0 := "java/lang/StringBuilder") (w78 hw) (w79 hw) (w81 hw) (w80 hw) (w59 hw) (w82 hw) (notFace_of_selects (args := a0) (w81 hw)) (by decide) pd32 [(.ref s0k)] rfl Sb.1 (c_sbappendG l hw W.old CS0 Sb Gq (bl rfl) nq_s0k nq_u0k nab M_aa0.1 M_b0_4.1) (allS ⟨M_aa0.2.1, M_aa0.2.2⟩ (allS ⟨M_b0_4.2.1, M_b0_4.2.2⟩ all0)) rfl d_prog_2_method_4_78 1 (le rfl) (bl rfl) (bl rfl) (bl rfl) (bl rfl) rfl ?_
  rintro _ T vm h W C25 ⟨rfl, K25, b0_5, k_b0_5, Sb, hg_b0_5, M_b0_5, nab⟩
  replace Kt := Kt.trans K25 (allS (P := fun x => _ ∨ _) (Or.inr fs_aa0) (allS (P := fun x => _ ∨ _) (Or.inr fs_b0_4) all0))
  replace P := P.keep K25 (ninS ne_pf_aa0 (ninS ne_pf_b0_4 nin0)) (ninS ne_pc_aa0 (ninS ne_pc_b0_4 nin0))
  replace M_r := M_r.mv C25
  replace R_ := R_.keep K25 (ninS ne_r_aa0 (ninS ne_r_b0_4 nin0))
  replace M_it := M_it.mv C25
  replace I := I.keep K25 (ninS ne_it_aa0 (ninS ne_it_b0_4 nin0))
  replace M_aa0 := M_aa0.mv C25
  replace M_b0_4 := M_b0_4.mv C25
  have ne_pf_b0_5 : @Ne Nat pf b0_5 := by rcases hg_b0_5 with q | q; rw [q]; exact ne_pf_b0_4; omega
  have ne_pc_b0_5 : @Ne Nat pc b0_5 := by rcases hg_b0_5 with q | q; rw [q]; exact ne_pc_b0_4; omega
  have ne_r_b0_5 : @Ne Nat r b0_5 := by rcases hg_b0_5 with q | q; rw [q]; exact ne_r_b0_4; omega
  have ne_it_b0_5 : @Ne Nat it b0_5 := by rcases hg_b0_5 with q | q; rw [q]; exact ne_it_b0_4; omega
  have fs_b0_5 := hg_b0_5.elim (fun q => by rw [q]; exact fs_b0_4) (fun q => Nat.le_trans KtS24 q)
  have Sb : SBd Z _ aa0 b0_5 k_b0_5 70 [(116 : Int32), (105 : Int32), (101 : Int32), (98 : Int32), (114 : Int32), (101 : Int32), (97 : Int32), (107 : Int32), (32 : Int32), x, (32 : Int32), (100 : Int32), (117 : Int32), (112 : Int32), (108 : Int32), (105 : Int32), (99 : Int32), (97 : Int32), (116 : Int32), (101 : Int32), (58 : Int32), (32 : Int32), c0, (32 : Int32), (114 : Int32), (101 : Int32), (103 : Int32), (105 : Int32), (115 : Int32), (116 : Int32), (101 : Int32), (114 : Int32), (101 : Int32), (100 : Int32), (32 : Int32), (97 : Int32), (115 : Int32), (32 : Int32), k0] := Sb
  refine s_ldcS (pc' := 83) W 20 (w305 hw) (wS hw) (by decide +kernel) (vs := [.int (32), .int (97), .int (110), .int (100), .int (32)]) (z := 5) (by decide +kernel) (by decide) (by decide) d_prog_2_method_4_81 (by decide +kernel) (by decide) (bl rfl) (bl rfl) rfl ?_
  intro e03 b_e03 k_e03 T vm h W K26 C26 E_e03 Fc_e03 Fv_e03 V_e03 N_e03
  replace Kt := Kt.trans K26 all0
  replace P := P.keep K26 nin0 nin0
  replace M_r := M_r.mv C26
  replace R_ := R_.keep K26 nin0
  replace M_it := M_it.mv C26
  replace I := I.keep K26 nin0
  replace M_aa0 := M_aa0.mv C26
  replace Sb := Sb.keep K26 nin0 nin0
  replace M_b0_5 := M_b0_5.mv C26
  have G_e03 : LatB Z _ e03 b_e03 k_e03 [32, 97, 110, 100, 32] := ⟨E_e03, Fc_e03, Fv_e03, V_e03, by simp [L1]; try decide, by decide⟩
  have ne_r_e03 := N_e03 _ M_r.2.2
  have ne_it_e03 := N_e03 _ M_it.2.2
  have ne_aa0_e03 := N_e03 _ M_aa0.2.2
  have ne_b0_5_e03 := N_e03 _ M_b0_5.2.2
  have lt27_0 := nlt P.lt
  have lt27_1 := nlt P.ltb
  have lt27_2 := nlt M_r.2.1
  have lt27_3 := nlt M_it.2.1
  have lt27_4 := nlt M_aa0.2.1
  have lt27_5 := nlt M_b0_5.2.1
  have lt27_6 := nlt G_e03.lt
  have lt27_7 := nlt G_e03.ltb
  have KtS27 := Kt.1
  refine s_virt (pc' := 86) W (C0 := "java/lang/StringBuilder") (w78 hw) (w79 hw) (w81 hw) (w80 hw) (w59 hw) (w82 hw) (notFace_of_selects (args := a0) (w81 hw)) (by decide) pd32 [(.ref e03)] rfl Sb.1 (c_sbappendG l hw W.old CS0 Sb G_e03 (bl rfl) (Ne.symm ne_aa0_e03.1) (Ne.symm ne_aa0_e03.2) nab M_aa0.1 M_b0_5.1) (allS ⟨M_aa0.2.1, M_aa0.2.2⟩ (allS ⟨M_b0_5.2.1, M_b0_5.2.2⟩ all0)) rfl d_prog_2_method_4_83 1 (le rfl) (bl rfl) (bl rfl) (bl rfl) (bl rfl) rfl ?_
  rintro _ T vm h W C28 ⟨rfl, K28, b0_6, k_b0_6, Sb, hg_b0_6, M_b0_6, nab⟩
  replace Kt := Kt.trans K28 (allS (P := fun x => _ ∨ _) (Or.inr fs_aa0) (allS (P := fun x => _ ∨ _) (Or.inr fs_b0_5) all0))
  replace P := P.keep K28 (ninS ne_pf_aa0 (ninS ne_pf_b0_5 nin0)) (ninS ne_pc_aa0 (ninS ne_pc_b0_5 nin0))
  replace M_r := M_r.mv C28
  replace R_ := R_.keep K28 (ninS ne_r_aa0 (ninS ne_r_b0_5 nin0))
  replace M_it := M_it.mv C28
  replace I := I.keep K28 (ninS ne_it_aa0 (ninS ne_it_b0_5 nin0))
  replace M_aa0 := M_aa0.mv C28
  replace M_b0_5 := M_b0_5.mv C28
  replace G_e03 := G_e03.keep K28 (ninS (Ne.symm ne_aa0_e03.1) (ninS (Ne.symm ne_b0_5_e03.1) nin0)) (ninS (Ne.symm ne_aa0_e03.2) (ninS (Ne.symm ne_b0_5_e03.2) nin0))
  have ne_pf_b0_6 : @Ne Nat pf b0_6 := by rcases hg_b0_6 with q | q; rw [q]; exact ne_pf_b0_5; omega
  have ne_pc_b0_6 : @Ne Nat pc b0_6 := by rcases hg_b0_6 with q | q; rw [q]; exact ne_pc_b0_5; omega
  have ne_r_b0_6 : @Ne Nat r b0_6 := by rcases hg_b0_6 with q | q; rw [q]; exact ne_r_b0_5; omega
  have ne_it_b0_6 : @Ne Nat it b0_6 := by rcases hg_b0_6 with q | q; rw [q]; exact ne_it_b0_5; omega
  have fs_b0_6 := hg_b0_6.elim (fun q => by rw [q]; exact fs_b0_5) (fun q => Nat.le_trans KtS27 q)
  have Sb : SBd Z _ aa0 b0_6 k_b0_6 70 [(116 : Int32), (105 : Int32), (101 : Int32), (98 : Int32), (114 : Int32), (101 : Int32), (97 : Int32), (107 : Int32), (32 : Int32), x, (32 : Int32), (100 : Int32), (117 : Int32), (112 : Int32), (108 : Int32), (105 : Int32), (99 : Int32), (97 : Int32), (116 : Int32), (101 : Int32), (58 : Int32), (32 : Int32), c0, (32 : Int32), (114 : Int32), (101 : Int32), (103 : Int32), (105 : Int32), (115 : Int32), (116 : Int32), (101 : Int32), (114 : Int32), (101 : Int32), (100 : Int32), (32 : Int32), (97 : Int32), (115 : Int32), (32 : Int32), k0, (32 : Int32), (97 : Int32), (110 : Int32), (100 : Int32), (32 : Int32)] := Sb
  refine s_aload (pc' := 88) W d_prog_2_method_4_86 rfl rfl rfl ?_
  refine s_virt (pc' := 91) W (C0 := "com/example/tiebreak/tiebreak/core/DuplicateRegistration") (w306 hw) (w307 hw) (w309 hw) (w308 hw) (w221 hw) (w310 hw) (notFace_of_selects (args := a0) (w309 hw)) (by decide) pd33 [] rfl (E0.keep Kt) (c_dr_dropped l hw W.old (F0d.keep Kt nin0)) all0 rfl d_prog_2_method_4_88 2 (le rfl) (bl rfl) (bl rfl) (bl rfl) (bl rfl) rfl ?_
  rintro _ T vm _ W C29 ⟨rfl, rfl⟩
  replace M_r := M_r.mv C29
  replace M_it := M_it.mv C29
  replace M_aa0 := M_aa0.mv C29
  replace M_b0_6 := M_b0_6.mv C29
  have Gq := G0d.keep Kt nin0 nin0
  have nq_s0d : @Ne Nat s0d aa0 := by have := nlt G0d.lt; have := nlt G0d.ltb; omega
  have nq_u0d : @Ne Nat u0d aa0 := by have := nlt G0d.lt; have := nlt G0d.ltb; omega
  have lt30_0 := nlt P.lt
  have lt30_1 := nlt P.ltb
  have lt30_2 := nlt M_r.2.1
  have lt30_3 := nlt M_it.2.1
  have lt30_4 := nlt M_aa0.2.1
  have lt30_5 := nlt M_b0_6.2.1
  have KtS30 := Kt.1
  refine s_virt (pc' := 94) W (C0 := "java/lang/StringBuilder") (w78 hw) (w79 hw) (w81 hw) (w80 hw) (w59 hw) (w82 hw) (notFace_of_selects (args := a0) (w81 hw)) (by decide) pd32 [(.ref s0d)] rfl Sb.1 (c_sbappendG l hw W.old CS0 Sb Gq (bl rfl) nq_s0d nq_u0d nab M_aa0.1 M_b0_6.1) (allS ⟨M_aa0.2.1, M_aa0.2.2⟩ (allS ⟨M_b0_6.2.1, M_b0_6.2.2⟩ all0)) rfl d_prog_2_method_4_91 1 (le rfl) (bl rfl) (bl rfl) (bl rfl) (bl rfl) rfl ?_
  rintro _ T vm h W C31 ⟨rfl, K31, b0_7, k_b0_7, Sb, hg_b0_7, M_b0_7, nab⟩
  replace Kt := Kt.trans K31 (allS (P := fun x => _ ∨ _) (Or.inr fs_aa0) (allS (P := fun x => _ ∨ _) (Or.inr fs_b0_6) all0))
  replace P := P.keep K31 (ninS ne_pf_aa0 (ninS ne_pf_b0_6 nin0)) (ninS ne_pc_aa0 (ninS ne_pc_b0_6 nin0))
  replace M_r := M_r.mv C31
  replace R_ := R_.keep K31 (ninS ne_r_aa0 (ninS ne_r_b0_6 nin0))
  replace M_it := M_it.mv C31
  replace I := I.keep K31 (ninS ne_it_aa0 (ninS ne_it_b0_6 nin0))
  replace M_aa0 := M_aa0.mv C31
  replace M_b0_6 := M_b0_6.mv C31
  have ne_pf_b0_7 : @Ne Nat pf b0_7 := by rcases hg_b0_7 with q | q; rw [q]; exact ne_pf_b0_6; omega
  have ne_pc_b0_7 : @Ne Nat pc b0_7 := by rcases hg_b0_7 with q | q; rw [q]; exact ne_pc_b0_6; omega
  have ne_r_b0_7 : @Ne Nat r b0_7 := by rcases hg_b0_7 with q | q; rw [q]; exact ne_r_b0_6; omega
  have ne_it_b0_7 : @Ne Nat it b0_7 := by rcases hg_b0_7 with q | q; rw [q]; exact ne_it_b0_6; omega
  have fs_b0_7 := hg_b0_7.elim (fun q => by rw [q]; exact fs_b0_6) (fun q => Nat.le_trans KtS30 q)
  have Sb : SBd Z _ aa0 b0_7 k_b0_7 70 [(116 : Int32), (105 : Int32), (101 : Int32), (98 : Int32), (114 : Int32), (101 : Int32), (97 : Int32), (107 : Int32), (32 : Int32), x, (32 : Int32), (100 : Int32), (117 : Int32), (112 : Int32), (108 : Int32), (105 : Int32), (99 : Int32), (97 : Int32), (116 : Int32), (101 : Int32), (58 : Int32), (32 : Int32), c0, (32 : Int32), (114 : Int32), (101 : Int32), (103 : Int32), (105 : Int32), (115 : Int32), (116 : Int32), (101 : Int32), (114 : Int32), (101 : Int32), (100 : Int32), (32 : Int32), (97 : Int32), (115 : Int32), (32 : Int32), k0, (32 : Int32), (97 : Int32), (110 : Int32), (100 : Int32), (32 : Int32), d0] := Sb
  refine s_ldcS (pc' := 96) W 28 (w311 hw) (wS hw) (by decide +kernel) (vs := [.int (59), .int (32), .int (107), .int (101), .int (112), .int (116), .int (32)]) (z := 7) (by decide +kernel) (by decide) (by decide) d_prog_2_method_4_94 (by decide +kernel) (by decide) (bl rfl) (bl rfl) rfl ?_
  intro e04 b_e04 k_e04 T vm h W K32 C32 E_e04 Fc_e04 Fv_e04 V_e04 N_e04
  replace Kt := Kt.trans K32 all0
  replace P := P.keep K32 nin0 nin0
  replace M_r := M_r.mv C32
  replace R_ := R_.keep K32 nin0
  replace M_it := M_it.mv C32
  replace I := I.keep K32 nin0
  replace M_aa0 := M_aa0.mv C32
  replace Sb := Sb.keep K32 nin0 nin0
  replace M_b0_7 := M_b0_7.mv C32
  have G_e04 : LatB Z _ e04 b_e04 k_e04 [59, 32, 107, 101, 112, 116, 32] := ⟨E_e04, Fc_e04, Fv_e04, V_e04, by simp [L1]; try decide, by decide⟩
  have ne_r_e04 := N_e04 _ M_r.2.2
  have ne_it_e04 := N_e04 _ M_it.2.2
  have ne_aa0_e04 := N_e04 _ M_aa0.2.2
  have ne_b0_7_e04 := N_e04 _ M_b0_7.2.2
  have lt33_0 := nlt P.lt
  have lt33_1 := nlt P.ltb
  have lt33_2 := nlt M_r.2.1
  have lt33_3 := nlt M_it.2.1
  have lt33_4 := nlt M_aa0.2.1
  have lt33_5 := nlt M_b0_7.2.1
  have lt33_6 := nlt G_e04.lt
  have lt33_7 := nlt G_e04.ltb
  have KtS33 := Kt.1
  refine s_virt (pc' := 99) W (C0 := "java/lang/StringBuilder") (w78 hw) (w79 hw) (w81 hw) (w80 hw) (w59 hw) (w82 hw) (notFace_of_selects (args := a0) (w81 hw)) (by decide) pd32 [(.ref e04)] rfl Sb.1 (c_sbappendG l hw W.old CS0 Sb G_e04 (bl rfl) (Ne.symm ne_aa0_e04.1) (Ne.symm ne_aa0_e04.2) nab M_aa0.1 M_b0_7.1) (allS ⟨M_aa0.2.1, M_aa0.2.2⟩ (allS ⟨M_b0_7.2.1, M_b0_7.2.2⟩ all0)) rfl d_prog_2_method_4_96 1 (le rfl) (bl rfl) (bl rfl) (bl rfl) (bl rfl) rfl ?_
  rintro _ T vm h W C34 ⟨rfl, K34, b0_8, k_b0_8, Sb, hg_b0_8, M_b0_8, nab⟩
  replace Kt := Kt.trans K34 (allS (P := fun x => _ ∨ _) (Or.inr fs_aa0) (allS (P := fun x => _ ∨ _) (Or.inr fs_b0_7) all0))
  replace P := P.keep K34 (ninS ne_pf_aa0 (ninS ne_pf_b0_7 nin0)) (ninS ne_pc_aa0 (ninS ne_pc_b0_7 nin0))
  replace M_r := M_r.mv C34
  replace R_ := R_.keep K34 (ninS ne_r_aa0 (ninS ne_r_b0_7 nin0))
  replace M_it := M_it.mv C34
  replace I := I.keep K34 (ninS ne_it_aa0 (ninS ne_it_b0_7 nin0))
  replace M_aa0 := M_aa0.mv C34
  replace M_b0_7 := M_b0_7.mv C34
  replace G_e04 := G_e04.keep K34 (ninS (Ne.symm ne_aa0_e04.1) (ninS (Ne.symm ne_b0_7_e04.1) nin0)) (ninS (Ne.symm ne_aa0_e04.2) (ninS (Ne.symm ne_b0_7_e04.2) nin0))
  have ne_pf_b0_8 : @Ne Nat pf b0_8 := by rcases hg_b0_8 with q | q; rw [q]; exact ne_pf_b0_7; omega
  have ne_pc_b0_8 : @Ne Nat pc b0_8 := by rcases hg_b0_8 with q | q; rw [q]; exact ne_pc_b0_7; omega
  have ne_r_b0_8 : @Ne Nat r b0_8 := by rcases hg_b0_8 with q | q; rw [q]; exact ne_r_b0_7; omega
  have ne_it_b0_8 : @Ne Nat it b0_8 := by rcases hg_b0_8 with q | q; rw [q]; exact ne_it_b0_7; omega
  have fs_b0_8 := hg_b0_8.elim (fun q => by rw [q]; exact fs_b0_7) (fun q => Nat.le_trans KtS33 q)
  have Sb : SBd Z _ aa0 b0_8 k_b0_8 70 [(116 : Int32), (105 : Int32), (101 : Int32), (98 : Int32), (114 : Int32), (101 : Int32), (97 : Int32), (107 : Int32), (32 : Int32), x, (32 : Int32), (100 : Int32), (117 : Int32), (112 : Int32), (108 : Int32), (105 : Int32), (99 : Int32), (97 : Int32), (116 : Int32), (101 : Int32), (58 : Int32), (32 : Int32), c0, (32 : Int32), (114 : Int32), (101 : Int32), (103 : Int32), (105 : Int32), (115 : Int32), (116 : Int32), (101 : Int32), (114 : Int32), (101 : Int32), (100 : Int32), (32 : Int32), (97 : Int32), (115 : Int32), (32 : Int32), k0, (32 : Int32), (97 : Int32), (110 : Int32), (100 : Int32), (32 : Int32), d0, (59 : Int32), (32 : Int32), (107 : Int32), (101 : Int32), (112 : Int32), (116 : Int32), (32 : Int32)] := Sb
  refine s_aload (pc' := 101) W d_prog_2_method_4_99 rfl rfl rfl ?_
  refine s_virt (pc' := 104) W (C0 := "com/example/tiebreak/tiebreak/core/DuplicateRegistration") (w300 hw) (w301 hw) (w303 hw) (w302 hw) (w221 hw) (w304 hw) (notFace_of_selects (args := a0) (w303 hw)) (by decide) pd33 [] rfl (E0.keep Kt) (c_dr_kept l hw W.old (F0k.keep Kt nin0)) all0 rfl d_prog_2_method_4_101 2 (le rfl) (bl rfl) (bl rfl) (bl rfl) (bl rfl) rfl ?_
  rintro _ T vm _ W C35 ⟨rfl, rfl⟩
  replace M_r := M_r.mv C35
  replace M_it := M_it.mv C35
  replace M_aa0 := M_aa0.mv C35
  replace M_b0_8 := M_b0_8.mv C35
  have Gq := G0k.keep Kt nin0 nin0
  have nq_s0k : @Ne Nat s0k aa0 := by have := nlt G0k.lt; have := nlt G0k.ltb; omega
  have nq_u0k : @Ne Nat u0k aa0 := by have := nlt G0k.lt; have := nlt G0k.ltb; omega
  have lt36_0 := nlt P.lt
  have lt36_1 := nlt P.ltb
  have lt36_2 := nlt M_r.2.1
  have lt36_3 := nlt M_it.2.1
  have lt36_4 := nlt M_aa0.2.1
  have lt36_5 := nlt M_b0_8.2.1
  have KtS36 := Kt.1
  refine s_virt (pc' := 107) W (C0 := "java/lang/StringBuilder") (w78 hw) (w79 hw) (w81 hw) (w80 hw) (w59 hw) (w82 hw) (notFace_of_selects (args := a0) (w81 hw)) (by decide) pd32 [(.ref s0k)] rfl Sb.1 (c_sbappendG l hw W.old CS0 Sb Gq (bl rfl) nq_s0k nq_u0k nab M_aa0.1 M_b0_8.1) (allS ⟨M_aa0.2.1, M_aa0.2.2⟩ (allS ⟨M_b0_8.2.1, M_b0_8.2.2⟩ all0)) rfl d_prog_2_method_4_104 1 (le rfl) (bl rfl) (bl rfl) (bl rfl) (bl rfl) rfl ?_
  rintro _ T vm h W C37 ⟨rfl, K37, b0_9, k_b0_9, Sb, hg_b0_9, M_b0_9, nab⟩
  replace Kt := Kt.trans K37 (allS (P := fun x => _ ∨ _) (Or.inr fs_aa0) (allS (P := fun x => _ ∨ _) (Or.inr fs_b0_8) all0))
  replace P := P.keep K37 (ninS ne_pf_aa0 (ninS ne_pf_b0_8 nin0)) (ninS ne_pc_aa0 (ninS ne_pc_b0_8 nin0))
  replace M_r := M_r.mv C37
  replace R_ := R_.keep K37 (ninS ne_r_aa0 (ninS ne_r_b0_8 nin0))
  replace M_it := M_it.mv C37
  replace I := I.keep K37 (ninS ne_it_aa0 (ninS ne_it_b0_8 nin0))
  replace M_aa0 := M_aa0.mv C37
  replace M_b0_8 := M_b0_8.mv C37
  have ne_pf_b0_9 : @Ne Nat pf b0_9 := by rcases hg_b0_9 with q | q; rw [q]; exact ne_pf_b0_8; omega
  have ne_pc_b0_9 : @Ne Nat pc b0_9 := by rcases hg_b0_9 with q | q; rw [q]; exact ne_pc_b0_8; omega
  have ne_r_b0_9 : @Ne Nat r b0_9 := by rcases hg_b0_9 with q | q; rw [q]; exact ne_r_b0_8; omega
  have ne_it_b0_9 : @Ne Nat it b0_9 := by rcases hg_b0_9 with q | q; rw [q]; exact ne_it_b0_8; omega
  have fs_b0_9 := hg_b0_9.elim (fun q => by rw [q]; exact fs_b0_8) (fun q => Nat.le_trans KtS36 q)
  have Sb : SBd Z _ aa0 b0_9 k_b0_9 70 [(116 : Int32), (105 : Int32), (101 : Int32), (98 : Int32), (114 : Int32), (101 : Int32), (97 : Int32), (107 : Int32), (32 : Int32), x, (32 : Int32), (100 : Int32), (117 : Int32), (112 : Int32), (108 : Int32), (105 : Int32), (99 : Int32), (97 : Int32), (116 : Int32), (101 : Int32), (58 : Int32), (32 : Int32), c0, (32 : Int32), (114 : Int32), (101 : Int32), (103 : Int32), (105 : Int32), (115 : Int32), (116 : Int32), (101 : Int32), (114 : Int32), (101 : Int32), (100 : Int32), (32 : Int32), (97 : Int32), (115 : Int32), (32 : Int32), k0, (32 : Int32), (97 : Int32), (110 : Int32), (100 : Int32), (32 : Int32), d0, (59 : Int32), (32 : Int32), (107 : Int32), (101 : Int32), (112 : Int32), (116 : Int32), (32 : Int32), k0] := Sb
  have lt38_0 := nlt P.lt
  have lt38_1 := nlt P.ltb
  have lt38_2 := nlt M_r.2.1
  have lt38_3 := nlt M_it.2.1
  have lt38_4 := nlt M_aa0.2.1
  have lt38_5 := nlt Sb.ltb
  have KtS38 := Kt.1
  refine s_virt (pc' := 110) W (C0 := "java/lang/StringBuilder") (w125 hw) (w126 hw) (w128 hw) (w127 hw) (w59 hw) (w129 hw) (notFace_of_selects (args := a0) (w128 hw)) (by decide) pd33 [] rfl Sb.1 (c_sbtostring l hw W.old CS0 Sb (bt rfl)) all0 rfl d_prog_2_method_4_107 1 (le rfl) (bl rfl) (bl rfl) (bl rfl) (bl rfl) rfl ?_
  rintro _ T vm h W C39 ⟨t0, c_t0, k_t0, rfl, K39, L_t0, ht_t0, hc_t0⟩
  replace Kt := Kt.trans K39 all0
  replace P := P.keep K39 nin0 nin0
  replace M_r := M_r.mv C39
  replace R_ := R_.keep K39 nin0
  replace M_it := M_it.mv C39
  replace I := I.keep K39 nin0
  replace M_aa0 := M_aa0.mv C39
  replace Sb := Sb.keep K39 nin0 nin0
  replace M_b0_9 := M_b0_9.mv C39
  have ne_pf_t0 : @Ne Nat pf t0 := by omega
  have ne_pc_t0 : @Ne Nat pc t0 := by omega
  have ne_r_t0 : @Ne Nat r t0 := by omega
  have ne_it_t0 : @Ne Nat it t0 := by omega
  have ne_aa0_t0 : @Ne Nat aa0 t0 := by omega
  have ne_b0_9_t0 : @Ne Nat b0_9 t0 := by omega
  have fs_t0 := Nat.le_trans KtS38 ht_t0
  have ne_pf_c_t0 : @Ne Nat pf c_t0 := by omega
  have ne_pc_c_t0 : @Ne Nat pc c_t0 := by omega
  have ne_r_c_t0 : @Ne Nat r c_t0 := by omega
  have ne_it_c_t0 : @Ne Nat it c_t0 := by omega
  have ne_aa0_c_t0 : @Ne Nat aa0 c_t0 := by omega
  have ne_b0_9_c_t0 : @Ne Nat b0_9 c_t0 := by omega
  have fs_c_t0 := Nat.le_trans KtS38 hc_t0
  have lt40_0 := nlt P.lt
  have lt40_1 := nlt P.ltb
  have lt40_2 := nlt M_r.2.1
  have lt40_3 := nlt M_it.2.1
  have lt40_4 := nlt L_t0.lt
  have lt40_5 := nlt L_t0.ltb
  have KtS40 := Kt.1
  refine s_face (pc' := 115) W (C0 := "java/util/ArrayList") (w312 hw) (w233 hw) (w234 hw) (w235 hw) (w236 hw) (w237 hw) (w238 hw) (w179 hw) (w28 hw) (w239 hw) (by decide) pd37 [(.ref t0)] rfl R_.1 (c_addES l hw W.old D L_t0.1 R_ M_r.1) (allS ⟨M_r.2.1, M_r.2.2⟩ all0) rfl d_prog_2_method_4_110 0 (le rfl) (bl rfl) (bl rfl) (bl rfl) (bl rfl) rfl ?_
  rintro _ T vm h W C41 ⟨rfl, K41, rd, krd, RF, hrd, M_rd⟩
  replace Kt := Kt.trans K41 (allS (P := fun x => _ ∨ _) (Or.inr fs_r) all0)
  replace P := P.keep K41 (ninS ne_pf_r nin0) (ninS ne_pc_r nin0)
  replace M_r := M_r.mv C41
  replace M_it := M_it.mv C41
  replace I := I.keep K41 (ninS (Ne.symm ne_r_it) nin0)
  replace L_t0 := L_t0.keep K41 (ninS (Ne.symm ne_r_t0) nin0) (ninS (Ne.symm ne_r_c_t0) nin0)
  have ne_pf_rd : @Ne Nat pf rd := by omega
  have ne_pc_rd : @Ne Nat pc rd := by omega
  have ne_r_rd : @Ne Nat r rd := by omega
  have ne_it_rd : @Ne Nat it rd := by omega
  have ne_t0_rd : @Ne Nat t0 rd := by omega
  have ne_c_t0_rd : @Ne Nat c_t0 rd := by omega
  have fs_rd := Nat.le_trans KtS40 hrd
  refine s_pop (pc' := 116) W d_prog_2_method_4_115 rfl rfl ?_
  refine s_goto (pc' := 21) W d_prog_2_method_4_116 (by decide) rfl ?_
  refine s_aload (pc' := 23) W d_prog_2_method_4_21 rfl rfl rfl ?_
  have FL := F.keep Kt nin0 nin0
  refine s_face (pc' := 28) W (C0 := "java/util/ArrayList$Itr") (w197 hw) (w198 hw) (w199 hw) (w200 hw) (w201 hw) (w202 hw) (w203 hw) (w204 hw) (w183 hw) (w205 hw) (by decide) pd21 [] rfl I.1 (c_hasnext l hw W.old I FL.2.2.1) all0 rfl d_prog_2_method_4_23 0 (le rfl) (bl rfl) (bl rfl) (bl rfl) (bl rfl) rfl ?_
  rintro _ T vm _ W C42 ⟨rfl, rfl⟩
  replace M_r := M_r.mv C42
  replace M_it := M_it.mv C42
  replace M_rd := M_rd.mv C42
  rw [show (if (1 : Int32) = (2 : Int32) then (0 : Int32) else 1) = 1 from by decide]
  refine s_ifeq (pc' := 31) (pcT := 119) W d_prog_2_method_4_28 (by decide) rfl rfl (fun hq => absurd hq (by decide)) (fun _ => ?_)
  refine s_aload (pc' := 33) W d_prog_2_method_4_31 rfl rfl rfl ?_
  refine s_face (pc' := 38) W (C0 := "java/util/ArrayList$Itr") (w262 hw) (w263 hw) (w264 hw) (w265 hw) (w266 hw) (w267 hw) (w268 hw) (w204 hw) (w183 hw) (w269 hw) (by decide) pd36 [] rfl I.1 (c_next l hw W.old I FL (by decide) (by decide) (by decide) rfl nd_it M_it.1) (allS ⟨M_it.2.1, M_it.2.2⟩ all0) rfl d_prog_2_method_4_33 0 (le rfl) (bl rfl) (bl rfl) (bl rfl) (bl rfl) rfl ?_
  rintro _ T vm h W C43 ⟨rfl, K43, I⟩
  replace Kt := Kt.trans K43 (allS (P := fun x => _ ∨ _) (Or.inr fs_it) all0)
  replace P := P.keep K43 (ninS ne_pf_it nin0) (ninS ne_pc_it nin0)
  replace M_r := M_r.mv C43
  replace M_it := M_it.mv C43
  replace L_t0 := L_t0.keep K43 (ninS (Ne.symm ne_it_t0) nin0) (ninS (Ne.symm ne_it_c_t0) nin0)
  replace RF := RF.keep K43 (ninS ne_r_it nin0) (ninS (Ne.symm ne_it_rd) nin0)
  replace M_rd := M_rd.mv C43
  have I : IT Z _ it li 2 2 := I
  refine s_cast (pc' := 41) W (w276 hw) (Ins.of_exa (E1.keep Kt) (w277 hw)) d_prog_2_method_4_38 rfl ?_
  intro T W
  refine s_astore (pc' := 43) W #[rv sa, rv li, rv pf, rv r, rv it, rv o1] d_prog_2_method_4_41 rfl rfl rfl ?_
  refine s_aload_n (pc' := 44) W d_prog_2_method_4_43 rfl rfl rfl ?_
  have lt44_0 := nlt P.lt
  have lt44_1 := nlt P.ltb
  have lt44_2 := nlt M_r.2.1
  have lt44_3 := nlt M_it.2.1
  have lt44_4 := nlt L_t0.lt
  have lt44_5 := nlt L_t0.ltb
  have lt44_6 := nlt RF.ltb
  refine s_new (pc' := 47) W (w57 hw) (w58 hw) (w59 hw) d_prog_2_method_4_44 (bl rfl) (bl rfl) rfl ?_
  intro aa1 T h g_aa1
  have fs_aa1 := Nat.le_trans Kt.1 (Nat.le_of_eq g_aa1.symm)
  have ne_pf_aa1 : @Ne Nat pf aa1 := by have := nlt P.lt; omega
  have ne_pc_aa1 : @Ne Nat pc aa1 := by have := nlt P.ltb; omega
  have ne_r_aa1 : @Ne Nat r aa1 := by have := nlt M_r.2.1; omega
  have ne_it_aa1 : @Ne Nat it aa1 := by have := nlt M_it.2.1; omega
  have ne_t0_aa1 : @Ne Nat t0 aa1 := by have := nlt L_t0.lt; omega
  have ne_c_t0_aa1 : @Ne Nat c_t0 aa1 := by have := nlt L_t0.ltb; omega
  have ne_rd_aa1 : @Ne Nat rd aa1 := by have := nlt RF.ltb; omega
  intro W K45 C45 M_aa1 E_aa1 D_aa1 U_aa1
  replace Kt := Kt.trans K45 all0
  replace P := P.keep K45 nin0 nin0
  replace M_r := M_r.mv C45
  replace M_it := M_it.mv C45
  replace L_t0 := L_t0.keep K45 nin0 nin0
  replace RF := RF.keep K45 nin0 nin0
  replace M_rd := M_rd.mv C45
  replace I := I.keep K45 nin0
  have F_coder_aa1 : Fld Z _ aa1 "java/lang/AbstractStringBuilder" "coder" "B" (.int 0) := D_aa1 (Or.inl (w74 hw)) (ty := .byte) (by decide)
  have F_value_aa1 : Fld Z _ aa1 "java/lang/AbstractStringBuilder" "value" "[B" .null := D_aa1 (Or.inl (w72 hw)) (ty := (.array .byte)) (by decide)
  have F_count_aa1 : Fld Z _ aa1 "java/lang/AbstractStringBuilder" "count" "I" (.int 0) := D_aa1 (Or.inl (w99 hw)) (ty := .int) (by decide)
  have la_aa1 := nlt M_aa1.2.1
  have Kt0 := Kt.1
  have hgr44 := K45.1
  refine s_dup (pc' := 48) W d_prog_2_method_4_47 rfl rfl ?_
  refine s_init (pc' := 51) W rfl (w60 hw) (w61 hw) (w59 hw) (w62 hw) (by decide) pd24 [] rfl (c_sbinit l hw W.old CS0 E_aa1 M_aa1.1 M_aa1.2.1 F_coder_aa1 F_value_aa1 F_count_aa1) (allS ⟨M_aa1.2.1, M_aa1.2.2⟩ all0) rfl d_prog_2_method_4_48 2 (le rfl) (bl rfl) (bl rfl) (bl rfl) (bl rfl) rfl ?_
  rintro _ T vm h W C46 ⟨rfl, K46, bb1, k_bb1, Sb, hb_, M_bb1⟩
  replace Kt := Kt.trans K46 (allS (P := fun x => _ ∨ _) (Or.inr fs_aa1) all0)
  replace P := P.keep K46 (ninS ne_pf_aa1 nin0) (ninS ne_pc_aa1 nin0)
  replace M_r := M_r.mv C46
  replace M_it := M_it.mv C46
  replace L_t0 := L_t0.keep K46 (ninS ne_t0_aa1 nin0) (ninS ne_c_t0_aa1 nin0)
  replace RF := RF.keep K46 (ninS ne_r_aa1 nin0) (ninS ne_rd_aa1 nin0)
  replace M_rd := M_rd.mv C46
  replace I := I.keep K46 (ninS ne_it_aa1 nin0)
  replace E_aa1 := E_aa1.keep K46
  replace M_aa1 := M_aa1.mv C46
  have nab : @Ne Nat aa1 bb1 := by omega
  have fs_bb1 := Nat.le_trans Kt0 hb_
  have ne_pf_bb1 : @Ne Nat pf bb1 := by omega
  have ne_pc_bb1 : @Ne Nat pc bb1 := by omega
  have ne_r_bb1 : @Ne Nat r bb1 := by omega
  have ne_it_bb1 : @Ne Nat it bb1 := by omega
  have ne_t0_bb1 : @Ne Nat t0 bb1 := by omega
  have ne_c_t0_bb1 : @Ne Nat c_t0 bb1 := by omega
  have ne_rd_bb1 : @Ne Nat rd bb1 := by omega
  refine s_aload_n (pc' := 52) W d_prog_2_method_4_51 rfl rfl rfl ?_
  have lt47_0 := nlt P.lt
  have lt47_1 := nlt P.ltb
  have lt47_2 := nlt M_r.2.1
  have lt47_3 := nlt M_it.2.1
  have lt47_4 := nlt L_t0.lt
  have lt47_5 := nlt L_t0.ltb
  have lt47_6 := nlt RF.ltb
  have lt47_7 := nlt M_aa1.2.1
  have lt47_8 := nlt M_bb1.2.1
  have KtS47 := Kt.1
  refine s_virt (pc' := 55) W (C0 := "java/lang/StringBuilder") (w78 hw) (w79 hw) (w81 hw) (w80 hw) (w59 hw) (w82 hw) (notFace_of_selects (args := a0) (w81 hw)) (by decide) pd32 [(.ref pf)] rfl Sb.1 (c_sbappendG l hw W.old CS0 Sb P (bl rfl) ne_pf_aa1 ne_pc_aa1 nab M_aa1.1 M_bb1.1) (allS ⟨M_aa1.2.1, M_aa1.2.2⟩ (allS ⟨M_bb1.2.1, M_bb1.2.2⟩ all0)) rfl d_prog_2_method_4_52 1 (le rfl) (bl rfl) (bl rfl) (bl rfl) (bl rfl) rfl ?_
  rintro _ T vm h W C48 ⟨rfl, K48, b1_1, k_b1_1, Sb, hg_b1_1, M_b1_1, nab⟩
  replace Kt := Kt.trans K48 (allS (P := fun x => _ ∨ _) (Or.inr fs_aa1) (allS (P := fun x => _ ∨ _) (Or.inr fs_bb1) all0))
  replace P := P.keep K48 (ninS ne_pf_aa1 (ninS ne_pf_bb1 nin0)) (ninS ne_pc_aa1 (ninS ne_pc_bb1 nin0))
  replace M_r := M_r.mv C48
  replace M_it := M_it.mv C48
  replace L_t0 := L_t0.keep K48 (ninS ne_t0_aa1 (ninS ne_t0_bb1 nin0)) (ninS ne_c_t0_aa1 (ninS ne_c_t0_bb1 nin0))
  replace RF := RF.keep K48 (ninS ne_r_aa1 (ninS ne_r_bb1 nin0)) (ninS ne_rd_aa1 (ninS ne_rd_bb1 nin0))
  replace M_rd := M_rd.mv C48
  replace I := I.keep K48 (ninS ne_it_aa1 (ninS ne_it_bb1 nin0))
  replace M_aa1 := M_aa1.mv C48
  replace M_bb1 := M_bb1.mv C48
  have ne_pf_b1_1 : @Ne Nat pf b1_1 := by rcases hg_b1_1 with q | q; rw [q]; exact ne_pf_bb1; omega
  have ne_pc_b1_1 : @Ne Nat pc b1_1 := by rcases hg_b1_1 with q | q; rw [q]; exact ne_pc_bb1; omega
  have ne_r_b1_1 : @Ne Nat r b1_1 := by rcases hg_b1_1 with q | q; rw [q]; exact ne_r_bb1; omega
  have ne_it_b1_1 : @Ne Nat it b1_1 := by rcases hg_b1_1 with q | q; rw [q]; exact ne_it_bb1; omega
  have ne_t0_b1_1 : @Ne Nat t0 b1_1 := by rcases hg_b1_1 with q | q; rw [q]; exact ne_t0_bb1; omega
  have ne_c_t0_b1_1 : @Ne Nat c_t0 b1_1 := by rcases hg_b1_1 with q | q; rw [q]; exact ne_c_t0_bb1; omega
  have ne_rd_b1_1 : @Ne Nat rd b1_1 := by rcases hg_b1_1 with q | q; rw [q]; exact ne_rd_bb1; omega
  have fs_b1_1 := hg_b1_1.elim (fun q => by rw [q]; exact fs_bb1) (fun q => Nat.le_trans KtS47 q)
  have Sb : SBd Z _ aa1 b1_1 k_b1_1 16 [(116 : Int32), (105 : Int32), (101 : Int32), (98 : Int32), (114 : Int32), (101 : Int32), (97 : Int32), (107 : Int32), (32 : Int32), x] := Sb
  refine s_ldcS (pc' := 57) W 48 (w278 hw) (wS hw) (by decide +kernel) (vs := [.int (32), .int (100), .int (117), .int (112), .int (108), .int (105), .int (99), .int (97), .int (116), .int (101), .int (58), .int (32)]) (z := 12) (by decide +kernel) (by decide) (by decide) d_prog_2_method_4_55 (by decide +kernel) (by decide) (bl rfl) (bl rfl) rfl ?_
  intro e11 b_e11 k_e11 T vm h W K49 C49 E_e11 Fc_e11 Fv_e11 V_e11 N_e11
  replace Kt := Kt.trans K49 all0
  replace P := P.keep K49 nin0 nin0
  replace M_r := M_r.mv C49
  replace M_it := M_it.mv C49
  replace L_t0 := L_t0.keep K49 nin0 nin0
  replace RF := RF.keep K49 nin0 nin0
  replace M_rd := M_rd.mv C49
  replace I := I.keep K49 nin0
  replace M_aa1 := M_aa1.mv C49
  replace Sb := Sb.keep K49 nin0 nin0
  replace M_b1_1 := M_b1_1.mv C49
  have G_e11 : LatB Z _ e11 b_e11 k_e11 [32, 100, 117, 112, 108, 105, 99, 97, 116, 101, 58, 32] := ⟨E_e11, Fc_e11, Fv_e11, V_e11, by simp [L1]; try decide, by decide⟩
  have ne_r_e11 := N_e11 _ M_r.2.2
  have ne_it_e11 := N_e11 _ M_it.2.2
  have ne_rd_e11 := N_e11 _ M_rd.2.2
  have ne_aa1_e11 := N_e11 _ M_aa1.2.2
  have ne_b1_1_e11 := N_e11 _ M_b1_1.2.2
  have lt50_0 := nlt P.lt
  have lt50_1 := nlt P.ltb
  have lt50_2 := nlt M_r.2.1
  have lt50_3 := nlt M_it.2.1
  have lt50_4 := nlt L_t0.lt
  have lt50_5 := nlt L_t0.ltb
  have lt50_6 := nlt RF.ltb
  have lt50_7 := nlt M_aa1.2.1
  have lt50_8 := nlt M_b1_1.2.1
  have lt50_9 := nlt G_e11.lt
  have lt50_10 := nlt G_e11.ltb
  have KtS50 := Kt.1
  refine s_virt (pc' := 60) W (C0 := "java/lang/StringBuilder") (w78 hw) (w79 hw) (w81 hw) (w80 hw) (w59 hw) (w82 hw) (notFace_of_selects (args := a0) (w81 hw)) (by decide) pd32 [(.ref e11)] rfl Sb.1 (c_sbappendG l hw W.old CS0 Sb G_e11 (bl rfl) (Ne.symm ne_aa1_e11.1) (Ne.symm ne_aa1_e11.2) nab M_aa1.1 M_b1_1.1) (allS ⟨M_aa1.2.1, M_aa1.2.2⟩ (allS ⟨M_b1_1.2.1, M_b1_1.2.2⟩ all0)) rfl d_prog_2_method_4_57 1 (le rfl) (bl rfl) (bl rfl) (bl rfl) (bl rfl) rfl ?_
  rintro _ T vm h W C51 ⟨rfl, K51, b1_2, k_b1_2, Sb, hg_b1_2, M_b1_2, nab⟩
  replace Kt := Kt.trans K51 (allS (P := fun x => _ ∨ _) (Or.inr fs_aa1) (allS (P := fun x => _ ∨ _) (Or.inr fs_b1_1) all0))
  replace P := P.keep K51 (ninS ne_pf_aa1 (ninS ne_pf_b1_1 nin0)) (ninS ne_pc_aa1 (ninS ne_pc_b1_1 nin0))
  replace M_r := M_r.mv C51
  replace M_it := M_it.mv C51
  replace L_t0 := L_t0.keep K51 (ninS ne_t0_aa1 (ninS ne_t0_b1_1 nin0)) (ninS ne_c_t0_aa1 (ninS ne_c_t0_b1_1 nin0))
  replace RF := RF.keep K51 (ninS ne_r_aa1 (ninS ne_r_b1_1 nin0)) (ninS ne_rd_aa1 (ninS ne_rd_b1_1 nin0))
  replace M_rd := M_rd.mv C51
  replace I := I.keep K51 (ninS ne_it_aa1 (ninS ne_it_b1_1 nin0))
  replace M_aa1 := M_aa1.mv C51
  replace M_b1_1 := M_b1_1.mv C51
  replace G_e11 := G_e11.keep K51 (ninS (Ne.symm ne_aa1_e11.1) (ninS (Ne.symm ne_b1_1_e11.1) nin0)) (ninS (Ne.symm ne_aa1_e11.2) (ninS (Ne.symm ne_b1_1_e11.2) nin0))
  have ne_pf_b1_2 : @Ne Nat pf b1_2 := by rcases hg_b1_2 with q | q; rw [q]; exact ne_pf_b1_1; omega
  have ne_pc_b1_2 : @Ne Nat pc b1_2 := by rcases hg_b1_2 with q | q; rw [q]; exact ne_pc_b1_1; omega
  have ne_r_b1_2 : @Ne Nat r b1_2 := by rcases hg_b1_2 with q | q; rw [q]; exact ne_r_b1_1; omega
  have ne_it_b1_2 : @Ne Nat it b1_2 := by rcases hg_b1_2 with q | q; rw [q]; exact ne_it_b1_1; omega
  have ne_t0_b1_2 : @Ne Nat t0 b1_2 := by rcases hg_b1_2 with q | q; rw [q]; exact ne_t0_b1_1; omega
  have ne_c_t0_b1_2 : @Ne Nat c_t0 b1_2 := by rcases hg_b1_2 with q | q; rw [q]; exact ne_c_t0_b1_1; omega
  have ne_rd_b1_2 : @Ne Nat rd b1_2 := by rcases hg_b1_2 with q | q; rw [q]; exact ne_rd_b1_1; omega
  have fs_b1_2 := hg_b1_2.elim (fun q => by rw [q]; exact fs_b1_1) (fun q => Nat.le_trans KtS50 q)
  have Sb : SBd Z _ aa1 b1_2 k_b1_2 34 [(116 : Int32), (105 : Int32), (101 : Int32), (98 : Int32), (114 : Int32), (101 : Int32), (97 : Int32), (107 : Int32), (32 : Int32), x, (32 : Int32), (100 : Int32), (117 : Int32), (112 : Int32), (108 : Int32), (105 : Int32), (99 : Int32), (97 : Int32), (116 : Int32), (101 : Int32), (58 : Int32), (32 : Int32)] := Sb
  refine s_aload (pc' := 62) W d_prog_2_method_4_60 rfl rfl rfl ?_
  refine s_virt (pc' := 65) W (C0 := "com/example/tiebreak/tiebreak/core/DuplicateRegistration") (w294 hw) (w295 hw) (w297 hw) (w296 hw) (w221 hw) (w298 hw) (notFace_of_selects (args := a0) (w297 hw)) (by decide) pd33 [] rfl (E1.keep Kt) (c_dr_filterClass l hw W.old (F1c.keep Kt nin0)) all0 rfl d_prog_2_method_4_62 2 (le rfl) (bl rfl) (bl rfl) (bl rfl) (bl rfl) rfl ?_
  rintro _ T vm _ W C52 ⟨rfl, rfl⟩
  replace M_r := M_r.mv C52
  replace M_it := M_it.mv C52
  replace M_rd := M_rd.mv C52
  replace M_aa1 := M_aa1.mv C52
  replace M_b1_2 := M_b1_2.mv C52
  have Gq := G1c.keep Kt nin0 nin0
  have nq_s1c : @Ne Nat s1c aa1 := by have := nlt G1c.lt; have := nlt G1c.ltb; omega
  have nq_u1c : @Ne Nat u1c aa1 := by have := nlt G1c.lt; have := nlt G1c.ltb; omega
  have lt53_0 := nlt P.lt
  have lt53_1 := nlt P.ltb
  have lt53_2 := nlt M_r.2.1
  have lt53_3 := nlt M_it.2.1
  have lt53_4 := nlt L_t0.lt
  have lt53_5 := nlt L_t0.ltb
  have lt53_6 := nlt RF.ltb
  have lt53_7 := nlt M_aa1.2.1
  have lt53_8 := nlt M_b1_2.2.1
  have KtS53 := Kt.1
  refine s_virt (pc' := 68) W (C0 := "java/lang/StringBuilder") (w78 hw) (w79 hw) (w81 hw) (w80 hw) (w59 hw) (w82 hw) (notFace_of_selects (args := a0) (w81 hw)) (by decide) pd32 [(.ref s1c)] rfl Sb.1 (c_sbappendG l hw W.old CS0 Sb Gq (bl rfl) nq_s1c nq_u1c nab M_aa1.1 M_b1_2.1) (allS ⟨M_aa1.2.1, M_aa1.2.2⟩ (allS ⟨M_b1_2.2.1, M_b1_2.2.2⟩ all0)) rfl d_prog_2_method_4_65 1 (le rfl) (bl rfl) (bl rfl) (bl rfl) (bl rfl) rfl ?_
  rintro _ T vm h W C54 ⟨rfl, K54, b1_3, k_b1_3, Sb, hg_b1_3, M_b1_3, nab⟩
  replace Kt := Kt.trans K54 (allS (P := fun x => _ ∨ _) (Or.inr fs_aa1) (allS (P := fun x => _ ∨ _) (Or.inr fs_b1_2) all0))
  replace P := P.keep K54 (ninS ne_pf_aa1 (ninS ne_pf_b1_2 nin0)) (ninS ne_pc_aa1 (ninS ne_pc_b1_2 nin0))
  replace M_r := M_r.mv C54
  replace M_it := M_it.mv C54
  replace L_t0 := L_t0.keep K54 (ninS ne_t0_aa1 (ninS ne_t0_b1_2 nin0)) (ninS ne_c_t0_aa1 (ninS ne_c_t0_b1_2 nin0))
  replace RF := RF.keep K54 (ninS ne_r_aa1 (ninS ne_r_b1_2 nin0)) (ninS ne_rd_aa1 (ninS ne_rd_b1_2 nin0))
  replace M_rd := M_rd.mv C54
  replace I := I.keep K54 (ninS ne_it_aa1 (ninS ne_it_b1_2 nin0))
  replace M_aa1 := M_aa1.mv C54
  replace M_b1_2 := M_b1_2.mv C54
  have ne_pf_b1_3 : @Ne Nat pf b1_3 := by rcases hg_b1_3 with q | q; rw [q]; exact ne_pf_b1_2; omega
  have ne_pc_b1_3 : @Ne Nat pc b1_3 := by rcases hg_b1_3 with q | q; rw [q]; exact ne_pc_b1_2; omega
  have ne_r_b1_3 : @Ne Nat r b1_3 := by rcases hg_b1_3 with q | q; rw [q]; exact ne_r_b1_2; omega
  have ne_it_b1_3 : @Ne Nat it b1_3 := by rcases hg_b1_3 with q | q; rw [q]; exact ne_it_b1_2; omega
  have ne_t0_b1_3 : @Ne Nat t0 b1_3 := by rcases hg_b1_3 with q | q; rw [q]; exact ne_t0_b1_2; omega
  have ne_c_t0_b1_3 : @Ne Nat c_t0 b1_3 := by rcases hg_b1_3 with q | q; rw [q]; exact ne_c_t0_b1_2; omega
  have ne_rd_b1_3 : @Ne Nat rd b1_3 := by rcases hg_b1_3 with q | q; rw [q]; exact ne_rd_b1_2; omega
  have fs_b1_3 := hg_b1_3.elim (fun q => by rw [q]; exact fs_b1_2) (fun q => Nat.le_trans KtS53 q)
  have Sb : SBd Z _ aa1 b1_3 k_b1_3 34 [(116 : Int32), (105 : Int32), (101 : Int32), (98 : Int32), (114 : Int32), (101 : Int32), (97 : Int32), (107 : Int32), (32 : Int32), x, (32 : Int32), (100 : Int32), (117 : Int32), (112 : Int32), (108 : Int32), (105 : Int32), (99 : Int32), (97 : Int32), (116 : Int32), (101 : Int32), (58 : Int32), (32 : Int32), c1] := Sb
  refine s_ldcS (pc' := 70) W 60 (w299 hw) (wS hw) (by decide +kernel) (vs := [.int (32), .int (114), .int (101), .int (103), .int (105), .int (115), .int (116), .int (101), .int (114), .int (101), .int (100), .int (32), .int (97), .int (115), .int (32)]) (z := 15) (by decide +kernel) (by decide) (by decide) d_prog_2_method_4_68 (by decide +kernel) (by decide) (bl rfl) (bl rfl) rfl ?_
  intro e12 b_e12 k_e12 T vm h W K55 C55 E_e12 Fc_e12 Fv_e12 V_e12 N_e12
  replace Kt := Kt.trans K55 all0
  replace P := P.keep K55 nin0 nin0
  replace M_r := M_r.mv C55
  replace M_it := M_it.mv C55
  replace L_t0 := L_t0.keep K55 nin0 nin0
  replace RF := RF.keep K55 nin0 nin0
  replace M_rd := M_rd.mv C55
  replace I := I.keep K55 nin0
  replace M_aa1 := M_aa1.mv C55
  replace Sb := Sb.keep K55 nin0 nin0
  replace M_b1_3 := M_b1_3.mv C55
  have G_e12 : LatB Z _ e12 b_e12 k_e12 [32, 114, 101, 103, 105, 115, 116, 101, 114, 101, 100, 32, 97, 115, 32] := ⟨E_e12, Fc_e12, Fv_e12, V_e12, by simp [L1]; try decide, by decide⟩
  have ne_r_e12 := N_e12 _ M_r.2.2
  have ne_it_e12 := N_e12 _ M_it.2.2
  have ne_rd_e12 := N_e12 _ M_rd.2.2
  have ne_aa1_e12 := N_e12 _ M_aa1.2.2
  have ne_b1_3_e12 := N_e12 _ M_b1_3.2.2
  have lt56_0 := nlt P.lt
  have lt56_1 := nlt P.ltb
  have lt56_2 := nlt M_r.2.1
  have lt56_3 := nlt M_it.2.1
  have lt56_4 := nlt L_t0.lt
  have lt56_5 := nlt L_t0.ltb
  have lt56_6 := nlt RF.ltb
  have lt56_7 := nlt M_aa1.2.1
  have lt56_8 := nlt M_b1_3.2.1
  have lt56_9 := nlt G_e12.lt
  have lt56_10 := nlt G_e12.ltb
  have KtS56 := Kt.1
  refine s_virt (pc' := 73) W (C0 := "java/lang/StringBuilder") (w78 hw) (w79 hw) (w81 hw) (w80 hw) (w59 hw) (w82 hw) (notFace_of_selects (args := a0) (w81 hw)) (by decide) pd32 [(.ref e12)] rfl Sb.1 (c_sbappendG l hw W.old CS0 Sb G_e12 (bl rfl) (Ne.symm ne_aa1_e12.1) (Ne.symm ne_aa1_e12.2) nab M_aa1.1 M_b1_3.1) (allS ⟨M_aa1.2.1, M_aa1.2.2⟩ (allS ⟨M_b1_3.2.1, M_b1_3.2.2⟩ all0)) rfl d_prog_2_method_4_70 1 (le rfl) (bl rfl) (bl rfl) (bl rfl) (bl rfl) rfl ?_
  rintro _ T vm h W C57 ⟨rfl, K57, b1_4, k_b1_4, Sb, hg_b1_4, M_b1_4, nab⟩
  replace Kt := Kt.trans K57 (allS (P := fun x => _ ∨ _) (Or.inr fs_aa1) (allS (P := fun x => _ ∨ _) (Or.inr fs_b1_3) all0))
  replace P := P.keep K57 (ninS ne_pf_aa1 (ninS ne_pf_b1_3 nin0)) (ninS ne_pc_aa1 (ninS ne_pc_b1_3 nin0))
  replace M_r := M_r.mv C57
  replace M_it := M_it.mv C57
  replace L_t0 := L_t0.keep K57 (ninS ne_t0_aa1 (ninS ne_t0_b1_3 nin0)) (ninS ne_c_t0_aa1 (ninS ne_c_t0_b1_3 nin0))
  replace RF := RF.keep K57 (ninS ne_r_aa1 (ninS ne_r_b1_3 nin0)) (ninS ne_rd_aa1 (ninS ne_rd_b1_3 nin0))
  replace M_rd := M_rd.mv C57
  replace I := I.keep K57 (ninS ne_it_aa1 (ninS ne_it_b1_3 nin0))
  replace M_aa1 := M_aa1.mv C57
  replace M_b1_3 := M_b1_3.mv C57
  replace G_e12 := G_e12.keep K57 (ninS (Ne.symm ne_aa1_e12.1) (ninS (Ne.symm ne_b1_3_e12.1) nin0)) (ninS (Ne.symm ne_aa1_e12.2) (ninS (Ne.symm ne_b1_3_e12.2) nin0))
  have ne_pf_b1_4 : @Ne Nat pf b1_4 := by rcases hg_b1_4 with q | q; rw [q]; exact ne_pf_b1_3; omega
  have ne_pc_b1_4 : @Ne Nat pc b1_4 := by rcases hg_b1_4 with q | q; rw [q]; exact ne_pc_b1_3; omega
  have ne_r_b1_4 : @Ne Nat r b1_4 := by rcases hg_b1_4 with q | q; rw [q]; exact ne_r_b1_3; omega
  have ne_it_b1_4 : @Ne Nat it b1_4 := by rcases hg_b1_4 with q | q; rw [q]; exact ne_it_b1_3; omega
  have ne_t0_b1_4 : @Ne Nat t0 b1_4 := by rcases hg_b1_4 with q | q; rw [q]; exact ne_t0_b1_3; omega
  have ne_c_t0_b1_4 : @Ne Nat c_t0 b1_4 := by rcases hg_b1_4 with q | q; rw [q]; exact ne_c_t0_b1_3; omega
  have ne_rd_b1_4 : @Ne Nat rd b1_4 := by rcases hg_b1_4 with q | q; rw [q]; exact ne_rd_b1_3; omega
  have fs_b1_4 := hg_b1_4.elim (fun q => by rw [q]; exact fs_b1_3) (fun q => Nat.le_trans KtS56 q)
  have Sb : SBd Z _ aa1 b1_4 k_b1_4 70 [(116 : Int32), (105 : Int32), (101 : Int32), (98 : Int32), (114 : Int32), (101 : Int32), (97 : Int32), (107 : Int32), (32 : Int32), x, (32 : Int32), (100 : Int32), (117 : Int32), (112 : Int32), (108 : Int32), (105 : Int32), (99 : Int32), (97 : Int32), (116 : Int32), (101 : Int32), (58 : Int32), (32 : Int32), c1, (32 : Int32), (114 : Int32), (101 : Int32), (103 : Int32), (105 : Int32), (115 : Int32), (116 : Int32), (101 : Int32), (114 : Int32), (101 : Int32), (100 : Int32), (32 : Int32), (97 : Int32), (115 : Int32), (32 : Int32)] := Sb
  refine s_aload (pc' := 75) W d_prog_2_method_4_73 rfl rfl rfl ?_
  refine s_virt (pc' := 78) W (C0 := "com/example/tiebreak/tiebreak/core/DuplicateRegistration") (w300 hw) (w301 hw) (w303 hw) (w302 hw) (w221 hw) (w304 hw) (notFace_of_selects (args := a0) (w303 hw)) (by decide) pd33 [] rfl (E1.keep Kt) (c_dr_kept l hw W.old (F1k.keep Kt nin0)) all0 rfl d_prog_2_method_4_75 2 (le rfl) (bl rfl) (bl rfl) (bl rfl) (bl rfl) rfl ?_
  rintro _ T vm _ W C58 ⟨rfl, rfl⟩
  replace M_r := M_r.mv C58
  replace M_it := M_it.mv C58
  replace M_rd := M_rd.mv C58
  replace M_aa1 := M_aa1.mv C58
  replace M_b1_4 := M_b1_4.mv C58
  have Gq := G1k.keep Kt nin0 nin0
  have nq_s1k : @Ne Nat s1k aa1 := by have := nlt G1k.lt; have := nlt G1k.ltb; omega
  have nq_u1k : @Ne Nat u1k aa1 := by have := nlt G1k.lt; have := nlt G1k.ltb; omega
  have lt59_0 := nlt P.lt
  have lt59_1 := nlt P.ltb
  have lt59_2 := nlt M_r.2.1
  have lt59_3 := nlt M_it.2.1
  have lt59_4 := nlt L_t0.lt
  have lt59_5 := nlt L_t0.ltb
  have lt59_6 := nlt RF.ltb
  have lt59_7 := nlt M_aa1.2.1
  have lt59_8 := nlt M_b1_4.2.1
  have KtS59 := Kt.1
  refine s_virt (pc' := 81) W (C0 := "java/lang/StringBuilder") (w78 hw) (w79 hw) (w81 hw) (w80 hw) (w59 hw) (w82 hw) (notFace_of_selects (args := a0) (w81 hw)) (by decide) pd32 [(.ref s1k)] rfl Sb.1 (c_sbappendG l hw W.old CS0 Sb Gq (bl rfl) nq_s1k nq_u1k nab M_aa1.1 M_b1_4.1) (allS ⟨M_aa1.2.1, M_aa1.2.2⟩ (allS ⟨M_b1_4.2.1, M_b1_4.2.2⟩ all0)) rfl d_prog_2_method_4_78 1 (le rfl) (bl rfl) (bl rfl) (bl rfl) (bl rfl) rfl ?_
  rintro _ T vm h W C60 ⟨rfl, K60, b1_5, k_b1_5, Sb, hg_b1_5, M_b1_5, nab⟩
  replace Kt := Kt.trans K60 (allS (P := fun x => _ ∨ _) (Or.inr fs_aa1) (allS (P := fun x => _ ∨ _) (Or.inr fs_b1_4) all0))
  replace P := P.keep K60 (ninS ne_pf_aa1 (ninS ne_pf_b1_4 nin0)) (ninS ne_pc_aa1 (ninS ne_pc_b1_4 nin0))
  replace M_r := M_r.mv C60
  replace M_it := M_it.mv C60
  replace L_t0 := L_t0.keep K60 (ninS ne_t0_aa1 (ninS ne_t0_b1_4 nin0)) (ninS ne_c_t0_aa1 (ninS ne_c_t0_b1_4 nin0))
  replace RF := RF.keep K60 (ninS ne_r_aa1 (ninS ne_r_b1_4 nin0)) (ninS ne_rd_aa1 (ninS ne_rd_b1_4 nin0))
  replace M_rd := M_rd.mv C60
  replace I := I.keep K60 (ninS ne_it_aa1 (ninS ne_it_b1_4 nin0))
  replace M_aa1 := M_aa1.mv C60
  replace M_b1_4 := M_b1_4.mv C60
  have ne_pf_b1_5 : @Ne Nat pf b1_5 := by rcases hg_b1_5 with q | q; rw [q]; exact ne_pf_b1_4; omega
  have ne_pc_b1_5 : @Ne Nat pc b1_5 := by rcases hg_b1_5 with q | q; rw [q]; exact ne_pc_b1_4; omega
  have ne_r_b1_5 : @Ne Nat r b1_5 := by rcases hg_b1_5 with q | q; rw [q]; exact ne_r_b1_4; omega
  have ne_it_b1_5 : @Ne Nat it b1_5 := by rcases hg_b1_5 with q | q; rw [q]; exact ne_it_b1_4; omega
  have ne_t0_b1_5 : @Ne Nat t0 b1_5 := by rcases hg_b1_5 with q | q; rw [q]; exact ne_t0_b1_4; omega
  have ne_c_t0_b1_5 : @Ne Nat c_t0 b1_5 := by rcases hg_b1_5 with q | q; rw [q]; exact ne_c_t0_b1_4; omega
  have ne_rd_b1_5 : @Ne Nat rd b1_5 := by rcases hg_b1_5 with q | q; rw [q]; exact ne_rd_b1_4; omega
  have fs_b1_5 := hg_b1_5.elim (fun q => by rw [q]; exact fs_b1_4) (fun q => Nat.le_trans KtS59 q)
  have Sb : SBd Z _ aa1 b1_5 k_b1_5 70 [(116 : Int32), (105 : Int32), (101 : Int32), (98 : Int32), (114 : Int32), (101 : Int32), (97 : Int32), (107 : Int32), (32 : Int32), x, (32 : Int32), (100 : Int32), (117 : Int32), (112 : Int32), (108 : Int32), (105 : Int32), (99 : Int32), (97 : Int32), (116 : Int32), (101 : Int32), (58 : Int32), (32 : Int32), c1, (32 : Int32), (114 : Int32), (101 : Int32), (103 : Int32), (105 : Int32), (115 : Int32), (116 : Int32), (101 : Int32), (114 : Int32), (101 : Int32), (100 : Int32), (32 : Int32), (97 : Int32), (115 : Int32), (32 : Int32), k1] := Sb
  refine s_ldcS (pc' := 83) W 20 (w305 hw) (wS hw) (by decide +kernel) (vs := [.int (32), .int (97), .int (110), .int (100), .int (32)]) (z := 5) (by decide +kernel) (by decide) (by decide) d_prog_2_method_4_81 (by decide +kernel) (by decide) (bl rfl) (bl rfl) rfl ?_
  intro e13 b_e13 k_e13 T vm h W K61 C61 E_e13 Fc_e13 Fv_e13 V_e13 N_e13
  replace Kt := Kt.trans K61 all0
  replace P := P.keep K61 nin0 nin0
  replace M_r := M_r.mv C61
  replace M_it := M_it.mv C61
  replace L_t0 := L_t0.keep K61 nin0 nin0
  replace RF := RF.keep K61 nin0 nin0
  replace M_rd := M_rd.mv C61
  replace I := I.keep K61 nin0
  replace M_aa1 := M_aa1.mv C61
  replace Sb := Sb.keep K61 nin0 nin0
  replace M_b1_5 := M_b1_5.mv C61
  have G_e13 : LatB Z _ e13 b_e13 k_e13 [32, 97, 110, 100, 32] := ⟨E_e13, Fc_e13, Fv_e13, V_e13, by simp [L1]; try decide, by decide⟩
  have ne_r_e13 := N_e13 _ M_r.2.2
  have ne_it_e13 := N_e13 _ M_it.2.2
  have ne_rd_e13 := N_e13 _ M_rd.2.2
  have ne_aa1_e13 := N_e13 _ M_aa1.2.2
  have ne_b1_5_e13 := N_e13 _ M_b1_5.2.2
  have lt62_0 := nlt P.lt
  have lt62_1 := nlt P.ltb
  have lt62_2 := nlt M_r.2.1
  have lt62_3 := nlt M_it.2.1
  have lt62_4 := nlt L_t0.lt
  have lt62_5 := nlt L_t0.ltb
  have lt62_6 := nlt RF.ltb
  have lt62_7 := nlt M_aa1.2.1
  have lt62_8 := nlt M_b1_5.2.1
  have lt62_9 := nlt G_e13.lt
  have lt62_10 := nlt G_e13.ltb
  have KtS62 := Kt.1
  refine s_virt (pc' := 86) W (C0 := "java/lang/StringBuilder") (w78 hw) (w79 hw) (w81 hw) (w80 hw) (w59 hw) (w82 hw) (notFace_of_selects (args := a0) (w81 hw)) (by decide) pd32 [(.ref e13)] rfl Sb.1 (c_sbappendG l hw W.old CS0 Sb G_e13 (bl rfl) (Ne.symm ne_aa1_e13.1) (Ne.symm ne_aa1_e13.2) nab M_aa1.1 M_b1_5.1) (allS ⟨M_aa1.2.1, M_aa1.2.2⟩ (allS ⟨M_b1_5.2.1, M_b1_5.2.2⟩ all0)) rfl d_prog_2_method_4_83 1 (le rfl) (bl rfl) (bl rfl) (bl rfl) (bl rfl) rfl ?_
  rintro _ T vm h W C63 ⟨rfl, K63, b1_6, k_b1_6, Sb, hg_b1_6, M_b1_6, nab⟩
  replace Kt := Kt.trans K63 (allS (P := fun x => _ ∨ _) (Or.inr fs_aa1) (allS (P := fun x => _ ∨ _) (Or.inr fs_b1_5) all0))
  replace P := P.keep K63 (ninS ne_pf_aa1 (ninS ne_pf_b1_5 nin0)) (ninS ne_pc_aa1 (ninS ne_pc_b1_5 nin0))
  replace M_r := M_r.mv C63
  replace M_it := M_it.mv C63
  replace L_t0 := L_t0.keep K63 (ninS ne_t0_aa1 (ninS ne_t0_b1_5 nin0)) (ninS ne_c_t0_aa1 (ninS ne_c_t0_b1_5 nin0))
  replace RF := RF.keep K63 (ninS ne_r_aa1 (ninS ne_r_b1_5 nin0)) (ninS ne_rd_aa1 (ninS ne_rd_b1_5 nin0))
  replace M_rd := M_rd.mv C63
  replace I := I.keep K63 (ninS ne_it_aa1 (ninS ne_it_b1_5 nin0))
  replace M_aa1 := M_aa1.mv C63
  replace M_b1_5 := M_b1_5.mv C63
  replace G_e13 := G_e13.keep K63 (ninS (Ne.symm ne_aa1_e13.1) (ninS (Ne.symm ne_b1_5_e13.1) nin0)) (ninS (Ne.symm ne_aa1_e13.2) (ninS (Ne.symm ne_b1_5_e13.2) nin0))
  have ne_pf_b1_6 : @Ne Nat pf b1_6 := by rcases hg_b1_6 with q | q; rw [q]; exact ne_pf_b1_5; omega
  have ne_pc_b1_6 : @Ne Nat pc b1_6 := by rcases hg_b1_6 with q | q; rw [q]; exact ne_pc_b1_5; omega
  have ne_r_b1_6 : @Ne Nat r b1_6 := by rcases hg_b1_6 with q | q; rw [q]; exact ne_r_b1_5; omega
  have ne_it_b1_6 : @Ne Nat it b1_6 := by rcases hg_b1_6 with q | q; rw [q]; exact ne_it_b1_5; omega
  have ne_t0_b1_6 : @Ne Nat t0 b1_6 := by rcases hg_b1_6 with q | q; rw [q]; exact ne_t0_b1_5; omega
  have ne_c_t0_b1_6 : @Ne Nat c_t0 b1_6 := by rcases hg_b1_6 with q | q; rw [q]; exact ne_c_t0_b1_5; omega
  have ne_rd_b1_6 : @Ne Nat rd b1_6 := by rcases hg_b1_6 with q | q; rw [q]; exact ne_rd_b1_5; omega
  have fs_b1_6 := hg_b1_6.elim (fun q => by rw [q]; exact fs_b1_5) (fun q => Nat.le_trans KtS62 q)
  have Sb : SBd Z _ aa1 b1_6 k_b1_6 70 [(116 : Int32), (105 : Int32), (101 : Int32), (98 : Int32), (114 : Int32), (101 : Int32), (97 : Int32), (107 : Int32), (32 : Int32), x, (32 : Int32), (100 : Int32), (117 : Int32), (112 : Int32), (108 : Int32), (105 : Int32), (99 : Int32), (97 : Int32), (116 : Int32), (101 : Int32), (58 : Int32), (32 : Int32), c1, (32 : Int32), (114 : Int32), (101 : Int32), (103 : Int32), (105 : Int32), (115 : Int32), (116 : Int32), (101 : Int32), (114 : Int32), (101 : Int32), (100 : Int32), (32 : Int32), (97 : Int32), (115 : Int32), (32 : Int32), k1, (32 : Int32), (97 : Int32), (110 : Int32), (100 : Int32), (32 : Int32)] := Sb
  refine s_aload (pc' := 88) W d_prog_2_method_4_86 rfl rfl rfl ?_
  refine s_virt (pc' := 91) W (C0 := "com/example/tiebreak/tiebreak/core/DuplicateRegistration") (w306 hw) (w307 hw) (w309 hw) (w308 hw) (w221 hw) (w310 hw) (notFace_of_selects (args := a0) (w309 hw)) (by decide) pd33 [] rfl (E1.keep Kt) (c_dr_dropped l hw W.old (F1d.keep Kt nin0)) all0 rfl d_prog_2_method_4_88 2 (le rfl) (bl rfl) (bl rfl) (bl rfl) (bl rfl) rfl ?_
  rintro _ T vm _ W C64 ⟨rfl, rfl⟩
  replace M_r := M_r.mv C64
  replace M_it := M_it.mv C64
  replace M_rd := M_rd.mv C64
  replace M_aa1 := M_aa1.mv C64
  replace M_b1_6 := M_b1_6.mv C64
  have Gq := G1d.keep Kt nin0 nin0
  have nq_s1d : @Ne Nat s1d aa1 := by have := nlt G1d.lt; have := nlt G1d.ltb; omega
  have nq_u1d : @Ne Nat u1d aa1 := by have := nlt G1d.lt; have := nlt G1d.ltb; omega
  have lt65_0 := nlt P.lt
  have lt65_1 := nlt P.ltb
  have lt65_2 := nlt M_r.2.1
  have lt65_3 := nlt M_it.2.1
  have lt65_4 := nlt L_t0.lt
  have lt65_5 := nlt L_t0.ltb
  have lt65_6 := nlt RF.ltb
  have lt65_7 := nlt M_aa1.2.1
  have lt65_8 := nlt M_b1_6.2.1
  have KtS65 := Kt.1
  refine s_virt (pc' := 94) W (C0 := "java/lang/StringBuilder") (w78 hw) (w79 hw) (w81 hw) (w80 hw) (w59 hw) (w82 hw) (notFace_of_selects (args := a0) (w81 hw)) (by decide) pd32 [(.ref s1d)] rfl Sb.1 (c_sbappendG l hw W.old CS0 Sb Gq (bl rfl) nq_s1d nq_u1d nab M_aa1.1 M_b1_6.1) (allS ⟨M_aa1.2.1, M_aa1.2.2⟩ (allS ⟨M_b1_6.2.1, M_b1_6.2.2⟩ all0)) rfl d_prog_2_method_4_91 1 (le rfl) (bl rfl) (bl rfl) (bl rfl) (bl rfl) rfl ?_
  rintro _ T vm h W C66 ⟨rfl, K66, b1_7, k_b1_7, Sb, hg_b1_7, M_b1_7, nab⟩
  replace Kt := Kt.trans K66 (allS (P := fun x => _ ∨ _) (Or.inr fs_aa1) (allS (P := fun x => _ ∨ _) (Or.inr fs_b1_6) all0))
  replace P := P.keep K66 (ninS ne_pf_aa1 (ninS ne_pf_b1_6 nin0)) (ninS ne_pc_aa1 (ninS ne_pc_b1_6 nin0))
  replace M_r := M_r.mv C66
  replace M_it := M_it.mv C66
  replace L_t0 := L_t0.keep K66 (ninS ne_t0_aa1 (ninS ne_t0_b1_6 nin0)) (ninS ne_c_t0_aa1 (ninS ne_c_t0_b1_6 nin0))
  replace RF := RF.keep K66 (ninS ne_r_aa1 (ninS ne_r_b1_6 nin0)) (ninS ne_rd_aa1 (ninS ne_rd_b1_6 nin0))
  replace M_rd := M_rd.mv C66
  replace I := I.keep K66 (ninS ne_it_aa1 (ninS ne_it_b1_6 nin0))
  replace M_aa1 := M_aa1.mv C66
  replace M_b1_6 := M_b1_6.mv C66
  have ne_pf_b1_7 : @Ne Nat pf b1_7 := by rcases hg_b1_7 with q | q; rw [q]; exact ne_pf_b1_6; omega
  have ne_pc_b1_7 : @Ne Nat pc b1_7 := by rcases hg_b1_7 with q | q; rw [q]; exact ne_pc_b1_6; omega
  have ne_r_b1_7 : @Ne Nat r b1_7 := by rcases hg_b1_7 with q | q; rw [q]; exact ne_r_b1_6; omega
  have ne_it_b1_7 : @Ne Nat it b1_7 := by rcases hg_b1_7 with q | q; rw [q]; exact ne_it_b1_6; omega
  have ne_t0_b1_7 : @Ne Nat t0 b1_7 := by rcases hg_b1_7 with q | q; rw [q]; exact ne_t0_b1_6; omega
  have ne_c_t0_b1_7 : @Ne Nat c_t0 b1_7 := by rcases hg_b1_7 with q | q; rw [q]; exact ne_c_t0_b1_6; omega
  have ne_rd_b1_7 : @Ne Nat rd b1_7 := by rcases hg_b1_7 with q | q; rw [q]; exact ne_rd_b1_6; omega
  have fs_b1_7 := hg_b1_7.elim (fun q => by rw [q]; exact fs_b1_6) (fun q => Nat.le_trans KtS65 q)
  have Sb : SBd Z _ aa1 b1_7 k_b1_7 70 [(116 : Int32), (105 : Int32), (101 : Int32), (98 : Int32), (114 : Int32), (101 : Int32), (97 : Int32), (107 : Int32), (32 : Int32), x, (32 : Int32), (100 : Int32), (117 : Int32), (112 : Int32), (108 : Int32), (105 : Int32), (99 : Int32), (97 : Int32), (116 : Int32), (101 : Int32), (58 : Int32), (32 : Int32), c1, (32 : Int32), (114 : Int32), (101 : Int32), (103 : Int32), (105 : Int32), (115 : Int32), (116 : Int32), (101 : Int32), (114 : Int32), (101 : Int32), (100 : Int32), (32 : Int32), (97 : Int32), (115 : Int32), (32 : Int32), k1, (32 : Int32), (97 : Int32), (110 : Int32), (100 : Int32), (32 : Int32), d1] := Sb
  refine s_ldcS (pc' := 96) W 28 (w311 hw) (wS hw) (by decide +kernel) (vs := [.int (59), .int (32), .int (107), .int (101), .int (112), .int (116), .int (32)]) (z := 7) (by decide +kernel) (by decide) (by decide) d_prog_2_method_4_94 (by decide +kernel) (by decide) (bl rfl) (bl rfl) rfl ?_
  intro e14 b_e14 k_e14 T vm h W K67 C67 E_e14 Fc_e14 Fv_e14 V_e14 N_e14
  replace Kt := Kt.trans K67 all0
  replace P := P.keep K67 nin0 nin0
  replace M_r := M_r.mv C67
  replace M_it := M_it.mv C67
  replace L_t0 := L_t0.keep K67 nin0 nin0
  replace RF := RF.keep K67 nin0 nin0
  replace M_rd := M_rd.mv C67
  replace I := I.keep K67 nin0
  replace M_aa1 := M_aa1.mv C67
  replace Sb := Sb.keep K67 nin0 nin0
  replace M_b1_7 := M_b1_7.mv C67
  have G_e14 : LatB Z _ e14 b_e14 k_e14 [59, 32, 107, 101, 112, 116, 32] := ⟨E_e14, Fc_e14, Fv_e14, V_e14, by simp [L1]; try decide, by decide⟩
  have ne_r_e14 := N_e14 _ M_r.2.2
  have ne_it_e14 := N_e14 _ M_it.2.2
  have ne_rd_e14 := N_e14 _ M_rd.2.2
  have ne_aa1_e14 := N_e14 _ M_aa1.2.2
  have ne_b1_7_e14 := N_e14 _ M_b1_7.2.2
  have lt68_0 := nlt P.lt
  have lt68_1 := nlt P.ltb
  have lt68_2 := nlt M_r.2.1
  have lt68_3 := nlt M_it.2.1
  have lt68_4 := nlt L_t0.lt
  have lt68_5 := nlt L_t0.ltb
  have lt68_6 := nlt RF.ltb
  have lt68_7 := nlt M_aa1.2.1
  have lt68_8 := nlt M_b1_7.2.1
  have lt68_9 := nlt G_e14.lt
  have lt68_10 := nlt G_e14.ltb
  have KtS68 := Kt.1
  refine s_virt (pc' := 99) W (C0 := "java/lang/StringBuilder") (w78 hw) (w79 hw) (w81 hw) (w80 hw) (w59 hw) (w82 hw) (notFace_of_selects (args := a0) (w81 hw)) (by decide) pd32 [(.ref e14)] rfl Sb.1 (c_sbappendG l hw W.old CS0 Sb G_e14 (bl rfl) (Ne.symm ne_aa1_e14.1) (Ne.symm ne_aa1_e14.2) nab M_aa1.1 M_b1_7.1) (allS ⟨M_aa1.2.1, M_aa1.2.2⟩ (allS ⟨M_b1_7.2.1, M_b1_7.2.2⟩ all0)) rfl d_prog_2_method_4_96 1 (le rfl) (bl rfl) (bl rfl) (bl rfl) (bl rfl) rfl ?_
  rintro _ T vm h W C69 ⟨rfl, K69, b1_8, k_b1_8, Sb, hg_b1_8, M_b1_8, nab⟩
  replace Kt := Kt.trans K69 (allS (P := fun x => _ ∨ _) (Or.inr fs_aa1) (allS (P := fun x => _ ∨ _) (Or.inr fs_b1_7) all0))
  replace P := P.keep K69 (ninS ne_pf_aa1 (ninS ne_pf_b1_7 nin0)) (ninS ne_pc_aa1 (ninS ne_pc_b1_7 nin0))
  replace M_r := M_r.mv C69
  replace M_it := M_it.mv C69
  replace L_t0 := L_t0.keep K69 (ninS ne_t0_aa1 (ninS ne_t0_b1_7 nin0)) (ninS ne_c_t0_aa1 (ninS ne_c_t0_b1_7 nin0))
  replace RF := RF.keep K69 (ninS ne_r_aa1 (ninS ne_r_b1_7 nin0)) (ninS ne_rd_aa1 (ninS ne_rd_b1_7 nin0))
  replace M_rd := M_rd.mv C69
  replace I := I.keep K69 (ninS ne_it_aa1 (ninS ne_it_b1_7 nin0))
  replace M_aa1 := M_aa1.mv C69
  replace M_b1_7 := M_b1_7.mv C69
  replace G_e14 := G_e14.keep K69 (ninS (Ne.symm ne_aa1_e14.1) (ninS (Ne.symm ne_b1_7_e14.1) nin0)) (ninS (Ne.symm ne_aa1_e14.2) (ninS (Ne.symm ne_b1_7_e14.2) nin0))
  have ne_pf_b1_8 : @Ne Nat pf b1_8 := by rcases hg_b1_8 with q | q; rw [q]; exact ne_pf_b1_7; omega
  have ne_pc_b1_8 : @Ne Nat pc b1_8 := by rcases hg_b1_8 with q | q; rw [q]; exact ne_pc_b1_7; omega
  have ne_r_b1_8 : @Ne Nat r b1_8 := by rcases hg_b1_8 with q | q; rw [q]; exact ne_r_b1_7; omega
  have ne_it_b1_8 : @Ne Nat it b1_8 := by rcases hg_b1_8 with q | q; rw [q]; exact ne_it_b1_7; omega
  have ne_t0_b1_8 : @Ne Nat t0 b1_8 := by rcases hg_b1_8 with q | q; rw [q]; exact ne_t0_b1_7; omega
  have ne_c_t0_b1_8 : @Ne Nat c_t0 b1_8 := by rcases hg_b1_8 with q | q; rw [q]; exact ne_c_t0_b1_7; omega
  have ne_rd_b1_8 : @Ne Nat rd b1_8 := by rcases hg_b1_8 with q | q; rw [q]; exact ne_rd_b1_7; omega
  have fs_b1_8 := hg_b1_8.elim (fun q => by rw [q]; exact fs_b1_7) (fun q => Nat.le_trans KtS68 q)
  have Sb : SBd Z _ aa1 b1_8 k_b1_8 70 [(116 : Int32), (105 : Int32), (101 : Int32), (98 : Int32), (114 : Int32), (101 : Int32), (97 : Int32), (107 : Int32), (32 : Int32), x, (32 : Int32), (100 : Int32), (117 : Int32), (112 : Int32), (108 : Int32), (105 : Int32), (99 : Int32), (97 : Int32), (116 : Int32), (101 : Int32), (58 : Int32), (32 : Int32), c1, (32 : Int32), (114 : Int32), (101 : Int32), (103 : Int32), (105 : Int32), (115 : Int32), (116 : Int32), (101 : Int32), (114 : Int32), (101 : Int32), (100 : Int32), (32 : Int32), (97 : Int32), (115 : Int32), (32 : Int32), k1, (32 : Int32), (97 : Int32), (110 : Int32), (100 : Int32), (32 : Int32), d1, (59 : Int32), (32 : Int32), (107 : Int32), (101 : Int32), (112 : Int32), (116 : Int32), (32 : Int32)] := Sb
  refine s_aload (pc' := 101) W d_prog_2_method_4_99 rfl rfl rfl ?_
  refine s_virt (pc' := 104) W (C0 := "com/example/tiebreak/tiebreak/core/DuplicateRegistration") (w300 hw) (w301 hw) (w303 hw) (w302 hw) (w221 hw) (w304 hw) (notFace_of_selects (args := a0) (w303 hw)) (by decide) pd33 [] rfl (E1.keep Kt) (c_dr_kept l hw W.old (F1k.keep Kt nin0)) all0 rfl d_prog_2_method_4_101 2 (le rfl) (bl rfl) (bl rfl) (bl rfl) (bl rfl) rfl ?_
  rintro _ T vm _ W C70 ⟨rfl, rfl⟩
  replace M_r := M_r.mv C70
  replace M_it := M_it.mv C70
  replace M_rd := M_rd.mv C70
  replace M_aa1 := M_aa1.mv C70
  replace M_b1_8 := M_b1_8.mv C70
  have Gq := G1k.keep Kt nin0 nin0
  have nq_s1k : @Ne Nat s1k aa1 := by have := nlt G1k.lt; have := nlt G1k.ltb; omega
  have nq_u1k : @Ne Nat u1k aa1 := by have := nlt G1k.lt; have := nlt G1k.ltb; omega
  have lt71_0 := nlt P.lt
  have lt71_1 := nlt P.ltb
  have lt71_2 := nlt M_r.2.1
  have lt71_3 := nlt M_it.2.1
  have lt71_4 := nlt L_t0.lt
  have lt71_5 := nlt L_t0.ltb
  have lt71_6 := nlt RF.ltb
  have lt71_7 := nlt M_aa1.2.1
  have lt71_8 := nlt M_b1_8.2.1
  have KtS71 := Kt.1
  refine s_virt (pc' := 107) W (C0 := "java/lang/StringBuilder") (w78 hw) (w79 hw) (w81 hw) (w80 hw) (w59 hw) (w82 hw) (notFace_of_selects (args := a0) (w81 hw)) (by decide) pd32 [(.ref s1k)] rfl Sb.1 (c_sbappendG l hw W.old CS0 Sb Gq (bl rfl) nq_s1k nq_u1k nab M_aa1.1 M_b1_8.1) (allS ⟨M_aa1.2.1, M_aa1.2.2⟩ (allS ⟨M_b1_8.2.1, M_b1_8.2.2⟩ all0)) rfl d_prog_2_method_4_104 1 (le rfl) (bl rfl) (bl rfl) (bl rfl) (bl rfl) rfl ?_
  rintro _ T vm h W C72 ⟨rfl, K72, b1_9, k_b1_9, Sb, hg_b1_9, M_b1_9, nab⟩
  replace Kt := Kt.trans K72 (allS (P := fun x => _ ∨ _) (Or.inr fs_aa1) (allS (P := fun x => _ ∨ _) (Or.inr fs_b1_8) all0))
  replace P := P.keep K72 (ninS ne_pf_aa1 (ninS ne_pf_b1_8 nin0)) (ninS ne_pc_aa1 (ninS ne_pc_b1_8 nin0))
  replace M_r := M_r.mv C72
  replace M_it := M_it.mv C72
  replace L_t0 := L_t0.keep K72 (ninS ne_t0_aa1 (ninS ne_t0_b1_8 nin0)) (ninS ne_c_t0_aa1 (ninS ne_c_t0_b1_8 nin0))
  replace RF := RF.keep K72 (ninS ne_r_aa1 (ninS ne_r_b1_8 nin0)) (ninS ne_rd_aa1 (ninS ne_rd_b1_8 nin0))
  replace M_rd := M_rd.mv C72
  replace I := I.keep K72 (ninS ne_it_aa1 (ninS ne_it_b1_8 nin0))
  replace M_aa1 := M_aa1.mv C72
  replace M_b1_8 := M_b1_8.mv C72
  have ne_pf_b1_9 : @Ne Nat pf b1_9 := by rcases hg_b1_9 with q | q; rw [q]; exact ne_pf_b1_8; omega
  have ne_pc_b1_9 : @Ne Nat pc b1_9 := by rcases hg_b1_9 with q | q; rw [q]; exact ne_pc_b1_8; omega
  have ne_r_b1_9 : @Ne Nat r b1_9 := by rcases hg_b1_9 with q | q; rw [q]; exact ne_r_b1_8; omega
  have ne_it_b1_9 : @Ne Nat it b1_9 := by rcases hg_b1_9 with q | q; rw [q]; exact ne_it_b1_8; omega
  have ne_t0_b1_9 : @Ne Nat t0 b1_9 := by rcases hg_b1_9 with q | q; rw [q]; exact ne_t0_b1_8; omega
  have ne_c_t0_b1_9 : @Ne Nat c_t0 b1_9 := by rcases hg_b1_9 with q | q; rw [q]; exact ne_c_t0_b1_8; omega
  have ne_rd_b1_9 : @Ne Nat rd b1_9 := by rcases hg_b1_9 with q | q; rw [q]; exact ne_rd_b1_8; omega
  have fs_b1_9 := hg_b1_9.elim (fun q => by rw [q]; exact fs_b1_8) (fun q => Nat.le_trans KtS71 q)
  have Sb : SBd Z _ aa1 b1_9 k_b1_9 70 [(116 : Int32), (105 : Int32), (101 : Int32), (98 : Int32), (114 : Int32), (101 : Int32), (97 : Int32), (107 : Int32), (32 : Int32), x, (32 : Int32), (100 : Int32), (117 : Int32), (112 : Int32), (108 : Int32), (105 : Int32), (99 : Int32), (97 : Int32), (116 : Int32), (101 : Int32), (58 : Int32), (32 : Int32), c1, (32 : Int32), (114 : Int32), (101 : Int32), (103 : Int32), (105 : Int32), (115 : Int32), (116 : Int32), (101 : Int32), (114 : Int32), (101 : Int32), (100 : Int32), (32 : Int32), (97 : Int32), (115 : Int32), (32 : Int32), k1, (32 : Int32), (97 : Int32), (110 : Int32), (100 : Int32), (32 : Int32), d1, (59 : Int32), (32 : Int32), (107 : Int32), (101 : Int32), (112 : Int32), (116 : Int32), (32 : Int32), k1] := Sb
  have lt73_0 := nlt P.lt
  have lt73_1 := nlt P.ltb
  have lt73_2 := nlt M_r.2.1
  have lt73_3 := nlt M_it.2.1
  have lt73_4 := nlt L_t0.lt
  have lt73_5 := nlt L_t0.ltb
  have lt73_6 := nlt RF.ltb
  have lt73_7 := nlt M_aa1.2.1
  have lt73_8 := nlt Sb.ltb
  have KtS73 := Kt.1
  refine s_virt (pc' := 110) W (C0 := "java/lang/StringBuilder") (w125 hw) (w126 hw) (w128 hw) (w127 hw) (w59 hw) (w129 hw) (notFace_of_selects (args := a0) (w128 hw)) (by decide) pd33 [] rfl Sb.1 (c_sbtostring l hw W.old CS0 Sb (bt rfl)) all0 rfl d_prog_2_method_4_107 1 (le rfl) (bl rfl) (bl rfl) (bl rfl) (bl rfl) rfl ?_
  rintro _ T vm h W C74 ⟨t1, c_t1, k_t1, rfl, K74, L_t1, ht_t1, hc_t1⟩
  replace Kt := Kt.trans K74 all0
  replace P := P.keep K74 nin0 nin0
  replace M_r := M_r.mv C74
  replace M_it := M_it.mv C74
  replace L_t0 := L_t0.keep K74 nin0 nin0
  replace RF := RF.keep K74 nin0 nin0
  replace M_rd := M_rd.mv C74
  replace I := I.keep K74 nin0
  replace M_aa1 := M_aa1.mv C74
  replace Sb := Sb.keep K74 nin0 nin0
  replace M_b1_9 := M_b1_9.mv C74
  have ne_pf_t1 : @Ne Nat pf t1 := by omega
  have ne_pc_t1 : @Ne Nat pc t1 := by omega
  have ne_r_t1 : @Ne Nat r t1 := by omega
  have ne_it_t1 : @Ne Nat it t1 := by omega
  have ne_t0_t1 : @Ne Nat t0 t1 := by omega
  have ne_c_t0_t1 : @Ne Nat c_t0 t1 := by omega
  have ne_rd_t1 : @Ne Nat rd t1 := by omega
  have ne_aa1_t1 : @Ne Nat aa1 t1 := by omega
  have ne_b1_9_t1 : @Ne Nat b1_9 t1 := by omega
  have fs_t1 := Nat.le_trans KtS73 ht_t1
  have ne_pf_c_t1 : @Ne Nat pf c_t1 := by omega
  have ne_pc_c_t1 : @Ne Nat pc c_t1 := by omega
  have ne_r_c_t1 : @Ne Nat r c_t1 := by omega
  have ne_it_c_t1 : @Ne Nat it c_t1 := by omega
  have ne_t0_c_t1 : @Ne Nat t0 c_t1 := by omega
  have ne_c_t0_c_t1 : @Ne Nat c_t0 c_t1 := by omega
  have ne_rd_c_t1 : @Ne Nat rd c_t1 := by omega
  have ne_aa1_c_t1 : @Ne Nat aa1 c_t1 := by omega
  have ne_b1_9_c_t1 : @Ne Nat b1_9 c_t1 := by omega
  have fs_c_t1 := Nat.le_trans KtS73 hc_t1
  refine s_face (pc' := 115) W (C0 := "java/util/ArrayList") (w312 hw) (w233 hw) (w234 hw) (w235 hw) (w236 hw) (w237 hw) (w238 hw) (w179 hw) (w28 hw) (w239 hw) (by decide) pd37 [(.ref t1)] rfl RF.1 (c_addFS l hw W.old L_t1.1 RF ne_r_rd M_r.1 M_rd.1) (allS ⟨M_r.2.1, M_r.2.2⟩ (allS ⟨M_rd.2.1, M_rd.2.2⟩ all0)) rfl d_prog_2_method_4_110 0 (le rfl) (bl rfl) (bl rfl) (bl rfl) (bl rfl) rfl ?_
  rintro _ T vm h W C75 ⟨rfl, K75, RF⟩
  replace Kt := Kt.trans K75 (allS (P := fun x => _ ∨ _) (Or.inr fs_r) (allS (P := fun x => _ ∨ _) (Or.inr fs_rd) all0))
  replace P := P.keep K75 (ninS ne_pf_r (ninS ne_pf_rd nin0)) (ninS ne_pc_r (ninS ne_pc_rd nin0))
  replace M_r := M_r.mv C75
  replace M_it := M_it.mv C75
  replace L_t0 := L_t0.keep K75 (ninS (Ne.symm ne_r_t0) (ninS ne_t0_rd nin0)) (ninS (Ne.symm ne_r_c_t0) (ninS ne_c_t0_rd nin0))
  replace M_rd := M_rd.mv C75
  replace I := I.keep K75 (ninS (Ne.symm ne_r_it) (ninS ne_it_rd nin0))
  replace L_t1 := L_t1.keep K75 (ninS (Ne.symm ne_r_t1) (ninS (Ne.symm ne_rd_t1) nin0)) (ninS (Ne.symm ne_r_c_t1) (ninS (Ne.symm ne_rd_c_t1) nin0))
  refine s_pop (pc' := 116) W d_prog_2_method_4_115 rfl rfl ?_
  refine s_goto (pc' := 21) W d_prog_2_method_4_116 (by decide) rfl ?_
  refine s_aload (pc' := 23) W d_prog_2_method_4_21 rfl rfl rfl ?_
  have FL := F.keep Kt nin0 nin0
  refine s_face (pc' := 28) W (C0 := "java/util/ArrayList$Itr") (w197 hw) (w198 hw) (w199 hw) (w200 hw) (w201 hw) (w202 hw) (w203 hw) (w204 hw) (w183 hw) (w205 hw) (by decide) pd21 [] rfl I.1 (c_hasnext l hw W.old I FL.2.2.1) all0 rfl d_prog_2_method_4_23 0 (le rfl) (bl rfl) (bl rfl) (bl rfl) (bl rfl) rfl ?_
  rintro _ T vm _ W C76 ⟨rfl, rfl⟩
  replace M_r := M_r.mv C76
  replace M_it := M_it.mv C76
  replace M_rd := M_rd.mv C76
  rw [show (if (2 : Int32) = (2 : Int32) then (0 : Int32) else 1) = 0 from by decide]
  refine s_ifeq (pc' := 31) (pcT := 119) W d_prog_2_method_4_28 (by decide) rfl rfl (fun _ => ?_) (fun hq => absurd (by decide) hq)
  refine s_aload_n (pc' := 120) W d_prog_2_method_4_119 rfl rfl rfl ?_
  refine s_areturn W rfl rfl rfl d_prog_2_method_4_120 (bl rfl) (bl rfl) ?_
  intro vm' C'
  exact ⟨r, rd, krd, t0, c_t0, k_t0, t1, c_t1, k_t1, rfl, Kt, RF, L_t0, L_t1⟩
set_option maxRecDepth 65536 in
set_option maxHeartbeats 40000000 in
theorem ef_expected (m : MethodId) (x0 : Int32) (x1 : Int32) (x2 : Int32) (x3 : Int32) : entryFrame m #[(.int x0), (.int x1), (.int x2), (.int x3)] 5 = mkF m 0 #[.val (.int x0), .val (.int x1), .val (.int x2), .val (.int x3), .unset] [] := by first | (simp [entryFrame, mkF, argsToLocals, Value.category]; done) | rfl
set_option maxRecDepth 65536 in
set_option maxHeartbeats 40000000 in
theorem c_expected (l : Launch) {Z : State} {a0 : Array Value} (hw : Hw Z a0) {n0 : Nat} {h : Heap} (O : Old Z n0 h) (CS0 : CS Z) {x c k d : Int32} (hx : L1 x) (hc : L1 c) (hk : L1 k) (hd : L1 d) :
    Con l Z EL1 n0 (⟨"com/example/tiebreak/tiebreak/core/ChainReportDuplicateLinesPinLaw", "expected", "(CCCC)Ljava/lang/String;"⟩ : MethodName) method_2_code 5 (some (.object "java/lang/String")) [] ({ frames := 4, cells := 3, slots := 110, locals := 66 } : Room) #[(.int x), (.int c), (.int k), (.int d)] h [] (fun v vm' h' => ∃ s b kb, v = some (.ref s) ∧ Keep h h' [] ∧ LatB Z h' s b kb [(116 : Int32), (105 : Int32), (101 : Int32), (98 : Int32), (114 : Int32), (101 : Int32), (97 : Int32), (107 : Int32), (32 : Int32), x, (32 : Int32), (100 : Int32), (117 : Int32), (112 : Int32), (108 : Int32), (105 : Int32), (99 : Int32), (97 : Int32), (116 : Int32), (101 : Int32), (58 : Int32), (32 : Int32), c, (32 : Int32), (114 : Int32), (101 : Int32), (103 : Int32), (105 : Int32), (115 : Int32), (116 : Int32), (101 : Int32), (114 : Int32), (101 : Int32), (100 : Int32), (32 : Int32), (97 : Int32), (115 : Int32), (32 : Int32), k, (32 : Int32), (97 : Int32), (110 : Int32), (100 : Int32), (32 : Int32), d, (59 : Int32), (32 : Int32), (107 : Int32), (101 : Int32), (112 : Int32), (116 : Int32), (32 : Int32), k] ∧ h.size ≤ s) := by
  refine Con.of pn59 O (el hw) ?_
  intro pg_ e s m below meth cd_ T W hs_ hSf
  rw [ef_expected]
  have Kt := Keep.refl h []
  refine s_bipush (pc' := 2) W (53 : Int32) d_method_2_0 rfl rfl ?_
  refine s_newarr (pc' := 4) W (aty := .char) 53 "[C" (by decide) (w318 hw) d_method_2_2 (by decide) (by decide) (by decide) (bl rfl) (bl rfl) rfl ?_
  intro r T h k_r g_r
  have fs_r := Nat.le_trans Kt.1 (Nat.le_of_eq g_r.symm)
  intro W K1 C1 M_r V_r X_r
  replace Kt := Kt.trans K1 all0
  have V_r : Arv Z _ r k_r .char (53 : Int32) [.int 0, .int 0, .int 0, .int 0, .int 0, .int 0, .int 0, .int 0, .int 0, .int 0, .int 0, .int 0, .int 0, .int 0, .int 0, .int 0, .int 0, .int 0, .int 0, .int 0, .int 0, .int 0, .int 0, .int 0, .int 0, .int 0, .int 0, .int 0, .int 0, .int 0, .int 0, .int 0, .int 0, .int 0, .int 0, .int 0, .int 0, .int 0, .int 0, .int 0, .int 0, .int 0, .int 0, .int 0, .int 0, .int 0, .int 0, .int 0, .int 0, .int 0, .int 0, .int 0, .int 0] (.int 0) := V_r
  refine s_dup (pc' := 5) W d_method_2_4 rfl rfl ?_
  refine s_iconst (pc' := 6) W (0 : Int32) d_method_2_5 rfl rfl ?_
  refine s_bipush (pc' := 8) W (116 : Int32) d_method_2_6 rfl rfl ?_
  refine s_castore (pc' := 9) W 0 V_r M_r rfl (by decide) (by decide) (bt rfl) d_method_2_8 rfl ?_
  intro T h W K2 C2 Vn2
  replace Kt := Kt.trans K2 (allS (P := fun x => _ ∨ _) (Or.inr fs_r) all0)
  replace M_r := M_r.mv C2
  replace X_r := X_r.keep K2
  have V_r := Vn2
  clear Vn2
  rw [show nar .char (116 : Int32) = 116 from by decide] at V_r
  have V_r : Arv Z _ r k_r .char (53 : Int32) [.int 116, .int 0, .int 0, .int 0, .int 0, .int 0, .int 0, .int 0, .int 0, .int 0, .int 0, .int 0, .int 0, .int 0, .int 0, .int 0, .int 0, .int 0, .int 0, .int 0, .int 0, .int 0, .int 0, .int 0, .int 0, .int 0, .int 0, .int 0, .int 0, .int 0, .int 0, .int 0, .int 0, .int 0, .int 0, .int 0, .int 0, .int 0, .int 0, .int 0, .int 0, .int 0, .int 0, .int 0, .int 0, .int 0, .int 0, .int 0, .int 0, .int 0, .int 0, .int 0, .int 0] (.int 0) := V_r
  refine s_dup (pc' := 10) W d_method_2_9 rfl rfl ?_
  refine s_iconst (pc' := 11) W (1 : Int32) d_method_2_10 rfl rfl ?_
  refine s_bipush (pc' := 13) W (105 : Int32) d_method_2_11 rfl rfl ?_
  refine s_castore (pc' := 14) W 1 V_r M_r rfl (by decide) (by decide) (bt rfl) d_method_2_13 rfl ?_
  intro T h W K3 C3 Vn3
  replace Kt := Kt.trans K3 (allS (P := fun x => _ ∨ _) (Or.inr fs_r) all0)
  replace M_r := M_r.mv C3
  replace X_r := X_r.keep K3
  have V_r := Vn3
  clear Vn3
  rw [show nar .char (105 : Int32) = 105 from by decide] at V_r
  have V_r : Arv Z _ r k_r .char (53 : Int32) [.int 116, .int 105, .int 0, .int 0, .int 0, .int 0, .int 0, .int 0, .int 0, .int 0, .int 0, .int 0, .int 0, .int 0, .int 0, .int 0, .int 0, .int 0, .int 0, .int 0, .int 0, .int 0, .int 0, .int 0, .int 0, .int 0, .int 0, .int 0, .int 0, .int 0, .int 0, .int 0, .int 0, .int 0, .int 0, .int 0, .int 0, .int 0, .int 0, .int 0, .int 0, .int 0, .int 0, .int 0, .int 0, .int 0, .int 0, .int 0, .int 0, .int 0, .int 0, .int 0, .int 0] (.int 0) := V_r
  refine s_dup (pc' := 15) W d_method_2_14 rfl rfl ?_
  refine s_iconst (pc' := 16) W (2 : Int32) d_method_2_15 rfl rfl ?_
  refine s_bipush (pc' := 18) W (101 : Int32) d_method_2_16 rfl rfl ?_
  refine s_castore (pc' := 19) W 2 V_r M_r rfl (by decide) (by decide) (bt rfl) d_method_2_18 rfl ?_
  intro T h W K4 C4 Vn4
  replace Kt := Kt.trans K4 (allS (P := fun x => _ ∨ _) (Or.inr fs_r) all0)
  replace M_r := M_r.mv C4
  replace X_r := X_r.keep K4
  have V_r := Vn4
  clear Vn4
  rw [show nar .char (101 : Int32) = 101 from by decide] at V_r
  have V_r : Arv Z _ r k_r .char (53 : Int32) [.int 116, .int 105, .int 101, .int 0, .int 0, .int 0, .int 0, .int 0, .int 0, .int 0, .int 0, .int 0, .int 0, .int 0, .int 0, .int 0, .int 0, .int 0, .int 0, .int 0, .int 0, .int 0, .int 0, .int 0, .int 0, .int 0, .int 0, .int 0, .int 0, .int 0, .int 0, .int 0, .int 0, .int 0, .int 0, .int 0, .int 0, .int 0, .int 0, .int 0, .int 0, .int 0, .int 0, .int 0, .int 0, .int 0, .int 0, .int 0, .int 0, .int 0, .int 0, .int 0, .int 0] (.int 0) := V_r
  refine s_dup (pc' := 20) W d_method_2_19 rfl rfl ?_
  refine s_iconst (pc' := 21) W (3 : Int32) d_method_2_20 rfl rfl ?_
  refine s_bipush (pc' := 23) W (98 : Int32) d_method_2_21 rfl rfl ?_
  refine s_castore (pc' := 24) W 3 V_r M_r rfl (by decide) (by decide) (bt rfl) d_method_2_23 rfl ?_
  intro T h W K5 C5 Vn5
  replace Kt := Kt.trans K5 (allS (P := fun x => _ ∨ _) (Or.inr fs_r) all0)
  replace M_r := M_r.mv C5
  replace X_r := X_r.keep K5
  have V_r := Vn5
  clear Vn5
  rw [show nar .char (98 : Int32) = 98 from by decide] at V_r
  have V_r : Arv Z _ r k_r .char (53 : Int32) [.int 116, .int 105, .int 101, .int 98, .int 0, .int 0, .int 0, .int 0, .int 0, .int 0, .int 0, .int 0, .int 0, .int 0, .int 0, .int 0, .int 0, .int 0, .int 0, .int 0, .int 0, .int 0, .int 0, .int 0, .int 0, .int 0, .int 0, .int 0, .int 0, .int 0, .int 0, .int 0, .int 0, .int 0, .int 0, .int 0, .int 0, .int 0, .int 0, .int 0, .int 0, .int 0, .int 0, .int 0, .int 0, .int 0, .int 0, .int 0, .int 0, .int 0, .int 0, .int 0, .int 0] (.int 0) := V_r
  refine s_dup (pc' := 25) W d_method_2_24 rfl rfl ?_
  refine s_iconst (pc' := 26) W (4 : Int32) d_method_2_25 rfl rfl ?_
  refine s_bipush (pc' := 28) W (114 : Int32) d_method_2_26 rfl rfl ?_
  refine s_castore (pc' := 29) W 4 V_r M_r rfl (by decide) (by decide) (bt rfl) d_method_2_28 rfl ?_
  intro T h W K6 C6 Vn6
  replace Kt := Kt.trans K6 (allS (P := fun x => _ ∨ _) (Or.inr fs_r) all0)
  replace M_r := M_r.mv C6
  replace X_r := X_r.keep K6
  have V_r := Vn6
  clear Vn6
  rw [show nar .char (114 : Int32) = 114 from by decide] at V_r
  have V_r : Arv Z _ r k_r .char (53 : Int32) [.int 116, .int 105, .int 101, .int 98, .int 114, .int 0, .int 0, .int 0, .int 0, .int 0, .int 0, .int 0, .int 0, .int 0, .int 0, .int 0, .int 0, .int 0, .int 0, .int 0, .int 0, .int 0, .int 0, .int 0, .int 0, .int 0, .int 0, .int 0, .int 0, .int 0, .int 0, .int 0, .int 0, .int 0, .int 0, .int 0, .int 0, .int 0, .int 0, .int 0, .int 0, .int 0, .int 0, .int 0, .int 0, .int 0, .int 0, .int 0, .int 0, .int 0, .int 0, .int 0, .int 0] (.int 0) := V_r
  refine s_dup (pc' := 30) W d_method_2_29 rfl rfl ?_
  refine s_iconst (pc' := 31) W (5 : Int32) d_method_2_30 rfl rfl ?_
  refine s_bipush (pc' := 33) W (101 : Int32) d_method_2_31 rfl rfl ?_
  refine s_castore (pc' := 34) W 5 V_r M_r rfl (by decide) (by decide) (bt rfl) d_method_2_33 rfl ?_
  intro T h W K7 C7 Vn7
  replace Kt := Kt.trans K7 (allS (P := fun x => _ ∨ _) (Or.inr fs_r) all0)
  replace M_r := M_r.mv C7
  replace X_r := X_r.keep K7
  have V_r := Vn7
  clear Vn7
  rw [show nar .char (101 : Int32) = 101 from by decide] at V_r
  have V_r : Arv Z _ r k_r .char (53 : Int32) [.int 116, .int 105, .int 101, .int 98, .int 114, .int 101, .int 0, .int 0, .int 0, .int 0, .int 0, .int 0, .int 0, .int 0, .int 0, .int 0, .int 0, .int 0, .int 0, .int 0, .int 0, .int 0, .int 0, .int 0, .int 0, .int 0, .int 0, .int 0, .int 0, .int 0, .int 0, .int 0, .int 0, .int 0, .int 0, .int 0, .int 0, .int 0, .int 0, .int 0, .int 0, .int 0, .int 0, .int 0, .int 0, .int 0, .int 0, .int 0, .int 0, .int 0, .int 0, .int 0, .int 0] (.int 0) := V_r
  refine s_dup (pc' := 35) W d_method_2_34 rfl rfl ?_
  refine s_bipush (pc' := 37) W (6 : Int32) d_method_2_35 rfl rfl ?_
  refine s_bipush (pc' := 39) W (97 : Int32) d_method_2_37 rfl rfl ?_
  refine s_castore (pc' := 40) W 6 V_r M_r rfl (by decide) (by decide) (bt rfl) d_method_2_39 rfl ?_
  intro T h W K8 C8 Vn8
  replace Kt := Kt.trans K8 (allS (P := fun x => _ ∨ _) (Or.inr fs_r) all0)
  replace M_r := M_r.mv C8
  replace X_r := X_r.keep K8
  have V_r := Vn8
  clear Vn8
  rw [show nar .char (97 : Int32) = 97 from by decide] at V_r
  have V_r : Arv Z _ r k_r .char (53 : Int32) [.int 116, .int 105, .int 101, .int 98, .int 114, .int 101, .int 97, .int 0, .int 0, .int 0, .int 0, .int 0, .int 0, .int 0, .int 0, .int 0, .int 0, .int 0, .int 0, .int 0, .int 0, .int 0, .int 0, .int 0, .int 0, .int 0, .int 0, .int 0, .int 0, .int 0, .int 0, .int 0, .int 0, .int 0, .int 0, .int 0, .int 0, .int 0, .int 0, .int 0, .int 0, .int 0, .int 0, .int 0, .int 0, .int 0, .int 0, .int 0, .int 0, .int 0, .int 0, .int 0, .int 0] (.int 0) := V_r
  refine s_dup (pc' := 41) W d_method_2_40 rfl rfl ?_
  refine s_bipush (pc' := 43) W (7 : Int32) d_method_2_41 rfl rfl ?_
  refine s_bipush (pc' := 45) W (107 : Int32) d_method_2_43 rfl rfl ?_
  refine s_castore (pc' := 46) W 7 V_r M_r rfl (by decide) (by decide) (bt rfl) d_method_2_45 rfl ?_
  intro T h W K9 C9 Vn9
  replace Kt := Kt.trans K9 (allS (P := fun x => _ ∨ _) (Or.inr fs_r) all0)
  replace M_r := M_r.mv C9
  replace X_r := X_r.keep K9
  have V_r := Vn9
  clear Vn9
  rw [show nar .char (107 : Int32) = 107 from by decide] at V_r
  have V_r : Arv Z _ r k_r .char (53 : Int32) [.int 116, .int 105, .int 101, .int 98, .int 114, .int 101, .int 97, .int 107, .int 0, .int 0, .int 0, .int 0, .int 0, .int 0, .int 0, .int 0, .int 0, .int 0, .int 0, .int 0, .int 0, .int 0, .int 0, .int 0, .int 0, .int 0, .int 0, .int 0, .int 0, .int 0, .int 0, .int 0, .int 0, .int 0, .int 0, .int 0, .int 0, .int 0, .int 0, .int 0, .int 0, .int 0, .int 0, .int 0, .int 0, .int 0, .int 0, .int 0, .int 0, .int 0, .int 0, .int 0, .int 0] (.int 0) := V_r
  refine s_dup (pc' := 47) W d_method_2_46 rfl rfl ?_
  refine s_bipush (pc' := 49) W (8 : Int32) d_method_2_47 rfl rfl ?_
  refine s_bipush (pc' := 51) W (32 : Int32) d_method_2_49 rfl rfl ?_
  refine s_castore (pc' := 52) W 8 V_r M_r rfl (by decide) (by decide) (bt rfl) d_method_2_51 rfl ?_
  intro T h W K10 C10 Vn10
  replace Kt := Kt.trans K10 (allS (P := fun x => _ ∨ _) (Or.inr fs_r) all0)
  replace M_r := M_r.mv C10
  replace X_r := X_r.keep K10
  have V_r := Vn10
  clear Vn10
  rw [show nar .char (32 : Int32) = 32 from by decide] at V_r
  have V_r : Arv Z _ r k_r .char (53 : Int32) [.int 116, .int 105, .int 101, .int 98, .int 114, .int 101, .int 97, .int 107, .int 32, .int 0, .int 0, .int 0, .int 0, .int 0, .int 0, .int 0, .int 0, .int 0, .int 0, .int 0, .int 0, .int 0, .int 0, .int 0, .int 0, .int 0, .int 0, .int 0, .int 0, .int 0, .int 0, .int 0, .int 0, .int 0, .int 0, .int 0, .int 0, .int 0, .int 0, .int 0, .int 0, .int 0, .int 0, .int 0, .int 0, .int 0, .int 0, .int 0, .int 0, .int 0, .int 0, .int 0, .int 0] (.int 0) := V_r
  refine s_dup (pc' := 53) W d_method_2_52 rfl rfl ?_
  refine s_bipush (pc' := 55) W (9 : Int32) d_method_2_53 rfl rfl ?_
  refine s_iload_n (pc' := 56) W d_method_2_55 rfl rfl ?_
  refine s_castore (pc' := 57) W 9 V_r M_r rfl (by decide) (by decide) (bt rfl) d_method_2_56 rfl ?_
  intro T h W K11 C11 Vn11
  replace Kt := Kt.trans K11 (allS (P := fun x => _ ∨ _) (Or.inr fs_r) all0)
  replace M_r := M_r.mv C11
  replace X_r := X_r.keep K11
  have V_r := Vn11
  clear Vn11
  rw [hx.nar] at V_r
  have V_r : Arv Z _ r k_r .char (53 : Int32) [.int 116, .int 105, .int 101, .int 98, .int 114, .int 101, .int 97, .int 107, .int 32, .int x, .int 0, .int 0, .int 0, .int 0, .int 0, .int 0, .int 0, .int 0, .int 0, .int 0, .int 0, .int 0, .int 0, .int 0, .int 0, .int 0, .int 0, .int 0, .int 0, .int 0, .int 0, .int 0, .int 0, .int 0, .int 0, .int 0, .int 0, .int 0, .int 0, .int 0, .int 0, .int 0, .int 0, .int 0, .int 0, .int 0, .int 0, .int 0, .int 0, .int 0, .int 0, .int 0, .int 0] (.int 0) := V_r
  refine s_dup (pc' := 58) W d_method_2_57 rfl rfl ?_
  refine s_bipush (pc' := 60) W (10 : Int32) d_method_2_58 rfl rfl ?_
  refine s_bipush (pc' := 62) W (32 : Int32) d_method_2_60 rfl rfl ?_
  refine s_castore (pc' := 63) W 10 V_r M_r rfl (by decide) (by decide) (bt rfl) d_method_2_62 rfl ?_
  intro T h W K12 C12 Vn12
  replace Kt := Kt.trans K12 (allS (P := fun x => _ ∨ _) (Or.inr fs_r) all0)
  replace M_r := M_r.mv C12
  replace X_r := X_r.keep K12
  have V_r := Vn12
  clear Vn12
  rw [show nar .char (32 : Int32) = 32 from by decide] at V_r
  have V_r : Arv Z _ r k_r .char (53 : Int32) [.int 116, .int 105, .int 101, .int 98, .int 114, .int 101, .int 97, .int 107, .int 32, .int x, .int 32, .int 0, .int 0, .int 0, .int 0, .int 0, .int 0, .int 0, .int 0, .int 0, .int 0, .int 0, .int 0, .int 0, .int 0, .int 0, .int 0, .int 0, .int 0, .int 0, .int 0, .int 0, .int 0, .int 0, .int 0, .int 0, .int 0, .int 0, .int 0, .int 0, .int 0, .int 0, .int 0, .int 0, .int 0, .int 0, .int 0, .int 0, .int 0, .int 0, .int 0, .int 0, .int 0] (.int 0) := V_r
  refine s_dup (pc' := 64) W d_method_2_63 rfl rfl ?_
  refine s_bipush (pc' := 66) W (11 : Int32) d_method_2_64 rfl rfl ?_
  refine s_bipush (pc' := 68) W (100 : Int32) d_method_2_66 rfl rfl ?_
  refine s_castore (pc' := 69) W 11 V_r M_r rfl (by decide) (by decide) (bt rfl) d_method_2_68 rfl ?_
  intro T h W K13 C13 Vn13
  replace Kt := Kt.trans K13 (allS (P := fun x => _ ∨ _) (Or.inr fs_r) all0)
  replace M_r := M_r.mv C13
  replace X_r := X_r.keep K13
  have V_r := Vn13
  clear Vn13
  rw [show nar .char (100 : Int32) = 100 from by decide] at V_r
  have V_r : Arv Z _ r k_r .char (53 : Int32) [.int 116, .int 105, .int 101, .int 98, .int 114, .int 101, .int 97, .int 107, .int 32, .int x, .int 32, .int 100, .int 0, .int 0, .int 0, .int 0, .int 0, .int 0, .int 0, .int 0, .int 0, .int 0, .int 0, .int 0, .int 0, .int 0, .int 0, .int 0, .int 0, .int 0, .int 0, .int 0, .int 0, .int 0, .int 0, .int 0, .int 0, .int 0, .int 0, .int 0, .int 0, .int 0, .int 0, .int 0, .int 0, .int 0, .int 0, .int 0, .int 0, .int 0, .int 0, .int 0, .int 0] (.int 0) := V_r
  refine s_dup (pc' := 70) W d_method_2_69 rfl rfl ?_
  refine s_bipush (pc' := 72) W (12 : Int32) d_method_2_70 rfl rfl ?_
  refine s_bipush (pc' := 74) W (117 : Int32) d_method_2_72 rfl rfl ?_
  refine s_castore (pc' := 75) W 12 V_r M_r rfl (by decide) (by decide) (bt rfl) d_method_2_74 rfl ?_
  intro T h W K14 C14 Vn14
  replace Kt := Kt.trans K14 (allS (P := fun x => _ ∨ _) (Or.inr fs_r) all0)
  replace M_r := M_r.mv C14
  replace X_r := X_r.keep K14
  have V_r := Vn14
  clear Vn14
  rw [show nar .char (117 : Int32) = 117 from by decide] at V_r
  have V_r : Arv Z _ r k_r .char (53 : Int32) [.int 116, .int 105, .int 101, .int 98, .int 114, .int 101, .int 97, .int 107, .int 32, .int x, .int 32, .int 100, .int 117, .int 0, .int 0, .int 0, .int 0, .int 0, .int 0, .int 0, .int 0, .int 0, .int 0, .int 0, .int 0, .int 0, .int 0, .int 0, .int 0, .int 0, .int 0, .int 0, .int 0, .int 0, .int 0, .int 0, .int 0, .int 0, .int 0, .int 0, .int 0, .int 0, .int 0, .int 0, .int 0, .int 0, .int 0, .int 0, .int 0, .int 0, .int 0, .int 0, .int 0] (.int 0) := V_r
  refine s_dup (pc' := 76) W d_method_2_75 rfl rfl ?_
  refine s_bipush (pc' := 78) W (13 : Int32) d_method_2_76 rfl rfl ?_
  refine s_bipush (pc' := 80) W (112 : Int32) d_method_2_78 rfl rfl ?_
  refine s_castore (pc' := 81) W 13 V_r M_r rfl (by decide) (by decide) (bt rfl) d_method_2_80 rfl ?_
  intro T h W K15 C15 Vn15
  replace Kt := Kt.trans K15 (allS (P := fun x => _ ∨ _) (Or.inr fs_r) all0)
  replace M_r := M_r.mv C15
  replace X_r := X_r.keep K15
  have V_r := Vn15
  clear Vn15
  rw [show nar .char (112 : Int32) = 112 from by decide] at V_r
  have V_r : Arv Z _ r k_r .char (53 : Int32) [.int 116, .int 105, .int 101, .int 98, .int 114, .int 101, .int 97, .int 107, .int 32, .int x, .int 32, .int 100, .int 117, .int 112, .int 0, .int 0, .int 0, .int 0, .int 0, .int 0, .int 0, .int 0, .int 0, .int 0, .int 0, .int 0, .int 0, .int 0, .int 0, .int 0, .int 0, .int 0, .int 0, .int 0, .int 0, .int 0, .int 0, .int 0, .int 0, .int 0, .int 0, .int 0, .int 0, .int 0, .int 0, .int 0, .int 0, .int 0, .int 0, .int 0, .int 0, .int 0, .int 0] (.int 0) := V_r
  refine s_dup (pc' := 82) W d_method_2_81 rfl rfl ?_
  refine s_bipush (pc' := 84) W (14 : Int32) d_method_2_82 rfl rfl ?_
  refine s_bipush (pc' := 86) W (108 : Int32) d_method_2_84 rfl rfl ?_
  refine s_castore (pc' := 87) W 14 V_r M_r rfl (by decide) (by decide) (bt rfl) d_method_2_86 rfl ?_
  intro T h W K16 C16 Vn16
  replace Kt := Kt.trans K16 (allS (P := fun x => _ ∨ _) (Or.inr fs_r) all0)
  replace M_r := M_r.mv C16
  replace X_r := X_r.keep K16
  have V_r := Vn16
  clear Vn16
  rw [show nar .char (108 : Int32) = 108 from by decide] at V_r
  have V_r : Arv Z _ r k_r .char (53 : Int32) [.int 116, .int 105, .int 101, .int 98, .int 114, .int 101, .int 97, .int 107, .int 32, .int x, .int 32, .int 100, .int 117, .int 112, .int 108, .int 0, .int 0, .int 0, .int 0, .int 0, .int 0, .int 0, .int 0, .int 0, .int 0, .int 0, .int 0, .int 0, .int 0, .int 0, .int 0, .int 0, .int 0, .int 0, .int 0, .int 0, .int 0, .int 0, .int 0, .int 0, .int 0, .int 0, .int 0, .int 0, .int 0, .int 0, .int 0, .int 0, .int 0, .int 0, .int 0, .int 0, .int 0] (.int 0) := V_r
  refine s_dup (pc' := 88) W d_method_2_87 rfl rfl ?_
  refine s_bipush (pc' := 90) W (15 : Int32) d_method_2_88 rfl rfl ?_
  refine s_bipush (pc' := 92) W (105 : Int32) d_method_2_90 rfl rfl ?_
  refine s_castore (pc' := 93) W 15 V_r M_r rfl (by decide) (by decide) (bt rfl) d_method_2_92 rfl ?_
  intro T h W K17 C17 Vn17
  replace Kt := Kt.trans K17 (allS (P := fun x => _ ∨ _) (Or.inr fs_r) all0)
  replace M_r := M_r.mv C17
  replace X_r := X_r.keep K17
  have V_r := Vn17
  clear Vn17
  rw [show nar .char (105 : Int32) = 105 from by decide] at V_r
  have V_r : Arv Z _ r k_r .char (53 : Int32) [.int 116, .int 105, .int 101, .int 98, .int 114, .int 101, .int 97, .int 107, .int 32, .int x, .int 32, .int 100, .int 117, .int 112, .int 108, .int 105, .int 0, .int 0, .int 0, .int 0, .int 0, .int 0, .int 0, .int 0, .int 0, .int 0, .int 0, .int 0, .int 0, .int 0, .int 0, .int 0, .int 0, .int 0, .int 0, .int 0, .int 0, .int 0, .int 0, .int 0, .int 0, .int 0, .int 0, .int 0, .int 0, .int 0, .int 0, .int 0, .int 0, .int 0, .int 0, .int 0, .int 0] (.int 0) := V_r
  refine s_dup (pc' := 94) W d_method_2_93 rfl rfl ?_
  refine s_bipush (pc' := 96) W (16 : Int32) d_method_2_94 rfl rfl ?_
  refine s_bipush (pc' := 98) W (99 : Int32) d_method_2_96 rfl rfl ?_
  refine s_castore (pc' := 99) W 16 V_r M_r rfl (by decide) (by decide) (bt rfl) d_method_2_98 rfl ?_
  intro T h W K18 C18 Vn18
  replace Kt := Kt.trans K18 (allS (P := fun x => _ ∨ _) (Or.inr fs_r) all0)
  replace M_r := M_r.mv C18
  replace X_r := X_r.keep K18
  have V_r := Vn18
  clear Vn18
  rw [show nar .char (99 : Int32) = 99 from by decide] at V_r
  have V_r : Arv Z _ r k_r .char (53 : Int32) [.int 116, .int 105, .int 101, .int 98, .int 114, .int 101, .int 97, .int 107, .int 32, .int x, .int 32, .int 100, .int 117, .int 112, .int 108, .int 105, .int 99, .int 0, .int 0, .int 0, .int 0, .int 0, .int 0, .int 0, .int 0, .int 0, .int 0, .int 0, .int 0, .int 0, .int 0, .int 0, .int 0, .int 0, .int 0, .int 0, .int 0, .int 0, .int 0, .int 0, .int 0, .int 0, .int 0, .int 0, .int 0, .int 0, .int 0, .int 0, .int 0, .int 0, .int 0, .int 0, .int 0] (.int 0) := V_r
  refine s_dup (pc' := 100) W d_method_2_99 rfl rfl ?_
  refine s_bipush (pc' := 102) W (17 : Int32) d_method_2_100 rfl rfl ?_
  refine s_bipush (pc' := 104) W (97 : Int32) d_method_2_102 rfl rfl ?_
  refine s_castore (pc' := 105) W 17 V_r M_r rfl (by decide) (by decide) (bt rfl) d_method_2_104 rfl ?_
  intro T h W K19 C19 Vn19
  replace Kt := Kt.trans K19 (allS (P := fun x => _ ∨ _) (Or.inr fs_r) all0)
  replace M_r := M_r.mv C19
  replace X_r := X_r.keep K19
  have V_r := Vn19
  clear Vn19
  rw [show nar .char (97 : Int32) = 97 from by decide] at V_r
  have V_r : Arv Z _ r k_r .char (53 : Int32) [.int 116, .int 105, .int 101, .int 98, .int 114, .int 101, .int 97, .int 107, .int 32, .int x, .int 32, .int 100, .int 117, .int 112, .int 108, .int 105, .int 99, .int 97, .int 0, .int 0, .int 0, .int 0, .int 0, .int 0, .int 0, .int 0, .int 0, .int 0, .int 0, .int 0, .int 0, .int 0, .int 0, .int 0, .int 0, .int 0, .int 0, .int 0, .int 0, .int 0, .int 0, .int 0, .int 0, .int 0, .int 0, .int 0, .int 0, .int 0, .int 0, .int 0, .int 0, .int 0, .int 0] (.int 0) := V_r
  refine s_dup (pc' := 106) W d_method_2_105 rfl rfl ?_
  refine s_bipush (pc' := 108) W (18 : Int32) d_method_2_106 rfl rfl ?_
  refine s_bipush (pc' := 110) W (116 : Int32) d_method_2_108 rfl rfl ?_
  refine s_castore (pc' := 111) W 18 V_r M_r rfl (by decide) (by decide) (bt rfl) d_method_2_110 rfl ?_
  intro T h W K20 C20 Vn20
  replace Kt := Kt.trans K20 (allS (P := fun x => _ ∨ _) (Or.inr fs_r) all0)
  replace M_r := M_r.mv C20
  replace X_r := X_r.keep K20
  have V_r := Vn20
  clear Vn20
  rw [show nar .char (116 : Int32) = 116 from by decide] at V_r
  have V_r : Arv Z _ r k_r .char (53 : Int32) [.int 116, .int 105, .int 101, .int 98, .int 114, .int 101, .int 97, .int 107, .int 32, .int x, .int 32, .int 100, .int 117, .int 112, .int 108, .int 105, .int 99, .int 97, .int 116, .int 0, .int 0, .int 0, .int 0, .int 0, .int 0, .int 0, .int 0, .int 0, .int 0, .int 0, .int 0, .int 0, .int 0, .int 0, .int 0, .int 0, .int 0, .int 0, .int 0, .int 0, .int 0, .int 0, .int 0, .int 0, .int 0, .int 0, .int 0, .int 0, .int 0, .int 0, .int 0, .int 0, .int 0] (.int 0) := V_r
  refine s_dup (pc' := 112) W d_method_2_111 rfl rfl ?_
  refine s_bipush (pc' := 114) W (19 : Int32) d_method_2_112 rfl rfl ?_
  refine s_bipush (pc' := 116) W (101 : Int32) d_method_2_114 rfl rfl ?_
  refine s_castore (pc' := 117) W 19 V_r M_r rfl (by decide) (by decide) (bt rfl) d_method_2_116 rfl ?_
  intro T h W K21 C21 Vn21
  replace Kt := Kt.trans K21 (allS (P := fun x => _ ∨ _) (Or.inr fs_r) all0)
  replace M_r := M_r.mv C21
  replace X_r := X_r.keep K21
  have V_r := Vn21
  clear Vn21
  rw [show nar .char (101 : Int32) = 101 from by decide] at V_r
  have V_r : Arv Z _ r k_r .char (53 : Int32) [.int 116, .int 105, .int 101, .int 98, .int 114, .int 101, .int 97, .int 107, .int 32, .int x, .int 32, .int 100, .int 117, .int 112, .int 108, .int 105, .int 99, .int 97, .int 116, .int 101, .int 0, .int 0, .int 0, .int 0, .int 0, .int 0, .int 0, .int 0, .int 0, .int 0, .int 0, .int 0, .int 0, .int 0, .int 0, .int 0, .int 0, .int 0, .int 0, .int 0, .int 0, .int 0, .int 0, .int 0, .int 0, .int 0, .int 0, .int 0, .int 0, .int 0, .int 0, .int 0, .int 0] (.int 0) := V_r
  refine s_dup (pc' := 118) W d_method_2_117 rfl rfl ?_
  refine s_bipush (pc' := 120) W (20 : Int32) d_method_2_118 rfl rfl ?_
  refine s_bipush (pc' := 122) W (58 : Int32) d_method_2_120 rfl rfl ?_
  refine s_castore (pc' := 123) W 20 V_r M_r rfl (by decide) (by decide) (bt rfl) d_method_2_122 rfl ?_
  intro T h W K22 C22 Vn22
  replace Kt := Kt.trans K22 (allS (P := fun x => _ ∨ _) (Or.inr fs_r) all0)
  replace M_r := M_r.mv C22
  replace X_r := X_r.keep K22
  have V_r := Vn22
  clear Vn22
  rw [show nar .char (58 : Int32) = 58 from by decide] at V_r
  have V_r : Arv Z _ r k_r .char (53 : Int32) [.int 116, .int 105, .int 101, .int 98, .int 114, .int 101, .int 97, .int 107, .int 32, .int x, .int 32, .int 100, .int 117, .int 112, .int 108, .int 105, .int 99, .int 97, .int 116, .int 101, .int 58, .int 0, .int 0, .int 0, .int 0, .int 0, .int 0, .int 0, .int 0, .int 0, .int 0, .int 0, .int 0, .int 0, .int 0, .int 0, .int 0, .int 0, .int 0, .int 0, .int 0, .int 0, .int 0, .int 0, .int 0, .int 0, .int 0, .int 0, .int 0, .int 0, .int 0, .int 0, .int 0] (.int 0) := V_r
  refine s_dup (pc' := 124) W d_method_2_123 rfl rfl ?_
  refine s_bipush (pc' := 126) W (21 : Int32) d_method_2_124 rfl rfl ?_
  refine s_bipush (pc' := 128) W (32 : Int32) d_method_2_126 rfl rfl ?_
  refine s_castore (pc' := 129) W 21 V_r M_r rfl (by decide) (by decide) (bt rfl) d_method_2_128 rfl ?_
  intro T h W K23 C23 Vn23
  replace Kt := Kt.trans K23 (allS (P := fun x => _ ∨ _) (Or.inr fs_r) all0)
  replace M_r := M_r.mv C23
  replace X_r := X_r.keep K23
  have V_r := Vn23
  clear Vn23
  rw [show nar .char (32 : Int32) = 32 from by decide] at V_r
  have V_r : Arv Z _ r k_r .char (53 : Int32) [.int 116, .int 105, .int 101, .int 98, .int 114, .int 101, .int 97, .int 107, .int 32, .int x, .int 32, .int 100, .int 117, .int 112, .int 108, .int 105, .int 99, .int 97, .int 116, .int 101, .int 58, .int 32, .int 0, .int 0, .int 0, .int 0, .int 0, .int 0, .int 0, .int 0, .int 0, .int 0, .int 0, .int 0, .int 0, .int 0, .int 0, .int 0, .int 0, .int 0, .int 0, .int 0, .int 0, .int 0, .int 0, .int 0, .int 0, .int 0, .int 0, .int 0, .int 0, .int 0, .int 0] (.int 0) := V_r
  refine s_dup (pc' := 130) W d_method_2_129 rfl rfl ?_
  refine s_bipush (pc' := 132) W (22 : Int32) d_method_2_130 rfl rfl ?_
  refine s_iload_n (pc' := 133) W d_method_2_132 rfl rfl ?_
  refine s_castore (pc' := 134) W 22 V_r M_r rfl (by decide) (by decide) (bt rfl) d_method_2_133 rfl ?_
  intro T h W K24 C24 Vn24
  replace Kt := Kt.trans K24 (allS (P := fun x => _ ∨ _) (Or.inr fs_r) all0)
  replace M_r := M_r.mv C24
  replace X_r := X_r.keep K24
  have V_r := Vn24
  clear Vn24
  rw [hc.nar] at V_r
  have V_r : Arv Z _ r k_r .char (53 : Int32) [.int 116, .int 105, .int 101, .int 98, .int 114, .int 101, .int 97, .int 107, .int 32, .int x, .int 32, .int 100, .int 117, .int 112, .int 108, .int 105, .int 99, .int 97, .int 116, .int 101, .int 58, .int 32, .int c, .int 0, .int 0, .int 0, .int 0, .int 0, .int 0, .int 0, .int 0, .int 0, .int 0, .int 0, .int 0, .int 0, .int 0, .int 0, .int 0, .int 0, .int 0, .int 0, .int 0, .int 0, .int 0, .int 0, .int 0, .int 0, .int 0, .int 0, .int 0, .int 0, .int 0] (.int 0) := V_r
  refine s_dup (pc' := 135) W d_method_2_134 rfl rfl ?_
  refine s_bipush (pc' := 137) W (23 : Int32) d_method_2_135 rfl rfl ?_
  refine s_bipush (pc' := 139) W (32 : Int32) d_method_2_137 rfl rfl ?_
  refine s_castore (pc' := 140) W 23 V_r M_r rfl (by decide) (by decide) (bt rfl) d_method_2_139 rfl ?_
  intro T h W K25 C25 Vn25
  replace Kt := Kt.trans K25 (allS (P := fun x => _ ∨ _) (Or.inr fs_r) all0)
  replace M_r := M_r.mv C25
  replace X_r := X_r.keep K25
  have V_r := Vn25
  clear Vn25
  rw [show nar .char (32 : Int32) = 32 from by decide] at V_r
  have V_r : Arv Z _ r k_r .char (53 : Int32) [.int 116, .int 105, .int 101, .int 98, .int 114, .int 101, .int 97, .int 107, .int 32, .int x, .int 32, .int 100, .int 117, .int 112, .int 108, .int 105, .int 99, .int 97, .int 116, .int 101, .int 58, .int 32, .int c, .int 32, .int 0, .int 0, .int 0, .int 0, .int 0, .int 0, .int 0, .int 0, .int 0, .int 0, .int 0, .int 0, .int 0, .int 0, .int 0, .int 0, .int 0, .int 0, .int 0, .int 0, .int 0, .int 0, .int 0, .int 0, .int 0, .int 0, .int 0, .int 0, .int 0] (.int 0) := V_r
  refine s_dup (pc' := 141) W d_method_2_140 rfl rfl ?_
  refine s_bipush (pc' := 143) W (24 : Int32) d_method_2_141 rfl rfl ?_
  refine s_bipush (pc' := 145) W (114 : Int32) d_method_2_143 rfl rfl ?_
  refine s_castore (pc' := 146) W 24 V_r M_r rfl (by decide) (by decide) (bt rfl) d_method_2_145 rfl ?_
  intro T h W K26 C26 Vn26
  replace Kt := Kt.trans K26 (allS (P := fun x => _ ∨ _) (Or.inr fs_r) all0)
  replace M_r := M_r.mv C26
  replace X_r := X_r.keep K26
  have V_r := Vn26
  clear Vn26
  rw [show nar .char (114 : Int32) = 114 from by decide] at V_r
  have V_r : Arv Z _ r k_r .char (53 : Int32) [.int 116, .int 105, .int 101, .int 98, .int 114, .int 101, .int 97, .int 107, .int 32, .int x, .int 32, .int 100, .int 117, .int 112, .int 108, .int 105, .int 99, .int 97, .int 116, .int 101, .int 58, .int 32, .int c, .int 32, .int 114, .int 0, .int 0, .int 0, .int 0, .int 0, .int 0, .int 0, .int 0, .int 0, .int 0, .int 0, .int 0, .int 0, .int 0, .int 0, .int 0, .int 0, .int 0, .int 0, .int 0, .int 0, .int 0, .int 0, .int 0, .int 0, .int 0, .int 0, .int 0] (.int 0) := V_r
  refine s_dup (pc' := 147) W d_method_2_146 rfl rfl ?_
  refine s_bipush (pc' := 149) W (25 : Int32) d_method_2_147 rfl rfl ?_
  refine s_bipush (pc' := 151) W (101 : Int32) d_method_2_149 rfl rfl ?_
  refine s_castore (pc' := 152) W 25 V_r M_r rfl (by decide) (by decide) (bt rfl) d_method_2_151 rfl ?_
  intro T h W K27 C27 Vn27
  replace Kt := Kt.trans K27 (allS (P := fun x => _ ∨ _) (Or.inr fs_r) all0)
  replace M_r := M_r.mv C27
  replace X_r := X_r.keep K27
  have V_r := Vn27
  clear Vn27
  rw [show nar .char (101 : Int32) = 101 from by decide] at V_r
  have V_r : Arv Z _ r k_r .char (53 : Int32) [.int 116, .int 105, .int 101, .int 98, .int 114, .int 101, .int 97, .int 107, .int 32, .int x, .int 32, .int 100, .int 117, .int 112, .int 108, .int 105, .int 99, .int 97, .int 116, .int 101, .int 58, .int 32, .int c, .int 32, .int 114, .int 101, .int 0, .int 0, .int 0, .int 0, .int 0, .int 0, .int 0, .int 0, .int 0, .int 0, .int 0, .int 0, .int 0, .int 0, .int 0, .int 0, .int 0, .int 0, .int 0, .int 0, .int 0, .int 0, .int 0, .int 0, .int 0, .int 0, .int 0] (.int 0) := V_r
  refine s_dup (pc' := 153) W d_method_2_152 rfl rfl ?_
  refine s_bipush (pc' := 155) W (26 : Int32) d_method_2_153 rfl rfl ?_
  refine s_bipush (pc' := 157) W (103 : Int32) d_method_2_155 rfl rfl ?_
  refine s_castore (pc' := 158) W 26 V_r M_r rfl (by decide) (by decide) (bt rfl) d_method_2_157 rfl ?_
  intro T h W K28 C28 Vn28
  replace Kt := Kt.trans K28 (allS (P := fun x => _ ∨ _) (Or.inr fs_r) all0)
  replace M_r := M_r.mv C28
  replace X_r := X_r.keep K28
  have V_r := Vn28
  clear Vn28
  rw [show nar .char (103 : Int32) = 103 from by decide] at V_r
  have V_r : Arv Z _ r k_r .char (53 : Int32) [.int 116, .int 105, .int 101, .int 98, .int 114, .int 101, .int 97, .int 107, .int 32, .int x, .int 32, .int 100, .int 117, .int 112, .int 108, .int 105, .int 99, .int 97, .int 116, .int 101, .int 58, .int 32, .int c, .int 32, .int 114, .int 101, .int 103, .int 0, .int 0, .int 0, .int 0, .int 0, .int 0, .int 0, .int 0, .int 0, .int 0, .int 0, .int 0, .int 0, .int 0, .int 0, .int 0, .int 0, .int 0, .int 0, .int 0, .int 0, .int 0, .int 0, .int 0, .int 0, .int 0] (.int 0) := V_r
  refine s_dup (pc' := 159) W d_method_2_158 rfl rfl ?_
  refine s_bipush (pc' := 161) W (27 : Int32) d_method_2_159 rfl rfl ?_
  refine s_bipush (pc' := 163) W (105 : Int32) d_method_2_161 rfl rfl ?_
  refine s_castore (pc' := 164) W 27 V_r M_r rfl (by decide) (by decide) (bt rfl) d_method_2_163 rfl ?_
  intro T h W K29 C29 Vn29
  replace Kt := Kt.trans K29 (allS (P := fun x => _ ∨ _) (Or.inr fs_r) all0)
  replace M_r := M_r.mv C29
  replace X_r := X_r.keep K29
  have V_r := Vn29
  clear Vn29
  rw [show nar .char (105 : Int32) = 105 from by decide] at V_r
  have V_r : Arv Z _ r k_r .char (53 : Int32) [.int 116, .int 105, .int 101, .int 98, .int 114, .int 101, .int 97, .int 107, .int 32, .int x, .int 32, .int 100, .int 117, .int 112, .int 108, .int 105, .int 99, .int 97, .int 116, .int 101, .int 58, .int 32, .int c, .int 32, .int 114, .int 101, .int 103, .int 105, .int 0, .int 0, .int 0, .int 0, .int 0, .int 0, .int 0, .int 0, .int 0, .int 0, .int 0, .int 0, .int 0, .int 0, .int 0, .int 0, .int 0, .int 0, .int 0, .int 0, .int 0, .int 0, .int 0, .int 0, .int 0] (.int 0) := V_r
  refine s_dup (pc' := 165) W d_method_2_164 rfl rfl ?_
  refine s_bipush (pc' := 167) W (28 : Int32) d_method_2_165 rfl rfl ?_
  refine s_bipush (pc' := 169) W (115 : Int32) d_method_2_167 rfl rfl ?_
  refine s_castore (pc' := 170) W 28 V_r M_r rfl (by decide) (by decide) (bt rfl) d_method_2_169 rfl ?_
  intro T h W K30 C30 Vn30
  replace Kt := Kt.trans K30 (allS (P := fun x => _ ∨ _) (Or.inr fs_r) all0)
  replace M_r := M_r.mv C30
  replace X_r := X_r.keep K30
  have V_r := Vn30
  clear Vn30
  rw [show nar .char (115 : Int32) = 115 from by decide] at V_r
  have V_r : Arv Z _ r k_r .char (53 : Int32) [.int 116, .int 105, .int 101, .int 98, .int 114, .int 101, .int 97, .int 107, .int 32, .int x, .int 32, .int 100, .int 117, .int 112, .int 108, .int 105, .int 99, .int 97, .int 116, .int 101, .int 58, .int 32, .int c, .int 32, .int 114, .int 101, .int 103, .int 105, .int 115, .int 0, .int 0, .int 0, .int 0, .int 0, .int 0, .int 0, .int 0, .int 0, .int 0, .int 0, .int 0, .int 0, .int 0, .int 0, .int 0, .int 0, .int 0, .int 0, .int 0, .int 0, .int 0, .int 0, .int 0] (.int 0) := V_r
  refine s_dup (pc' := 171) W d_method_2_170 rfl rfl ?_
  refine s_bipush (pc' := 173) W (29 : Int32) d_method_2_171 rfl rfl ?_
  refine s_bipush (pc' := 175) W (116 : Int32) d_method_2_173 rfl rfl ?_
  refine s_castore (pc' := 176) W 29 V_r M_r rfl (by decide) (by decide) (bt rfl) d_method_2_175 rfl ?_
  intro T h W K31 C31 Vn31
  replace Kt := Kt.trans K31 (allS (P := fun x => _ ∨ _) (Or.inr fs_r) all0)
  replace M_r := M_r.mv C31
  replace X_r := X_r.keep K31
  have V_r := Vn31
  clear Vn31
  rw [show nar .char (116 : Int32) = 116 from by decide] at V_r
  have V_r : Arv Z _ r k_r .char (53 : Int32) [.int 116, .int 105, .int 101, .int 98, .int 114, .int 101, .int 97, .int 107, .int 32, .int x, .int 32, .int 100, .int 117, .int 112, .int 108, .int 105, .int 99, .int 97, .int 116, .int 101, .int 58, .int 32, .int c, .int 32, .int 114, .int 101, .int 103, .int 105, .int 115, .int 116, .int 0, .int 0, .int 0, .int 0, .int 0, .int 0, .int 0, .int 0, .int 0, .int 0, .int 0, .int 0, .int 0, .int 0, .int 0, .int 0, .int 0, .int 0, .int 0, .int 0, .int 0, .int 0, .int 0] (.int 0) := V_r
  refine s_dup (pc' := 177) W d_method_2_176 rfl rfl ?_
  refine s_bipush (pc' := 179) W (30 : Int32) d_method_2_177 rfl rfl ?_
  refine s_bipush (pc' := 181) W (101 : Int32) d_method_2_179 rfl rfl ?_
  refine s_castore (pc' := 182) W 30 V_r M_r rfl (by decide) (by decide) (bt rfl) d_method_2_181 rfl ?_
  intro T h W K32 C32 Vn32
  replace Kt := Kt.trans K32 (allS (P := fun x => _ ∨ _) (Or.inr fs_r) all0)
  replace M_r := M_r.mv C32
  replace X_r := X_r.keep K32
  have V_r := Vn32
  clear Vn32
  rw [show nar .char (101 : Int32) = 101 from by decide] at V_r
  have V_r : Arv Z _ r k_r .char (53 : Int32) [.int 116, .int 105, .int 101, .int 98, .int 114, .int 101, .int 97, .int 107, .int 32, .int x, .int 32, .int 100, .int 117, .int 112, .int 108, .int 105, .int 99, .int 97, .int 116, .int 101, .int 58, .int 32, .int c, .int 32, .int 114, .int 101, .int 103, .int 105, .int 115, .int 116, .int 101, .int 0, .int 0, .int 0, .int 0, .int 0, .int 0, .int 0, .int 0, .int 0, .int 0, .int 0, .int 0, .int 0, .int 0, .int 0, .int 0, .int 0, .int 0, .int 0, .int 0, .int 0, .int 0] (.int 0) := V_r
  refine s_dup (pc' := 183) W d_method_2_182 rfl rfl ?_
  refine s_bipush (pc' := 185) W (31 : Int32) d_method_2_183 rfl rfl ?_
  refine s_bipush (pc' := 187) W (114 : Int32) d_method_2_185 rfl rfl ?_
  refine s_castore (pc' := 188) W 31 V_r M_r rfl (by decide) (by decide) (bt rfl) d_method_2_187 rfl ?_
  intro T h W K33 C33 Vn33
  replace Kt := Kt.trans K33 (allS (P := fun x => _ ∨ _) (Or.inr fs_r) all0)
  replace M_r := M_r.mv C33
  replace X_r := X_r.keep K33
  have V_r := Vn33
  clear Vn33
  rw [show nar .char (114 : Int32) = 114 from by decide] at V_r
  have V_r : Arv Z _ r k_r .char (53 : Int32) [.int 116, .int 105, .int 101, .int 98, .int 114, .int 101, .int 97, .int 107, .int 32, .int x, .int 32, .int 100, .int 117, .int 112, .int 108, .int 105, .int 99, .int 97, .int 116, .int 101, .int 58, .int 32, .int c, .int 32, .int 114, .int 101, .int 103, .int 105, .int 115, .int 116, .int 101, .int 114, .int 0, .int 0, .int 0, .int 0, .int 0, .int 0, .int 0, .int 0, .int 0, .int 0, .int 0, .int 0, .int 0, .int 0, .int 0, .int 0, .int 0, .int 0, .int 0, .int 0, .int 0] (.int 0) := V_r
  refine s_dup (pc' := 189) W d_method_2_188 rfl rfl ?_
  refine s_bipush (pc' := 191) W (32 : Int32) d_method_2_189 rfl rfl ?_
  refine s_bipush (pc' := 193) W (101 : Int32) d_method_2_191 rfl rfl ?_
  refine s_castore (pc' := 194) W 32 V_r M_r rfl (by decide) (by decide) (bt rfl) d_method_2_193 rfl ?_
  intro T h W K34 C34 Vn34
  replace Kt := Kt.trans K34 (allS (P := fun x => _ ∨ _) (Or.inr fs_r) all0)
  replace M_r := M_r.mv C34
  replace X_r := X_r.keep K34
  have V_r := Vn34
  clear Vn34
  rw [show nar .char (101 : Int32) = 101 from by decide] at V_r
  have V_r : Arv Z _ r k_r .char (53 : Int32) [.int 116, .int 105, .int 101, .int 98, .int 114, .int 101, .int 97, .int 107, .int 32, .int x, .int 32, .int 100, .int 117, .int 112, .int 108, .int 105, .int 99, .int 97, .int 116, .int 101, .int 58, .int 32, .int c, .int 32, .int 114, .int 101, .int 103, .int 105, .int 115, .int 116, .int 101, .int 114, .int 101, .int 0, .int 0, .int 0, .int 0, .int 0, .int 0, .int 0, .int 0, .int 0, .int 0, .int 0, .int 0, .int 0, .int 0, .int 0, .int 0, .int 0, .int 0, .int 0, .int 0] (.int 0) := V_r
  refine s_dup (pc' := 195) W d_method_2_194 rfl rfl ?_
  refine s_bipush (pc' := 197) W (33 : Int32) d_method_2_195 rfl rfl ?_
  refine s_bipush (pc' := 199) W (100 : Int32) d_method_2_197 rfl rfl ?_
  refine s_castore (pc' := 200) W 33 V_r M_r rfl (by decide) (by decide) (bt rfl) d_method_2_199 rfl ?_
  intro T h W K35 C35 Vn35
  replace Kt := Kt.trans K35 (allS (P := fun x => _ ∨ _) (Or.inr fs_r) all0)
  replace M_r := M_r.mv C35
  replace X_r := X_r.keep K35
  have V_r := Vn35
  clear Vn35
  rw [show nar .char (100 : Int32) = 100 from by decide] at V_r
  have V_r : Arv Z _ r k_r .char (53 : Int32) [.int 116, .int 105, .int 101, .int 98, .int 114, .int 101, .int 97, .int 107, .int 32, .int x, .int 32, .int 100, .int 117, .int 112, .int 108, .int 105, .int 99, .int 97, .int 116, .int 101, .int 58, .int 32, .int c, .int 32, .int 114, .int 101, .int 103, .int 105, .int 115, .int 116, .int 101, .int 114, .int 101, .int 100, .int 0, .int 0, .int 0, .int 0, .int 0, .int 0, .int 0, .int 0, .int 0, .int 0, .int 0, .int 0, .int 0, .int 0, .int 0, .int 0, .int 0, .int 0, .int 0] (.int 0) := V_r
  refine s_dup (pc' := 201) W d_method_2_200 rfl rfl ?_
  refine s_bipush (pc' := 203) W (34 : Int32) d_method_2_201 rfl rfl ?_
  refine s_bipush (pc' := 205) W (32 : Int32) d_method_2_203 rfl rfl ?_
  refine s_castore (pc' := 206) W 34 V_r M_r rfl (by decide) (by decide) (bt rfl) d_method_2_205 rfl ?_
  intro T h W K36 C36 Vn36
  replace Kt := Kt.trans K36 (allS (P := fun x => _ ∨ _) (Or.inr fs_r) all0)
  replace M_r := M_r.mv C36
  replace X_r := X_r.keep K36
  have V_r := Vn36
  clear Vn36
  rw [show nar .char (32 : Int32) = 32 from by decide] at V_r
  have V_r : Arv Z _ r k_r .char (53 : Int32) [.int 116, .int 105, .int 101, .int 98, .int 114, .int 101, .int 97, .int 107, .int 32, .int x, .int 32, .int 100, .int 117, .int 112, .int 108, .int 105, .int 99, .int 97, .int 116, .int 101, .int 58, .int 32, .int c, .int 32, .int 114, .int 101, .int 103, .int 105, .int 115, .int 116, .int 101, .int 114, .int 101, .int 100, .int 32, .int 0, .int 0, .int 0, .int 0, .int 0, .int 0, .int 0, .int 0, .int 0, .int 0, .int 0, .int 0, .int 0, .int 0, .int 0, .int 0, .int 0, .int 0] (.int 0) := V_r
  refine s_dup (pc' := 207) W d_method_2_206 rfl rfl ?_
  refine s_bipush (pc' := 209) W (35 : Int32) d_method_2_207 rfl rfl ?_
  refine s_bipush (pc' := 211) W (97 : Int32) d_method_2_209 rfl rfl ?_
  refine s_castore (pc' := 212) W 35 V_r M_r rfl (by decide) (by decide) (bt rfl) d_method_2_211 rfl ?_
  intro T h W K37 C37 Vn37
  replace Kt := Kt.trans K37 (allS (P := fun x => _ ∨ _) (Or.inr fs_r) all0)
  replace M_r := M_r.mv C37
  replace X_r := X_r.keep K37
  have V_r := Vn37
  clear Vn37
  rw [show nar .char (97 : Int32) = 97 from by decide] at V_r
  have V_r : Arv Z _ r k_r .char (53 : Int32) [.int 116, .int 105, .int 101, .int 98, .int 114, .int 101, .int 97, .int 107, .int 32, .int x, .int 32, .int 100, .int 117, .int 112, .int 108, .int 105, .int 99, .int 97, .int 116, .int 101, .int 58, .int 32, .int c, .int 32, .int 114, .int 101, .int 103, .int 105, .int 115, .int 116, .int 101, .int 114, .int 101, .int 100, .int 32, .int 97, .int 0, .int 0, .int 0, .int 0, .int 0, .int 0, .int 0, .int 0, .int 0, .int 0, .int 0, .int 0, .int 0, .int 0, .int 0, .int 0, .int 0] (.int 0) := V_r
  refine s_dup (pc' := 213) W d_method_2_212 rfl rfl ?_
  refine s_bipush (pc' := 215) W (36 : Int32) d_method_2_213 rfl rfl ?_
  refine s_bipush (pc' := 217) W (115 : Int32) d_method_2_215 rfl rfl ?_
  refine s_castore (pc' := 218) W 36 V_r M_r rfl (by decide) (by decide) (bt rfl) d_method_2_217 rfl ?_
  intro T h W K38 C38 Vn38
  replace Kt := Kt.trans K38 (allS (P := fun x => _ ∨ _) (Or.inr fs_r) all0)
  replace M_r := M_r.mv C38
  replace X_r := X_r.keep K38
  have V_r := Vn38
  clear Vn38
  rw [show nar .char (115 : Int32) = 115 from by decide] at V_r
  have V_r : Arv Z _ r k_r .char (53 : Int32) [.int 116, .int 105, .int 101, .int 98, .int 114, .int 101, .int 97, .int 107, .int 32, .int x, .int 32, .int 100, .int 117, .int 112, .int 108, .int 105, .int 99, .int 97, .int 116, .int 101, .int 58, .int 32, .int c, .int 32, .int 114, .int 101, .int 103, .int 105, .int 115, .int 116, .int 101, .int 114, .int 101, .int 100, .int 32, .int 97, .int 115, .int 0, .int 0, .int 0, .int 0, .int 0, .int 0, .int 0, .int 0, .int 0, .int 0, .int 0, .int 0, .int 0, .int 0, .int 0, .int 0] (.int 0) := V_r
  refine s_dup (pc' := 219) W d_method_2_218 rfl rfl ?_
  refine s_bipush (pc' := 221) W (37 : Int32) d_method_2_219 rfl rfl ?_
  refine s_bipush (pc' := 223) W (32 : Int32) d_method_2_221 rfl rfl ?_
  refine s_castore (pc' := 224) W 37 V_r M_r rfl (by decide) (by decide) (bt rfl) d_method_2_223 rfl ?_
  intro T h W K39 C39 Vn39
  replace Kt := Kt.trans K39 (allS (P := fun x => _ ∨ _) (Or.inr fs_r) all0)
  replace M_r := M_r.mv C39
  replace X_r := X_r.keep K39
  have V_r := Vn39
  clear Vn39
  rw [show nar .char (32 : Int32) = 32 from by decide] at V_r
  have V_r : Arv Z _ r k_r .char (53 : Int32) [.int 116, .int 105, .int 101, .int 98, .int 114, .int 101, .int 97, .int 107, .int 32, .int x, .int 32, .int 100, .int 117, .int 112, .int 108, .int 105, .int 99, .int 97, .int 116, .int 101, .int 58, .int 32, .int c, .int 32, .int 114, .int 101, .int 103, .int 105, .int 115, .int 116, .int 101, .int 114, .int 101, .int 100, .int 32, .int 97, .int 115, .int 32, .int 0, .int 0, .int 0, .int 0, .int 0, .int 0, .int 0, .int 0, .int 0, .int 0, .int 0, .int 0, .int 0, .int 0, .int 0] (.int 0) := V_r
  refine s_dup (pc' := 225) W d_method_2_224 rfl rfl ?_
  refine s_bipush (pc' := 227) W (38 : Int32) d_method_2_225 rfl rfl ?_
  refine s_iload_n (pc' := 228) W d_method_2_227 rfl rfl ?_
  refine s_castore (pc' := 229) W 38 V_r M_r rfl (by decide) (by decide) (bt rfl) d_method_2_228 rfl ?_
  intro T h W K40 C40 Vn40
  replace Kt := Kt.trans K40 (allS (P := fun x => _ ∨ _) (Or.inr fs_r) all0)
  replace M_r := M_r.mv C40
  replace X_r := X_r.keep K40
  have V_r := Vn40
  clear Vn40
  rw [hk.nar] at V_r
  have V_r : Arv Z _ r k_r .char (53 : Int32) [.int 116, .int 105, .int 101, .int 98, .int 114, .int 101, .int 97, .int 107, .int 32, .int x, .int 32, .int 100, .int 117, .int 112, .int 108, .int 105, .int 99, .int 97, .int 116, .int 101, .int 58, .int 32, .int c, .int 32, .int 114, .int 101, .int 103, .int 105, .int 115, .int 116, .int 101, .int 114, .int 101, .int 100, .int 32, .int 97, .int 115, .int 32, .int k, .int 0, .int 0, .int 0, .int 0, .int 0, .int 0, .int 0, .int 0, .int 0, .int 0, .int 0, .int 0, .int 0, .int 0] (.int 0) := V_r
  refine s_dup (pc' := 230) W d_method_2_229 rfl rfl ?_
  refine s_bipush (pc' := 232) W (39 : Int32) d_method_2_230 rfl rfl ?_
  refine s_bipush (pc' := 234) W (32 : Int32) d_method_2_232 rfl rfl ?_
  refine s_castore (pc' := 235) W 39 V_r M_r rfl (by decide) (by decide) (bt rfl) d_method_2_234 rfl ?_
  intro T h W K41 C41 Vn41
  replace Kt := Kt.trans K41 (allS (P := fun x => _ ∨ _) (Or.inr fs_r) all0)
  replace M_r := M_r.mv C41
  replace X_r := X_r.keep K41
  have V_r := Vn41
  clear Vn41
  rw [show nar .char (32 : Int32) = 32 from by decide] at V_r
  have V_r : Arv Z _ r k_r .char (53 : Int32) [.int 116, .int 105, .int 101, .int 98, .int 114, .int 101, .int 97, .int 107, .int 32, .int x, .int 32, .int 100, .int 117, .int 112, .int 108, .int 105, .int 99, .int 97, .int 116, .int 101, .int 58, .int 32, .int c, .int 32, .int 114, .int 101, .int 103, .int 105, .int 115, .int 116, .int 101, .int 114, .int 101, .int 100, .int 32, .int 97, .int 115, .int 32, .int k, .int 32, .int 0, .int 0, .int 0, .int 0, .int 0, .int 0, .int 0, .int 0, .int 0, .int 0, .int 0, .int 0, .int 0] (.int 0) := V_r
  refine s_dup (pc' := 236) W d_method_2_235 rfl rfl ?_
  refine s_bipush (pc' := 238) W (40 : Int32) d_method_2_236 rfl rfl ?_
  refine s_bipush (pc' := 240) W (97 : Int32) d_method_2_238 rfl rfl ?_
  refine s_castore (pc' := 241) W 40 V_r M_r rfl (by decide) (by decide) (bt rfl) d_method_2_240 rfl ?_
  intro T h W K42 C42 Vn42
  replace Kt := Kt.trans K42 (allS (P := fun x => _ ∨ _) (Or.inr fs_r) all0)
  replace M_r := M_r.mv C42
  replace X_r := X_r.keep K42
  have V_r := Vn42
  clear Vn42
  rw [show nar .char (97 : Int32) = 97 from by decide] at V_r
  have V_r : Arv Z _ r k_r .char (53 : Int32) [.int 116, .int 105, .int 101, .int 98, .int 114, .int 101, .int 97, .int 107, .int 32, .int x, .int 32, .int 100, .int 117, .int 112, .int 108, .int 105, .int 99, .int 97, .int 116, .int 101, .int 58, .int 32, .int c, .int 32, .int 114, .int 101, .int 103, .int 105, .int 115, .int 116, .int 101, .int 114, .int 101, .int 100, .int 32, .int 97, .int 115, .int 32, .int k, .int 32, .int 97, .int 0, .int 0, .int 0, .int 0, .int 0, .int 0, .int 0, .int 0, .int 0, .int 0, .int 0, .int 0] (.int 0) := V_r
  refine s_dup (pc' := 242) W d_method_2_241 rfl rfl ?_
  refine s_bipush (pc' := 244) W (41 : Int32) d_method_2_242 rfl rfl ?_
  refine s_bipush (pc' := 246) W (110 : Int32) d_method_2_244 rfl rfl ?_
  refine s_castore (pc' := 247) W 41 V_r M_r rfl (by decide) (by decide) (bt rfl) d_method_2_246 rfl ?_
  intro T h W K43 C43 Vn43
  replace Kt := Kt.trans K43 (allS (P := fun x => _ ∨ _) (Or.inr fs_r) all0)
  replace M_r := M_r.mv C43
  replace X_r := X_r.keep K43
  have V_r := Vn43
  clear Vn43
  rw [show nar .char (110 : Int32) = 110 from by decide] at V_r
  have V_r : Arv Z _ r k_r .char (53 : Int32) [.int 116, .int 105, .int 101, .int 98, .int 114, .int 101, .int 97, .int 107, .int 32, .int x, .int 32, .int 100, .int 117, .int 112, .int 108, .int 105, .int 99, .int 97, .int 116, .int 101, .int 58, .int 32, .int c, .int 32, .int 114, .int 101, .int 103, .int 105, .int 115, .int 116, .int 101, .int 114, .int 101, .int 100, .int 32, .int 97, .int 115, .int 32, .int k, .int 32, .int 97, .int 110, .int 0, .int 0, .int 0, .int 0, .int 0, .int 0, .int 0, .int 0, .int 0, .int 0, .int 0] (.int 0) := V_r
  refine s_dup (pc' := 248) W d_method_2_247 rfl rfl ?_
  refine s_bipush (pc' := 250) W (42 : Int32) d_method_2_248 rfl rfl ?_
  refine s_bipush (pc' := 252) W (100 : Int32) d_method_2_250 rfl rfl ?_
  refine s_castore (pc' := 253) W 42 V_r M_r rfl (by decide) (by decide) (bt rfl) d_method_2_252 rfl ?_
  intro T h W K44 C44 Vn44
  replace Kt := Kt.trans K44 (allS (P := fun x => _ ∨ _) (Or.inr fs_r) all0)
  replace M_r := M_r.mv C44
  replace X_r := X_r.keep K44
  have V_r := Vn44
  clear Vn44
  rw [show nar .char (100 : Int32) = 100 from by decide] at V_r
  have V_r : Arv Z _ r k_r .char (53 : Int32) [.int 116, .int 105, .int 101, .int 98, .int 114, .int 101, .int 97, .int 107, .int 32, .int x, .int 32, .int 100, .int 117, .int 112, .int 108, .int 105, .int 99, .int 97, .int 116, .int 101, .int 58, .int 32, .int c, .int 32, .int 114, .int 101, .int 103, .int 105, .int 115, .int 116, .int 101, .int 114, .int 101, .int 100, .int 32, .int 97, .int 115, .int 32, .int k, .int 32, .int 97, .int 110, .int 100, .int 0, .int 0, .int 0, .int 0, .int 0, .int 0, .int 0, .int 0, .int 0, .int 0] (.int 0) := V_r
  refine s_dup (pc' := 254) W d_method_2_253 rfl rfl ?_
  refine s_bipush (pc' := 256) W (43 : Int32) d_method_2_254 rfl rfl ?_
  refine s_bipush (pc' := 258) W (32 : Int32) d_method_2_256 rfl rfl ?_
  refine s_castore (pc' := 259) W 43 V_r M_r rfl (by decide) (by decide) (bt rfl) d_method_2_258 rfl ?_
  intro T h W K45 C45 Vn45
  replace Kt := Kt.trans K45 (allS (P := fun x => _ ∨ _) (Or.inr fs_r) all0)
  replace M_r := M_r.mv C45
  replace X_r := X_r.keep K45
  have V_r := Vn45
  clear Vn45
  rw [show nar .char (32 : Int32) = 32 from by decide] at V_r
  have V_r : Arv Z _ r k_r .char (53 : Int32) [.int 116, .int 105, .int 101, .int 98, .int 114, .int 101, .int 97, .int 107, .int 32, .int x, .int 32, .int 100, .int 117, .int 112, .int 108, .int 105, .int 99, .int 97, .int 116, .int 101, .int 58, .int 32, .int c, .int 32, .int 114, .int 101, .int 103, .int 105, .int 115, .int 116, .int 101, .int 114, .int 101, .int 100, .int 32, .int 97, .int 115, .int 32, .int k, .int 32, .int 97, .int 110, .int 100, .int 32, .int 0, .int 0, .int 0, .int 0, .int 0, .int 0, .int 0, .int 0, .int 0] (.int 0) := V_r
  refine s_dup (pc' := 260) W d_method_2_259 rfl rfl ?_
  refine s_bipush (pc' := 262) W (44 : Int32) d_method_2_260 rfl rfl ?_
  refine s_iload_n (pc' := 263) W d_method_2_262 rfl rfl ?_
  refine s_castore (pc' := 264) W 44 V_r M_r rfl (by decide) (by decide) (bt rfl) d_method_2_263 rfl ?_
  intro T h W K46 C46 Vn46
  replace Kt := Kt.trans K46 (allS (P := fun x => _ ∨ _) (Or.inr fs_r) all0)
  replace M_r := M_r.mv C46
  replace X_r := X_r.keep K46
  have V_r := Vn46
  clear Vn46
  rw [hd.nar] at V_r
  have V_r : Arv Z _ r k_r .char (53 : Int32) [.int 116, .int 105, .int 101, .int 98, .int 114, .int 101, .int 97, .int 107, .int 32, .int x, .int 32, .int 100, .int 117, .int 112, .int 108, .int 105, .int 99, .int 97, .int 116, .int 101, .int 58, .int 32, .int c, .int 32, .int 114, .int 101, .int 103, .int 105, .int 115, .int 116, .int 101, .int 114, .int 101, .int 100, .int 32, .int 97, .int 115, .int 32, .int k, .int 32, .int 97, .int 110, .int 100, .int 32, .int d, .int 0, .int 0, .int 0, .int 0, .int 0, .int 0, .int 0, .int 0] (.int 0) := V_r
  refine s_dup (pc' := 265) W d_method_2_264 rfl rfl ?_
  refine s_bipush (pc' := 267) W (45 : Int32) d_method_2_265 rfl rfl ?_
  refine s_bipush (pc' := 269) W (59 : Int32) d_method_2_267 rfl rfl ?_
  refine s_castore (pc' := 270) W 45 V_r M_r rfl (by decide) (by decide) (bt rfl) d_method_2_269 rfl ?_
  intro T h W K47 C47 Vn47
  replace Kt := Kt.trans K47 (allS (P := fun x => _ ∨ _) (Or.inr fs_r) all0)
  replace M_r := M_r.mv C47
  replace X_r := X_r.keep K47
  have V_r := Vn47
  clear Vn47
  rw [show nar .char (59 : Int32) = 59 from by decide] at V_r
  have V_r : Arv Z _ r k_r .char (53 : Int32) [.int 116, .int 105, .int 101, .int 98, .int 114, .int 101, .int 97, .int 107, .int 32, .int x, .int 32, .int 100, .int 117, .int 112, .int 108, .int 105, .int 99, .int 97, .int 116, .int 101, .int 58, .int 32, .int c, .int 32, .int 114, .int 101, .int 103, .int 105, .int 115, .int 116, .int 101, .int 114, .int 101, .int 100, .int 32, .int 97, .int 115, .int 32, .int k, .int 32, .int 97, .int 110, .int 100, .int 32, .int d, .int 59, .int 0, .int 0, .int 0, .int 0, .int 0, .int 0, .int 0] (.int 0) := V_r
  refine s_dup (pc' := 271) W d_method_2_270 rfl rfl ?_
  refine s_bipush (pc' := 273) W (46 : Int32) d_method_2_271 rfl rfl ?_
  refine s_bipush (pc' := 275) W (32 : Int32) d_method_2_273 rfl rfl ?_
  refine s_castore (pc' := 276) W 46 V_r M_r rfl (by decide) (by decide) (bt rfl) d_method_2_275 rfl ?_
  intro T h W K48 C48 Vn48
  replace Kt := Kt.trans K48 (allS (P := fun x => _ ∨ _) (Or.inr fs_r) all0)
  replace M_r := M_r.mv C48
  replace X_r := X_r.keep K48
  have V_r := Vn48
  clear Vn48
  rw [show nar .char (32 : Int32) = 32 from by decide] at V_r
  have V_r : Arv Z _ r k_r .char (53 : Int32) [.int 116, .int 105, .int 101, .int 98, .int 114, .int 101, .int 97, .int 107, .int 32, .int x, .int 32, .int 100, .int 117, .int 112, .int 108, .int 105, .int 99, .int 97, .int 116, .int 101, .int 58, .int 32, .int c, .int 32, .int 114, .int 101, .int 103, .int 105, .int 115, .int 116, .int 101, .int 114, .int 101, .int 100, .int 32, .int 97, .int 115, .int 32, .int k, .int 32, .int 97, .int 110, .int 100, .int 32, .int d, .int 59, .int 32, .int 0, .int 0, .int 0, .int 0, .int 0, .int 0] (.int 0) := V_r
  refine s_dup (pc' := 277) W d_method_2_276 rfl rfl ?_
  refine s_bipush (pc' := 279) W (47 : Int32) d_method_2_277 rfl rfl ?_
  refine s_bipush (pc' := 281) W (107 : Int32) d_method_2_279 rfl rfl ?_
  refine s_castore (pc' := 282) W 47 V_r M_r rfl (by decide) (by decide) (bt rfl) d_method_2_281 rfl ?_
  intro T h W K49 C49 Vn49
  replace Kt := Kt.trans K49 (allS (P := fun x => _ ∨ _) (Or.inr fs_r) all0)
  replace M_r := M_r.mv C49
  replace X_r := X_r.keep K49
  have V_r := Vn49
  clear Vn49
  rw [show nar .char (107 : Int32) = 107 from by decide] at V_r
  have V_r : Arv Z _ r k_r .char (53 : Int32) [.int 116, .int 105, .int 101, .int 98, .int 114, .int 101, .int 97, .int 107, .int 32, .int x, .int 32, .int 100, .int 117, .int 112, .int 108, .int 105, .int 99, .int 97, .int 116, .int 101, .int 58, .int 32, .int c, .int 32, .int 114, .int 101, .int 103, .int 105, .int 115, .int 116, .int 101, .int 114, .int 101, .int 100, .int 32, .int 97, .int 115, .int 32, .int k, .int 32, .int 97, .int 110, .int 100, .int 32, .int d, .int 59, .int 32, .int 107, .int 0, .int 0, .int 0, .int 0, .int 0] (.int 0) := V_r
  refine s_dup (pc' := 283) W d_method_2_282 rfl rfl ?_
  refine s_bipush (pc' := 285) W (48 : Int32) d_method_2_283 rfl rfl ?_
  refine s_bipush (pc' := 287) W (101 : Int32) d_method_2_285 rfl rfl ?_
  refine s_castore (pc' := 288) W 48 V_r M_r rfl (by decide) (by decide) (bt rfl) d_method_2_287 rfl ?_
  intro T h W K50 C50 Vn50
  replace Kt := Kt.trans K50 (allS (P := fun x => _ ∨ _) (Or.inr fs_r) all0)
  replace M_r := M_r.mv C50
  replace X_r := X_r.keep K50
  have V_r := Vn50
  clear Vn50
  rw [show nar .char (101 : Int32) = 101 from by decide] at V_r
  have V_r : Arv Z _ r k_r .char (53 : Int32) [.int 116, .int 105, .int 101, .int 98, .int 114, .int 101, .int 97, .int 107, .int 32, .int x, .int 32, .int 100, .int 117, .int 112, .int 108, .int 105, .int 99, .int 97, .int 116, .int 101, .int 58, .int 32, .int c, .int 32, .int 114, .int 101, .int 103, .int 105, .int 115, .int 116, .int 101, .int 114, .int 101, .int 100, .int 32, .int 97, .int 115, .int 32, .int k, .int 32, .int 97, .int 110, .int 100, .int 32, .int d, .int 59, .int 32, .int 107, .int 101, .int 0, .int 0, .int 0, .int 0] (.int 0) := V_r
  refine s_dup (pc' := 289) W d_method_2_288 rfl rfl ?_
  refine s_bipush (pc' := 291) W (49 : Int32) d_method_2_289 rfl rfl ?_
  refine s_bipush (pc' := 293) W (112 : Int32) d_method_2_291 rfl rfl ?_
  refine s_castore (pc' := 294) W 49 V_r M_r rfl (by decide) (by decide) (bt rfl) d_method_2_293 rfl ?_
  intro T h W K51 C51 Vn51
  replace Kt := Kt.trans K51 (allS (P := fun x => _ ∨ _) (Or.inr fs_r) all0)
  replace M_r := M_r.mv C51
  replace X_r := X_r.keep K51
  have V_r := Vn51
  clear Vn51
  rw [show nar .char (112 : Int32) = 112 from by decide] at V_r
  have V_r : Arv Z _ r k_r .char (53 : Int32) [.int 116, .int 105, .int 101, .int 98, .int 114, .int 101, .int 97, .int 107, .int 32, .int x, .int 32, .int 100, .int 117, .int 112, .int 108, .int 105, .int 99, .int 97, .int 116, .int 101, .int 58, .int 32, .int c, .int 32, .int 114, .int 101, .int 103, .int 105, .int 115, .int 116, .int 101, .int 114, .int 101, .int 100, .int 32, .int 97, .int 115, .int 32, .int k, .int 32, .int 97, .int 110, .int 100, .int 32, .int d, .int 59, .int 32, .int 107, .int 101, .int 112, .int 0, .int 0, .int 0] (.int 0) := V_r
  refine s_dup (pc' := 295) W d_method_2_294 rfl rfl ?_
  refine s_bipush (pc' := 297) W (50 : Int32) d_method_2_295 rfl rfl ?_
  refine s_bipush (pc' := 299) W (116 : Int32) d_method_2_297 rfl rfl ?_
  refine s_castore (pc' := 300) W 50 V_r M_r rfl (by decide) (by decide) (bt rfl) d_method_2_299 rfl ?_
  intro T h W K52 C52 Vn52
  replace Kt := Kt.trans K52 (allS (P := fun x => _ ∨ _) (Or.inr fs_r) all0)
  replace M_r := M_r.mv C52
  replace X_r := X_r.keep K52
  have V_r := Vn52
  clear Vn52
  rw [show nar .char (116 : Int32) = 116 from by decide] at V_r
  have V_r : Arv Z _ r k_r .char (53 : Int32) [.int 116, .int 105, .int 101, .int 98, .int 114, .int 101, .int 97, .int 107, .int 32, .int x, .int 32, .int 100, .int 117, .int 112, .int 108, .int 105, .int 99, .int 97, .int 116, .int 101, .int 58, .int 32, .int c, .int 32, .int 114, .int 101, .int 103, .int 105, .int 115, .int 116, .int 101, .int 114, .int 101, .int 100, .int 32, .int 97, .int 115, .int 32, .int k, .int 32, .int 97, .int 110, .int 100, .int 32, .int d, .int 59, .int 32, .int 107, .int 101, .int 112, .int 116, .int 0, .int 0] (.int 0) := V_r
  refine s_dup (pc' := 301) W d_method_2_300 rfl rfl ?_
  refine s_bipush (pc' := 303) W (51 : Int32) d_method_2_301 rfl rfl ?_
  refine s_bipush (pc' := 305) W (32 : Int32) d_method_2_303 rfl rfl ?_
  refine s_castore (pc' := 306) W 51 V_r M_r rfl (by decide) (by decide) (bt rfl) d_method_2_305 rfl ?_
  intro T h W K53 C53 Vn53
  replace Kt := Kt.trans K53 (allS (P := fun x => _ ∨ _) (Or.inr fs_r) all0)
  replace M_r := M_r.mv C53
  replace X_r := X_r.keep K53
  have V_r := Vn53
  clear Vn53
  rw [show nar .char (32 : Int32) = 32 from by decide] at V_r
  have V_r : Arv Z _ r k_r .char (53 : Int32) [.int 116, .int 105, .int 101, .int 98, .int 114, .int 101, .int 97, .int 107, .int 32, .int x, .int 32, .int 100, .int 117, .int 112, .int 108, .int 105, .int 99, .int 97, .int 116, .int 101, .int 58, .int 32, .int c, .int 32, .int 114, .int 101, .int 103, .int 105, .int 115, .int 116, .int 101, .int 114, .int 101, .int 100, .int 32, .int 97, .int 115, .int 32, .int k, .int 32, .int 97, .int 110, .int 100, .int 32, .int d, .int 59, .int 32, .int 107, .int 101, .int 112, .int 116, .int 32, .int 0] (.int 0) := V_r
  refine s_dup (pc' := 307) W d_method_2_306 rfl rfl ?_
  refine s_bipush (pc' := 309) W (52 : Int32) d_method_2_307 rfl rfl ?_
  refine s_iload_n (pc' := 310) W d_method_2_309 rfl rfl ?_
  refine s_castore (pc' := 311) W 52 V_r M_r rfl (by decide) (by decide) (bt rfl) d_method_2_310 rfl ?_
  intro T h W K54 C54 Vn54
  replace Kt := Kt.trans K54 (allS (P := fun x => _ ∨ _) (Or.inr fs_r) all0)
  replace M_r := M_r.mv C54
  replace X_r := X_r.keep K54
  have V_r := Vn54
  clear Vn54
  rw [hk.nar] at V_r
  have V_r : Arv Z _ r k_r .char (53 : Int32) [.int 116, .int 105, .int 101, .int 98, .int 114, .int 101, .int 97, .int 107, .int 32, .int x, .int 32, .int 100, .int 117, .int 112, .int 108, .int 105, .int 99, .int 97, .int 116, .int 101, .int 58, .int 32, .int c, .int 32, .int 114, .int 101, .int 103, .int 105, .int 115, .int 116, .int 101, .int 114, .int 101, .int 100, .int 32, .int 97, .int 115, .int 32, .int k, .int 32, .int 97, .int 110, .int 100, .int 32, .int d, .int 59, .int 32, .int 107, .int 101, .int 112, .int 116, .int 32, .int k] (.int 0) := V_r
  refine s_astore (pc' := 313) W #[iv x, iv c, iv k, iv d, rv r] d_method_2_311 rfl rfl rfl ?_
  refine s_new (pc' := 316) W (w319 hw) (w10 hw) (w2 hw) d_method_2_313 (bl rfl) (bl rfl) rfl ?_
  intro s T h g_s
  have fs_s := Nat.le_trans Kt.1 (Nat.le_of_eq g_s.symm)
  have ne_r_s : @Ne Nat r s := by have := nlt M_r.2.1; omega
  intro W K55 C55 M_s E_s D_s U_s
  replace Kt := Kt.trans K55 all0
  replace M_r := M_r.mv C55
  replace X_r := X_r.keep K55
  replace V_r := V_r.keep K55 nin0
  have F_coder_s : Fld Z _ s "java/lang/String" "coder" "B" (.int 0) := D_s (Or.inr (w25 hw)) (ty := .byte) (by decide)
  have F_value_s : Fld Z _ s "java/lang/String" "value" "[B" .null := D_s (Or.inr (w23 hw)) (ty := (.array .byte)) (by decide)
  refine s_dup (pc' := 317) W d_method_2_316 rfl rfl ?_
  refine s_aload (pc' := 319) W d_method_2_317 rfl rfl rfl ?_
  refine s_init (pc' := 322) W rfl (w320 hw) (w321 hw) (w2 hw) (w322 hw) (by decide) pd38 [(.ref r)] rfl (c_strinit l hw W.old CS0 (cs := [(116 : Int32), (105 : Int32), (101 : Int32), (98 : Int32), (114 : Int32), (101 : Int32), (97 : Int32), (107 : Int32), (32 : Int32), x, (32 : Int32), (100 : Int32), (117 : Int32), (112 : Int32), (108 : Int32), (105 : Int32), (99 : Int32), (97 : Int32), (116 : Int32), (101 : Int32), (58 : Int32), (32 : Int32), c, (32 : Int32), (114 : Int32), (101 : Int32), (103 : Int32), (105 : Int32), (115 : Int32), (116 : Int32), (101 : Int32), (114 : Int32), (101 : Int32), (100 : Int32), (32 : Int32), (97 : Int32), (115 : Int32), (32 : Int32), k, (32 : Int32), (97 : Int32), (110 : Int32), (100 : Int32), (32 : Int32), d, (59 : Int32), (32 : Int32), (107 : Int32), (101 : Int32), (112 : Int32), (116 : Int32), (32 : Int32), k]) (n := 53) rfl (by decide) (L1c ⟨by decide, by decide⟩ (L1c ⟨by decide, by decide⟩ (L1c ⟨by decide, by decide⟩ (L1c ⟨by decide, by decide⟩ (L1c ⟨by decide, by decide⟩ (L1c ⟨by decide, by decide⟩ (L1c ⟨by decide, by decide⟩ (L1c ⟨by decide, by decide⟩ (L1c ⟨by decide, by decide⟩ (L1c hx (L1c ⟨by decide, by decide⟩ (L1c ⟨by decide, by decide⟩ (L1c ⟨by decide, by decide⟩ (L1c ⟨by decide, by decide⟩ (L1c ⟨by decide, by decide⟩ (L1c ⟨by decide, by decide⟩ (L1c ⟨by decide, by decide⟩ (L1c ⟨by decide, by decide⟩ (L1c ⟨by decide, by decide⟩ (L1c ⟨by decide, by decide⟩ (L1c ⟨by decide, by decide⟩ (L1c ⟨by decide, by decide⟩ (L1c hc (L1c ⟨by decide, by decide⟩ (L1c ⟨by decide, by decide⟩ (L1c ⟨by decide, by decide⟩ (L1c ⟨by decide, by decide⟩ (L1c ⟨by decide, by decide⟩ (L1c ⟨by decide, by decide⟩ (L1c ⟨by decide, by decide⟩ (L1c ⟨by decide, by decide⟩ (L1c ⟨by decide, by decide⟩ (L1c ⟨by decide, by decide⟩ (L1c ⟨by decide, by decide⟩ (L1c ⟨by decide, by decide⟩ (L1c ⟨by decide, by decide⟩ (L1c ⟨by decide, by decide⟩ (L1c ⟨by decide, by decide⟩ (L1c hk (L1c ⟨by decide, by decide⟩ (L1c ⟨by decide, by decide⟩ (L1c ⟨by decide, by decide⟩ (L1c ⟨by decide, by decide⟩ (L1c ⟨by decide, by decide⟩ (L1c hd (L1c ⟨by decide, by decide⟩ (L1c ⟨by decide, by decide⟩ (L1c ⟨by decide, by decide⟩ (L1c ⟨by decide, by decide⟩ (L1c ⟨by decide, by decide⟩ (L1c ⟨by decide, by decide⟩ (L1c ⟨by decide, by decide⟩ (L1c hk L1n))))))))))))))))))))))))))))))))))))))))))))))))))))) E_s M_s.1 M_s.2.1 F_coder_s F_value_s V_r (by decide)) (allS ⟨M_s.2.1, M_s.2.2⟩ all0) rfl d_method_2_319 1 (le rfl) (bl rfl) (bl rfl) (bl rfl) (bl rfl) rfl ?_
  rintro _ T vm h W C56 ⟨rfl, K56, b_s, kb_s, Ls⟩
  replace Kt := Kt.trans K56 (allS (P := fun x => _ ∨ _) (Or.inr fs_s) all0)
  replace M_r := M_r.mv C56
  replace X_r := X_r.keep K56
  replace V_r := V_r.keep K56 (ninS ne_r_s nin0)
  replace E_s := E_s.keep K56
  replace M_s := M_s.mv C56
  refine s_areturn W rfl rfl rfl d_method_2_322 (bl rfl) (bl rfl) ?_
  intro vm' C'
  exact ⟨s, b_s, kb_s, rfl, Kt, Ls, fs_s⟩
theorem rem3 (x : Int32) : (x &&& 255) % 3 = 0 ∨ (x &&& 255) % 3 = 1 ∨ (x &&& 255) % 3 = 2 := by
  have q := c_and x 255 (by decide)
  have r := (c_iremV (x &&& 255) 3).1 q.1 (by decide)
  have e3 : (3 : Int32).toInt = 3 := rfl
  simp only [← Int32.toInt_inj]
  have e0 : (0 : Int32).toInt = 0 := rfl
  have e1 : (1 : Int32).toInt = 1 := rfl
  have e2 : (2 : Int32).toInt = 2 := rfl
  omega
set_option maxRecDepth 65536 in
set_option maxHeartbeats 40000000 in
theorem ef_law (m : MethodId) (x0 : Int32) (x1 : Int32) (x2 : Int32) (x3 : Int32) : entryFrame m #[(.int x0), (.int x1), (.int x2), (.int x3)] maxLocals = mkF m 0 #[.val (.int x0), .val (.int x1), .val (.int x2), .val (.int x3), .unset, .unset, .unset, .unset, .unset, .unset, .unset, .unset, .unset, .unset, .unset, .unset] [] := by first | (simp [entryFrame, mkF, argsToLocals, Value.category, maxLocals]; done) | rfl
set_option maxRecDepth 65536 in
set_option maxHeartbeats 40000000 in
theorem c_law (l : Launch) {Z : State} {a0 : Array Value} (hw : Hw Z a0) {n0 : Nat} {h : Heap} (O : Old Z n0 h) (CS0 : CS Z) {de : Nat} {kde : ClassId} (D : DE Z de kde) {p0 p1 p2 p3 : Int32} :
    Con l Z EL1 n0 x code maxLocals ret tables_1 room_1 #[(.int p0), (.int p1), (.int p2), (.int p3)] h [] (fun v vm' h' => v = some (.int 1)) := by
  refine Con.of pn60 O (el hw) ?_
  intro pg_ e s m below meth cd_ T W hs_ hSf
  rw [ef_law]
  refine s_iload_n (pc' := 1) W at_0 rfl rfl ?_
  refine s_sipush (pc' := 4) W (255 : Int32) at_1 rfl rfl ?_
  refine s_iand (pc' := 5) W at_4 rfl ?_
  refine s_iconst (pc' := 6) W (3 : Int32) at_5 rfl rfl ?_
  refine s_irem (pc' := 7) W at_6 (by decide) rfl ?_
  refine s_istore (pc' := 9) W #[iv p0, iv p1, iv p2, iv p3, iv ((p0 &&& (255 : Int32)) % (3 : Int32)), .unset, .unset, .unset, .unset, .unset, .unset, .unset, .unset, .unset, .unset, .unset] at_7 rfl rfl ?_
  have hlen := rem3 p0
  generalize (p0 &&& 255) % 3 = len at hlen ⊢
  refine s_iload_n (pc' := 10) W at_9 rfl rfl ?_
  refine s_bipush (pc' := 12) W (16 : Int32) at_10 rfl rfl ?_
  refine s_iushr (pc' := 13) W at_12 rfl ?_
  refine s_sipush (pc' := 16) W (255 : Int32) at_13 rfl rfl ?_
  refine s_iand (pc' := 17) W at_16 rfl ?_
  refine s_i2c (pc' := 18) W at_17 rfl ?_
  have hx := L1.char (Jvm.Free.XT.ushr p0 (16 : Int32))
  generalize ((Jvm.Free.XT.ushr p0 (16 : Int32)) &&& (255 : Int32)).toUInt32.toUInt16.toUInt32.toInt32 = x at hx ⊢
  refine s_istore (pc' := 20) W #[iv p0, iv p1, iv p2, iv p3, iv len, iv x, .unset, .unset, .unset, .unset, .unset, .unset, .unset, .unset, .unset, .unset] at_18 rfl rfl ?_
  refine s_iload_n (pc' := 21) W at_20 rfl rfl ?_
  refine s_sipush (pc' := 24) W (255 : Int32) at_21 rfl rfl ?_
  refine s_iand (pc' := 25) W at_24 rfl ?_
  refine s_i2c (pc' := 26) W at_25 rfl ?_
  have hc0 := L1.char (p1)
  generalize (p1 &&& (255 : Int32)).toUInt32.toUInt16.toUInt32.toInt32 = c0 at hc0 ⊢
  refine s_istore (pc' := 28) W #[iv p0, iv p1, iv p2, iv p3, iv len, iv x, iv c0, .unset, .unset, .unset, .unset, .unset, .unset, .unset, .unset, .unset] at_26 rfl rfl ?_
  refine s_iload_n (pc' := 29) W at_28 rfl rfl ?_
  refine s_bipush (pc' := 31) W (16 : Int32) at_29 rfl rfl ?_
  refine s_iushr (pc' := 32) W at_31 rfl ?_
  refine s_sipush (pc' := 35) W (255 : Int32) at_32 rfl rfl ?_
  refine s_iand (pc' := 36) W at_35 rfl ?_
  refine s_i2c (pc' := 37) W at_36 rfl ?_
  have hk0 := L1.char (Jvm.Free.XT.ushr p1 (16 : Int32))
  generalize ((Jvm.Free.XT.ushr p1 (16 : Int32)) &&& (255 : Int32)).toUInt32.toUInt16.toUInt32.toInt32 = k0 at hk0 ⊢
  refine s_istore (pc' := 39) W #[iv p0, iv p1, iv p2, iv p3, iv len, iv x, iv c0, iv k0, .unset, .unset, .unset, .unset, .unset, .unset, .unset, .unset] at_37 rfl rfl ?_
  refine s_iload_n (pc' := 40) W at_39 rfl rfl ?_
  refine s_sipush (pc' := 43) W (255 : Int32) at_40 rfl rfl ?_
  refine s_iand (pc' := 44) W at_43 rfl ?_
  refine s_i2c (pc' := 45) W at_44 rfl ?_
  have hd0 := L1.char (p2)
  generalize (p2 &&& (255 : Int32)).toUInt32.toUInt16.toUInt32.toInt32 = d0 at hd0 ⊢
  refine s_istore (pc' := 47) W #[iv p0, iv p1, iv p2, iv p3, iv len, iv x, iv c0, iv k0, iv d0, .unset, .unset, .unset, .unset, .unset, .unset, .unset] at_45 rfl rfl ?_
  refine s_iload_n (pc' := 48) W at_47 rfl rfl ?_
  refine s_bipush (pc' := 50) W (16 : Int32) at_48 rfl rfl ?_
  refine s_iushr (pc' := 51) W at_50 rfl ?_
  refine s_sipush (pc' := 54) W (255 : Int32) at_51 rfl rfl ?_
  refine s_iand (pc' := 55) W at_54 rfl ?_
  refine s_i2c (pc' := 56) W at_55 rfl ?_
  have hc1 := L1.char (Jvm.Free.XT.ushr p2 (16 : Int32))
  generalize ((Jvm.Free.XT.ushr p2 (16 : Int32)) &&& (255 : Int32)).toUInt32.toUInt16.toUInt32.toInt32 = c1 at hc1 ⊢
  refine s_istore (pc' := 58) W #[iv p0, iv p1, iv p2, iv p3, iv len, iv x, iv c0, iv k0, iv d0, iv c1, .unset, .unset, .unset, .unset, .unset, .unset] at_56 rfl rfl ?_
  refine s_iload_n (pc' := 59) W at_58 rfl rfl ?_
  refine s_sipush (pc' := 62) W (255 : Int32) at_59 rfl rfl ?_
  refine s_iand (pc' := 63) W at_62 rfl ?_
  refine s_i2c (pc' := 64) W at_63 rfl ?_
  have hk1 := L1.char (p3)
  generalize (p3 &&& (255 : Int32)).toUInt32.toUInt16.toUInt32.toInt32 = k1 at hk1 ⊢
  refine s_istore (pc' := 66) W #[iv p0, iv p1, iv p2, iv p3, iv len, iv x, iv c0, iv k0, iv d0, iv c1, iv k1, .unset, .unset, .unset, .unset, .unset] at_64 rfl rfl ?_
  refine s_iload_n (pc' := 67) W at_66 rfl rfl ?_
  refine s_bipush (pc' := 69) W (16 : Int32) at_67 rfl rfl ?_
  refine s_iushr (pc' := 70) W at_69 rfl ?_
  refine s_sipush (pc' := 73) W (255 : Int32) at_70 rfl rfl ?_
  refine s_iand (pc' := 74) W at_73 rfl ?_
  refine s_i2c (pc' := 75) W at_74 rfl ?_
  have hd1 := L1.char (Jvm.Free.XT.ushr p3 (16 : Int32))
  generalize ((Jvm.Free.XT.ushr p3 (16 : Int32)) &&& (255 : Int32)).toUInt32.toUInt16.toUInt32.toInt32 = d1 at hd1 ⊢
  refine s_istore (pc' := 77) W #[iv p0, iv p1, iv p2, iv p3, iv len, iv x, iv c0, iv k0, iv d0, iv c1, iv k1, iv d1, .unset, .unset, .unset, .unset] at_75 rfl rfl ?_
  refine s_iload (pc' := 79) W at_77 rfl rfl ?_
  rcases hlen with rfl | rfl | rfl
  · refine s_static (pc' := 82) W (w0 hw) (w1 hw) (w2 hw) (w3 hw) (by decide) pd39 [(.int x)] rfl (c_valueofC l hw W.old CS0 hx) all0 rfl at_79 0 (le rfl) (bl rfl) (bl rfl) (by decide) (by decide) rfl ?_
    rintro _ T vm h W C2 ⟨sx, u_sx, m_sx, rfl, K2, G_sx, h1_sx, h2_sx⟩
    refine s_astore (pc' := 84) W #[iv p0, iv p1, iv p2, iv p3, iv (0 : Int32), iv x, iv c0, iv k0, iv d0, iv c1, iv k1, iv d1, rv sx, .unset, .unset, .unset] at_82 rfl rfl rfl ?_
    refine s_new (pc' := 87) W (w26 hw) (w27 hw) (w28 hw) at_84 (by decide) (by decide) rfl ?_
    intro r T h g_r
    have ne_sx_r : @Ne Nat sx r := by have := nlt G_sx.lt; omega
    have ne_u_sx_r : @Ne Nat u_sx r := by have := nlt G_sx.ltb; omega
    intro W K3 C3 M_r E_r D_r U_r
    replace G_sx := G_sx.keep K3 nin0 nin0
    have F_elementData_r : Fld Z _ r "java/util/ArrayList" "elementData" "[Ljava/lang/Object;" .null := D_r (Or.inl (w49 hw)) (ty := (.array (.object "java/lang/Object"))) (by decide)
    have F_size_r : Fld Z _ r "java/util/ArrayList" "size" "I" (.int 0) := D_r (Or.inl (w209 hw)) (ty := .int) (by decide)
    have F_modCount_r : Fld Z _ r "java/util/AbstractList" "modCount" "I" (.int 0) := D_r (Or.inl (w46 hw)) (ty := .int) (by decide)
    refine s_dup (pc' := 88) W at_87 rfl rfl ?_
    refine s_init (pc' := 91) W rfl (w29 hw) (w30 hw) (w28 hw) (w31 hw) (by decide) pd24 [] rfl (c_alinit l hw W.old D E_r M_r.1 M_r.2.1 F_modCount_r F_elementData_r F_size_r) (allS ⟨M_r.2.1, M_r.2.2⟩ all0) rfl at_88 1 (le rfl) (bl rfl) (bl rfl) (by decide) (by decide) rfl ?_
    rintro _ T vm h W C4 ⟨rfl, K4, R_⟩
    replace G_sx := G_sx.keep K4 (ninS ne_sx_r nin0) (ninS ne_u_sx_r nin0)
    replace E_r := E_r.keep K4
    replace M_r := M_r.mv C4
    refine s_astore (pc' := 93) W #[iv p0, iv p1, iv p2, iv p3, iv (0 : Int32), iv x, iv c0, iv k0, iv d0, iv c1, iv k1, iv d1, rv sx, rv r, .unset, .unset] at_91 rfl rfl rfl ?_
    refine s_iload (pc' := 95) W at_93 rfl rfl ?_
    refine s_iconst (pc' := 96) W (1 : Int32) at_95 rfl rfl ?_
    refine s_icmplt (pc' := 99) (pcT := 129) W at_96 (by decide) rfl rfl (fun _ => ?_) (fun hq => absurd (by decide) hq)
    refine s_iload (pc' := 131) W at_129 rfl rfl ?_
    refine s_iconst (pc' := 132) W (2 : Int32) at_131 rfl rfl ?_
    refine s_icmplt (pc' := 135) (pcT := 165) W at_132 (by decide) rfl rfl (fun _ => ?_) (fun hq => absurd (by decide) hq)
    refine s_aload (pc' := 167) W at_165 rfl rfl rfl ?_
    refine s_aload (pc' := 169) W at_167 rfl rfl rfl ?_
    refine s_static (pc' := 172) W (w50 hw) (w51 hw) (w52 hw) (w53 hw) (by decide) pd40 [(.ref sx), (.ref r)] rfl (c_dup0 l hw W.old CS0 D G_sx  R_) all0 rfl at_169 0 (le rfl) (bl rfl) (bl rfl) (by decide) (by decide) rfl ?_
    rintro _ T vm h W C5 ⟨q, rfl, K5, Q_⟩
    replace G_sx := G_sx.keep K5 nin0 nin0
    replace M_r := M_r.mv C5
    replace R_ := R_.keep K5 nin0
    refine s_astore (pc' := 174) W #[iv p0, iv p1, iv p2, iv p3, iv (0 : Int32), iv x, iv c0, iv k0, iv d0, iv c1, iv k1, iv d1, rv sx, rv r, rv q, .unset] at_172 rfl rfl rfl ?_
    refine s_aload (pc' := 176) W at_174 rfl rfl rfl ?_
    refine s_face (pc' := 181) W (C0 := "java/util/ArrayList") (w210 hw) (w211 hw) (w212 hw) (w213 hw) (w214 hw) (w215 hw) (w216 hw) (w179 hw) (w28 hw) (w217 hw) (by decide) pd15 [] rfl Q_.1 (c_alsize l hw W.old Q_.2.2.1) all0 rfl at_176 0 (le rfl) (bl rfl) (bl rfl) (by decide) (by decide) rfl ?_
    rintro _ T vm _ W C6 ⟨rfl, rfl⟩
    refine s_iload (pc' := 183) W at_181 rfl rfl ?_
    refine s_icmpeq (pc' := 186) (pcT := 188) W at_183 (by decide) rfl rfl (fun _ => ?_) (fun hq => absurd (by decide) hq)
    refine s_iconst (pc' := 189) W (1 : Int32) at_188 rfl rfl ?_
    refine s_istore (pc' := 191) W #[iv p0, iv p1, iv p2, iv p3, iv (0 : Int32), iv x, iv c0, iv k0, iv d0, iv c1, iv k1, iv d1, rv sx, rv r, rv q, iv (1 : Int32)] at_189 rfl rfl ?_
    refine s_iload (pc' := 193) W at_191 rfl rfl ?_
    refine s_iconst (pc' := 194) W (1 : Int32) at_193 rfl rfl ?_
    refine s_icmplt (pc' := 197) (pcT := 234) W at_194 (by decide) rfl rfl (fun _ => ?_) (fun hq => absurd (by decide) hq)
    refine s_iload (pc' := 236) W at_234 rfl rfl ?_
    refine s_iconst (pc' := 237) W (2 : Int32) at_236 rfl rfl ?_
    refine s_icmplt (pc' := 240) (pcT := 277) W at_237 (by decide) rfl rfl (fun _ => ?_) (fun hq => absurd (by decide) hq)
    refine s_iload (pc' := 279) W at_277 rfl rfl ?_
    refine s_nreturn W (t := .boolean) rfl (by simp) at_279 (by decide) (by decide) ?_
    intro vm' C'
    exact rfl
  · refine s_static (pc' := 82) W (w0 hw) (w1 hw) (w2 hw) (w3 hw) (by decide) pd39 [(.int x)] rfl (c_valueofC l hw W.old CS0 hx) all0 rfl at_79 0 (le rfl) (bl rfl) (bl rfl) (by decide) (by decide) rfl ?_
    rintro _ T vm h W C8 ⟨sx, u_sx, m_sx, rfl, K8, G_sx, h1_sx, h2_sx⟩
    refine s_astore (pc' := 84) W #[iv p0, iv p1, iv p2, iv p3, iv (1 : Int32), iv x, iv c0, iv k0, iv d0, iv c1, iv k1, iv d1, rv sx, .unset, .unset, .unset] at_82 rfl rfl rfl ?_
    refine s_new (pc' := 87) W (w26 hw) (w27 hw) (w28 hw) at_84 (by decide) (by decide) rfl ?_
    intro r T h g_r
    have ne_sx_r : @Ne Nat sx r := by have := nlt G_sx.lt; omega
    have ne_u_sx_r : @Ne Nat u_sx r := by have := nlt G_sx.ltb; omega
    intro W K9 C9 M_r E_r D_r U_r
    replace G_sx := G_sx.keep K9 nin0 nin0
    have F_elementData_r : Fld Z _ r "java/util/ArrayList" "elementData" "[Ljava/lang/Object;" .null := D_r (Or.inl (w49 hw)) (ty := (.array (.object "java/lang/Object"))) (by decide)
    have F_size_r : Fld Z _ r "java/util/ArrayList" "size" "I" (.int 0) := D_r (Or.inl (w209 hw)) (ty := .int) (by decide)
    have F_modCount_r : Fld Z _ r "java/util/AbstractList" "modCount" "I" (.int 0) := D_r (Or.inl (w46 hw)) (ty := .int) (by decide)
    refine s_dup (pc' := 88) W at_87 rfl rfl ?_
    refine s_init (pc' := 91) W rfl (w29 hw) (w30 hw) (w28 hw) (w31 hw) (by decide) pd24 [] rfl (c_alinit l hw W.old D E_r M_r.1 M_r.2.1 F_modCount_r F_elementData_r F_size_r) (allS ⟨M_r.2.1, M_r.2.2⟩ all0) rfl at_88 1 (le rfl) (bl rfl) (bl rfl) (by decide) (by decide) rfl ?_
    rintro _ T vm h W C10 ⟨rfl, K10, R_⟩
    replace G_sx := G_sx.keep K10 (ninS ne_sx_r nin0) (ninS ne_u_sx_r nin0)
    replace E_r := E_r.keep K10
    replace M_r := M_r.mv C10
    refine s_astore (pc' := 93) W #[iv p0, iv p1, iv p2, iv p3, iv (1 : Int32), iv x, iv c0, iv k0, iv d0, iv c1, iv k1, iv d1, rv sx, rv r, .unset, .unset] at_91 rfl rfl rfl ?_
    refine s_iload (pc' := 95) W at_93 rfl rfl ?_
    refine s_iconst (pc' := 96) W (1 : Int32) at_95 rfl rfl ?_
    refine s_icmplt (pc' := 99) (pcT := 129) W at_96 (by decide) rfl rfl (fun hq => absurd hq (by decide)) (fun _ => ?_)
    refine s_aload (pc' := 101) W at_99 rfl rfl rfl ?_
    refine s_new (pc' := 104) W (w219 hw) (w220 hw) (w221 hw) at_101 (by decide) (by decide) rfl ?_
    intro o0 T h g_o0
    have ne_sx_o0 : @Ne Nat sx o0 := by have := nlt G_sx.lt; omega
    have ne_u_sx_o0 : @Ne Nat u_sx o0 := by have := nlt G_sx.ltb; omega
    have ne_r_o0 : @Ne Nat r o0 := by have := nlt M_r.2.1; omega
    intro W K11 C11 M_o0 E_o0 D_o0 U_o0
    replace G_sx := G_sx.keep K11 nin0 nin0
    replace M_r := M_r.mv C11
    replace R_ := R_.keep K11 nin0
    have F_filterClass_o0 : Fld Z _ o0 "com/example/tiebreak/tiebreak/core/DuplicateRegistration" "filterClass" "Ljava/lang/String;" .null := D_o0 (Or.inr (w227 hw)) (ty := (.object "java/lang/String")) (by decide)
    have F_kept_o0 : Fld Z _ o0 "com/example/tiebreak/tiebreak/core/DuplicateRegistration" "kept" "Ljava/lang/String;" .null := D_o0 (Or.inr (w229 hw)) (ty := (.object "java/lang/String")) (by decide)
    have F_dropped_o0 : Fld Z _ o0 "com/example/tiebreak/tiebreak/core/DuplicateRegistration" "dropped" "Ljava/lang/String;" .null := D_o0 (Or.inr (w231 hw)) (ty := (.object "java/lang/String")) (by decide)
    refine s_dup (pc' := 105) W at_104 rfl rfl ?_
    refine s_iload (pc' := 107) W at_105 rfl rfl ?_
    have lt12_0 := nlt G_sx.lt
    have lt12_1 := nlt G_sx.ltb
    have lt12_2 := nlt M_r.2.1
    have lt12_3 := nlt E_o0.lt
    refine s_static (pc' := 110) W (w0 hw) (w1 hw) (w2 hw) (w3 hw) (by decide) pd39 [(.int c0)] rfl (c_valueofC l hw W.old CS0 hc0) all0 rfl at_107 3 (le rfl) (bl rfl) (bl rfl) (by decide) (by decide) rfl ?_
    rintro _ T vm h W C13 ⟨c0_, u_c0_, m_c0_, rfl, K13, G_c0_, h1_c0_, h2_c0_⟩
    replace G_sx := G_sx.keep K13 nin0 nin0
    replace M_r := M_r.mv C13
    replace R_ := R_.keep K13 nin0
    replace E_o0 := E_o0.keep K13
    replace M_o0 := M_o0.mv C13
    replace F_filterClass_o0 := F_filterClass_o0.keep K13 nin0
    replace F_kept_o0 := F_kept_o0.keep K13 nin0
    replace F_dropped_o0 := F_dropped_o0.keep K13 nin0
    have ne_sx_c0_ : @Ne Nat sx c0_ := by omega
    have ne_u_sx_c0_ : @Ne Nat u_sx c0_ := by omega
    have ne_r_c0_ : @Ne Nat r c0_ := by omega
    have ne_o0_c0_ : @Ne Nat o0 c0_ := by omega
    have ne_sx_u_c0_ : @Ne Nat sx u_c0_ := by omega
    have ne_u_sx_u_c0_ : @Ne Nat u_sx u_c0_ := by omega
    have ne_r_u_c0_ : @Ne Nat r u_c0_ := by omega
    have ne_o0_u_c0_ : @Ne Nat o0 u_c0_ := by omega
    refine s_iload (pc' := 112) W at_110 rfl rfl ?_
    have lt14_0 := nlt G_sx.lt
    have lt14_1 := nlt G_sx.ltb
    have lt14_2 := nlt M_r.2.1
    have lt14_3 := nlt E_o0.lt
    have lt14_4 := nlt G_c0_.lt
    have lt14_5 := nlt G_c0_.ltb
    refine s_static (pc' := 115) W (w0 hw) (w1 hw) (w2 hw) (w3 hw) (by decide) pd39 [(.int k0)] rfl (c_valueofC l hw W.old CS0 hk0) all0 rfl at_112 4 (le rfl) (bl rfl) (bl rfl) (by decide) (by decide) rfl ?_
    rintro _ T vm h W C15 ⟨k0_, u_k0_, m_k0_, rfl, K15, G_k0_, h1_k0_, h2_k0_⟩
    replace G_sx := G_sx.keep K15 nin0 nin0
    replace M_r := M_r.mv C15
    replace R_ := R_.keep K15 nin0
    replace E_o0 := E_o0.keep K15
    replace M_o0 := M_o0.mv C15
    replace F_filterClass_o0 := F_filterClass_o0.keep K15 nin0
    replace F_kept_o0 := F_kept_o0.keep K15 nin0
    replace F_dropped_o0 := F_dropped_o0.keep K15 nin0
    replace G_c0_ := G_c0_.keep K15 nin0 nin0
    have ne_sx_k0_ : @Ne Nat sx k0_ := by omega
    have ne_u_sx_k0_ : @Ne Nat u_sx k0_ := by omega
    have ne_r_k0_ : @Ne Nat r k0_ := by omega
    have ne_o0_k0_ : @Ne Nat o0 k0_ := by omega
    have ne_c0__k0_ : @Ne Nat c0_ k0_ := by omega
    have ne_u_c0__k0_ : @Ne Nat u_c0_ k0_ := by omega
    have ne_sx_u_k0_ : @Ne Nat sx u_k0_ := by omega
    have ne_u_sx_u_k0_ : @Ne Nat u_sx u_k0_ := by omega
    have ne_r_u_k0_ : @Ne Nat r u_k0_ := by omega
    have ne_o0_u_k0_ : @Ne Nat o0 u_k0_ := by omega
    have ne_c0__u_k0_ : @Ne Nat c0_ u_k0_ := by omega
    have ne_u_c0__u_k0_ : @Ne Nat u_c0_ u_k0_ := by omega
    refine s_iload (pc' := 117) W at_115 rfl rfl ?_
    have lt16_0 := nlt G_sx.lt
    have lt16_1 := nlt G_sx.ltb
    have lt16_2 := nlt M_r.2.1
    have lt16_3 := nlt E_o0.lt
    have lt16_4 := nlt G_c0_.lt
    have lt16_5 := nlt G_c0_.ltb
    have lt16_6 := nlt G_k0_.lt
    have lt16_7 := nlt G_k0_.ltb
    refine s_static (pc' := 120) W (w0 hw) (w1 hw) (w2 hw) (w3 hw) (by decide) pd39 [(.int d0)] rfl (c_valueofC l hw W.old CS0 hd0) all0 rfl at_117 5 (le rfl) (bl rfl) (bl rfl) (by decide) (by decide) rfl ?_
    rintro _ T vm h W C17 ⟨d0_, u_d0_, m_d0_, rfl, K17, G_d0_, h1_d0_, h2_d0_⟩
    replace G_sx := G_sx.keep K17 nin0 nin0
    replace M_r := M_r.mv C17
    replace R_ := R_.keep K17 nin0
    replace E_o0 := E_o0.keep K17
    replace M_o0 := M_o0.mv C17
    replace F_filterClass_o0 := F_filterClass_o0.keep K17 nin0
    replace F_kept_o0 := F_kept_o0.keep K17 nin0
    replace F_dropped_o0 := F_dropped_o0.keep K17 nin0
    replace G_c0_ := G_c0_.keep K17 nin0 nin0
    replace G_k0_ := G_k0_.keep K17 nin0 nin0
    have ne_sx_d0_ : @Ne Nat sx d0_ := by omega
    have ne_u_sx_d0_ : @Ne Nat u_sx d0_ := by omega
    have ne_r_d0_ : @Ne Nat r d0_ := by omega
    have ne_o0_d0_ : @Ne Nat o0 d0_ := by omega
    have ne_c0__d0_ : @Ne Nat c0_ d0_ := by omega
    have ne_u_c0__d0_ : @Ne Nat u_c0_ d0_ := by omega
    have ne_k0__d0_ : @Ne Nat k0_ d0_ := by omega
    have ne_u_k0__d0_ : @Ne Nat u_k0_ d0_ := by omega
    have ne_sx_u_d0_ : @Ne Nat sx u_d0_ := by omega
    have ne_u_sx_u_d0_ : @Ne Nat u_sx u_d0_ := by omega
    have ne_r_u_d0_ : @Ne Nat r u_d0_ := by omega
    have ne_o0_u_d0_ : @Ne Nat o0 u_d0_ := by omega
    have ne_c0__u_d0_ : @Ne Nat c0_ u_d0_ := by omega
    have ne_u_c0__u_d0_ : @Ne Nat u_c0_ u_d0_ := by omega
    have ne_k0__u_d0_ : @Ne Nat k0_ u_d0_ := by omega
    have ne_u_k0__u_d0_ : @Ne Nat u_k0_ u_d0_ := by omega
    refine s_init (pc' := 123) W rfl (w222 hw) (w223 hw) (w221 hw) (w224 hw) (by decide) pd41 [(.ref c0_), (.ref k0_), (.ref d0_)] rfl (c_drinit l hw W.old E_o0 M_o0.1 M_o0.2.1 F_filterClass_o0 F_kept_o0 F_dropped_o0) (allS ⟨M_o0.2.1, M_o0.2.2⟩ all0) rfl at_120 2 (le rfl) (bl rfl) (bl rfl) (by decide) (by decide) rfl ?_
    rintro _ T vm h W C18 ⟨rfl, K18, E_o0, Fc0, Fk0, Fd0⟩
    replace G_sx := G_sx.keep K18 (ninS ne_sx_o0 nin0) (ninS ne_u_sx_o0 nin0)
    replace M_r := M_r.mv C18
    replace R_ := R_.keep K18 (ninS ne_r_o0 nin0)
    replace M_o0 := M_o0.mv C18
    replace G_c0_ := G_c0_.keep K18 (ninS (Ne.symm ne_o0_c0_) nin0) (ninS (Ne.symm ne_o0_u_c0_) nin0)
    replace G_k0_ := G_k0_.keep K18 (ninS (Ne.symm ne_o0_k0_) nin0) (ninS (Ne.symm ne_o0_u_k0_) nin0)
    replace G_d0_ := G_d0_.keep K18 (ninS (Ne.symm ne_o0_d0_) nin0) (ninS (Ne.symm ne_o0_u_d0_) nin0)
    have lt19_0 := nlt G_sx.lt
    have lt19_1 := nlt G_sx.ltb
    have lt19_2 := nlt M_r.2.1
    have lt19_3 := nlt G_c0_.lt
    have lt19_4 := nlt G_c0_.ltb
    have lt19_5 := nlt G_k0_.lt
    have lt19_6 := nlt G_k0_.ltb
    have lt19_7 := nlt G_d0_.lt
    have lt19_8 := nlt G_d0_.ltb
    have lt19_9 := nlt E_o0.lt
    refine s_face (pc' := 128) W (C0 := "java/util/ArrayList") (w232 hw) (w233 hw) (w234 hw) (w235 hw) (w236 hw) (w237 hw) (w238 hw) (w179 hw) (w28 hw) (w239 hw) (by decide) pd37 [(.ref o0)] rfl R_.1 (c_addED l hw W.old D E_o0 R_ M_r.1) (allS ⟨M_r.2.1, M_r.2.2⟩ all0) rfl at_123 0 (le rfl) (bl rfl) (bl rfl) (by decide) (by decide) rfl ?_
    rintro _ T vm h W C20 ⟨rfl, K20, rd, krd, RF, hrd, M_rd⟩
    replace G_sx := G_sx.keep K20 (ninS ne_sx_r nin0) (ninS ne_u_sx_r nin0)
    replace M_r := M_r.mv C20
    replace G_c0_ := G_c0_.keep K20 (ninS (Ne.symm ne_r_c0_) nin0) (ninS (Ne.symm ne_r_u_c0_) nin0)
    replace G_k0_ := G_k0_.keep K20 (ninS (Ne.symm ne_r_k0_) nin0) (ninS (Ne.symm ne_r_u_k0_) nin0)
    replace G_d0_ := G_d0_.keep K20 (ninS (Ne.symm ne_r_d0_) nin0) (ninS (Ne.symm ne_r_u_d0_) nin0)
    replace E_o0 := E_o0.keep K20
    replace Fc0 := Fc0.keep K20 (ninS (Ne.symm ne_r_o0) nin0)
    replace Fk0 := Fk0.keep K20 (ninS (Ne.symm ne_r_o0) nin0)
    replace Fd0 := Fd0.keep K20 (ninS (Ne.symm ne_r_o0) nin0)
    have ne_sx_rd : @Ne Nat sx rd := by omega
    have ne_u_sx_rd : @Ne Nat u_sx rd := by omega
    have ne_r_rd : @Ne Nat r rd := by omega
    have ne_c0__rd : @Ne Nat c0_ rd := by omega
    have ne_u_c0__rd : @Ne Nat u_c0_ rd := by omega
    have ne_k0__rd : @Ne Nat k0_ rd := by omega
    have ne_u_k0__rd : @Ne Nat u_k0_ rd := by omega
    have ne_d0__rd : @Ne Nat d0_ rd := by omega
    have ne_u_d0__rd : @Ne Nat u_d0_ rd := by omega
    have ne_o0_rd : @Ne Nat o0 rd := by omega
    refine s_pop (pc' := 129) W at_128 rfl rfl ?_
    refine s_iload (pc' := 131) W at_129 rfl rfl ?_
    refine s_iconst (pc' := 132) W (2 : Int32) at_131 rfl rfl ?_
    refine s_icmplt (pc' := 135) (pcT := 165) W at_132 (by decide) rfl rfl (fun _ => ?_) (fun hq => absurd (by decide) hq)
    refine s_aload (pc' := 167) W at_165 rfl rfl rfl ?_
    refine s_aload (pc' := 169) W at_167 rfl rfl rfl ?_
    refine s_static (pc' := 172) W (w50 hw) (w51 hw) (w52 hw) (w53 hw) (by decide) pd40 [(.ref sx), (.ref r)] rfl (c_dup1 l hw W.old CS0 D G_sx E_o0 Fc0 G_c0_ Fk0 G_k0_ Fd0 G_d0_ RF) all0 rfl at_169 0 (le rfl) (bl rfl) (bl rfl) (by decide) (by decide) rfl ?_
    rintro _ T vm h W C21 ⟨q, qd, kq, t0, ct0, kt0, rfl, K21, Q_, T0⟩
    replace G_sx := G_sx.keep K21 nin0 nin0
    replace M_r := M_r.mv C21
    replace G_c0_ := G_c0_.keep K21 nin0 nin0
    replace G_k0_ := G_k0_.keep K21 nin0 nin0
    replace G_d0_ := G_d0_.keep K21 nin0 nin0
    replace E_o0 := E_o0.keep K21
    replace Fc0 := Fc0.keep K21 nin0
    replace Fk0 := Fk0.keep K21 nin0
    replace Fd0 := Fd0.keep K21 nin0
    replace RF := RF.keep K21 nin0 nin0
    replace M_rd := M_rd.mv C21
    refine s_astore (pc' := 174) W #[iv p0, iv p1, iv p2, iv p3, iv (1 : Int32), iv x, iv c0, iv k0, iv d0, iv c1, iv k1, iv d1, rv sx, rv r, rv q, .unset] at_172 rfl rfl rfl ?_
    refine s_aload (pc' := 176) W at_174 rfl rfl rfl ?_
    refine s_face (pc' := 181) W (C0 := "java/util/ArrayList") (w210 hw) (w211 hw) (w212 hw) (w213 hw) (w214 hw) (w215 hw) (w216 hw) (w179 hw) (w28 hw) (w217 hw) (by decide) pd15 [] rfl Q_.1 (c_alsize l hw W.old Q_.2.2.1) all0 rfl at_176 0 (le rfl) (bl rfl) (bl rfl) (by decide) (by decide) rfl ?_
    rintro _ T vm _ W C22 ⟨rfl, rfl⟩
    refine s_iload (pc' := 183) W at_181 rfl rfl ?_
    refine s_icmpeq (pc' := 186) (pcT := 188) W at_183 (by decide) rfl rfl (fun _ => ?_) (fun hq => absurd (by decide) hq)
    refine s_iconst (pc' := 189) W (1 : Int32) at_188 rfl rfl ?_
    refine s_istore (pc' := 191) W #[iv p0, iv p1, iv p2, iv p3, iv (1 : Int32), iv x, iv c0, iv k0, iv d0, iv c1, iv k1, iv d1, rv sx, rv r, rv q, iv (1 : Int32)] at_189 rfl rfl ?_
    refine s_iload (pc' := 193) W at_191 rfl rfl ?_
    refine s_iconst (pc' := 194) W (1 : Int32) at_193 rfl rfl ?_
    refine s_icmplt (pc' := 197) (pcT := 234) W at_194 (by decide) rfl rfl (fun hq => absurd hq (by decide)) (fun _ => ?_)
    refine s_iload (pc' := 199) W at_197 rfl rfl ?_
    refine s_ifeq (pc' := 202) (pcT := 231) W at_199 (by decide) rfl rfl (fun hq => absurd hq (by decide)) (fun _ => ?_)
    refine s_iload (pc' := 204) W at_202 rfl rfl ?_
    refine s_iload (pc' := 206) W at_204 rfl rfl ?_
    refine s_iload (pc' := 208) W at_206 rfl rfl ?_
    refine s_iload (pc' := 210) W at_208 rfl rfl ?_
    have lt23_0 := nlt Q_.lt
    have lt23_1 := nlt Q_.ltb
    have lt23_2 := nlt T0.lt
    have lt23_3 := nlt T0.ltb
    refine s_static (pc' := 213) W (w314 hw) (w315 hw) (w316 hw) (w317 hw) (by decide) pd42 [(.int x), (.int c0), (.int k0), (.int d0)] rfl (c_expected l hw W.old CS0 hx hc0 hk0 hd0) all0 rfl at_210 0 (le rfl) (bl rfl) (bl rfl) (by decide) (by decide) rfl ?_
    rintro _ T vm h W C24 ⟨x0, xb0, kx0, rfl, K24, X0, hx0⟩
    replace Q_ := Q_.keep K24 nin0 nin0
    replace T0 := T0.keep K24 nin0 nin0
    have ne_q_x0 : @Ne Nat q x0 := by omega
    have ne_qd_x0 : @Ne Nat qd x0 := by omega
    have ne_t0_x0 : @Ne Nat t0 x0 := by omega
    have ne_ct0_x0 : @Ne Nat ct0 x0 := by omega
    refine s_aload (pc' := 215) W at_213 rfl rfl rfl ?_
    refine s_iconst (pc' := 216) W (0 : Int32) at_215 rfl rfl ?_
    refine s_face (pc' := 221) W (C0 := "java/util/ArrayList") (w336 hw) (w337 hw) (w338 hw) (w339 hw) (w340 hw) (w341 hw) (w342 hw) (w179 hw) (w28 hw) (w343 hw) (by decide) pd30 [(.int (0 : Int32))] rfl Q_.1 (c_alget l hw W.old Q_ (i := 0) (by decide) (by decide) (by decide) rfl) all0 rfl at_216 1 (le rfl) (bl rfl) (bl rfl) (by decide) (by decide) rfl ?_
    rintro _ T vm _ W C25 ⟨rfl, rfl⟩
    refine s_virt (pc' := 224) W (C0 := "java/lang/String") (w357 hw) (w358 hw) (w360 hw) (w359 hw) (w2 hw) (w361 hw) (notFace_of_selects (args := a0) (w360 hw)) (by decide) pd37 [(.ref t0)] rfl X0.1 (c_equals l hw W.old CS0 X0 T0 (Ne.symm ne_t0_x0)) all0 rfl at_221 0 (le rfl) (bl rfl) (bl rfl) (by decide) (by decide) rfl ?_
    rintro _ T vm _ W C26 ⟨rfl, rfl⟩
    refine s_ifeq (pc' := 227) (pcT := 231) W at_224 (by decide) rfl rfl (fun hq => absurd hq (by decide)) (fun _ => ?_)
    refine s_iconst (pc' := 228) W (1 : Int32) at_227 rfl rfl ?_
    refine s_goto (pc' := 232) W at_228 (by decide) rfl ?_
    refine s_istore (pc' := 234) W #[iv p0, iv p1, iv p2, iv p3, iv (1 : Int32), iv x, iv c0, iv k0, iv d0, iv c1, iv k1, iv d1, rv sx, rv r, rv q, iv (1 : Int32)] at_232 rfl rfl ?_
    refine s_iload (pc' := 236) W at_234 rfl rfl ?_
    refine s_iconst (pc' := 237) W (2 : Int32) at_236 rfl rfl ?_
    refine s_icmplt (pc' := 240) (pcT := 277) W at_237 (by decide) rfl rfl (fun _ => ?_) (fun hq => absurd (by decide) hq)
    refine s_iload (pc' := 279) W at_277 rfl rfl ?_
    refine s_nreturn W (t := .boolean) rfl (by simp) at_279 (by decide) (by decide) ?_
    intro vm' C'
    exact rfl
  · refine s_static (pc' := 82) W (w0 hw) (w1 hw) (w2 hw) (w3 hw) (by decide) pd39 [(.int x)] rfl (c_valueofC l hw W.old CS0 hx) all0 rfl at_79 0 (le rfl) (bl rfl) (bl rfl) (by decide) (by decide) rfl ?_
    rintro _ T vm h W C28 ⟨sx, u_sx, m_sx, rfl, K28, G_sx, h1_sx, h2_sx⟩
    refine s_astore (pc' := 84) W #[iv p0, iv p1, iv p2, iv p3, iv (2 : Int32), iv x, iv c0, iv k0, iv d0, iv c1, iv k1, iv d1, rv sx, .unset, .unset, .unset] at_82 rfl rfl rfl ?_
    refine s_new (pc' := 87) W (w26 hw) (w27 hw) (w28 hw) at_84 (by decide) (by decide) rfl ?_
    intro r T h g_r
    have ne_sx_r : @Ne Nat sx r := by have := nlt G_sx.lt; omega
    have ne_u_sx_r : @Ne Nat u_sx r := by have := nlt G_sx.ltb; omega
    intro W K29 C29 M_r E_r D_r U_r
    replace G_sx := G_sx.keep K29 nin0 nin0
    have F_elementData_r : Fld Z _ r "java/util/ArrayList" "elementData" "[Ljava/lang/Object;" .null := D_r (Or.inl (w49 hw)) (ty := (.array (.object "java/lang/Object"))) (by decide)
    have F_size_r : Fld Z _ r "java/util/ArrayList" "size" "I" (.int 0) := D_r (Or.inl (w209 hw)) (ty := .int) (by decide)
    have F_modCount_r : Fld Z _ r "java/util/AbstractList" "modCount" "I" (.int 0) := D_r (Or.inl (w46 hw)) (ty := .int) (by decide)
    refine s_dup (pc' := 88) W at_87 rfl rfl ?_
    refine s_init (pc' := 91) W rfl (w29 hw) (w30 hw) (w28 hw) (w31 hw) (by decide) pd24 [] rfl (c_alinit l hw W.old D E_r M_r.1 M_r.2.1 F_modCount_r F_elementData_r F_size_r) (allS ⟨M_r.2.1, M_r.2.2⟩ all0) rfl at_88 1 (le rfl) (bl rfl) (bl rfl) (by decide) (by decide) rfl ?_
    rintro _ T vm h W C30 ⟨rfl, K30, R_⟩
    replace G_sx := G_sx.keep K30 (ninS ne_sx_r nin0) (ninS ne_u_sx_r nin0)
    replace E_r := E_r.keep K30
    replace M_r := M_r.mv C30
    refine s_astore (pc' := 93) W #[iv p0, iv p1, iv p2, iv p3, iv (2 : Int32), iv x, iv c0, iv k0, iv d0, iv c1, iv k1, iv d1, rv sx, rv r, .unset, .unset] at_91 rfl rfl rfl ?_
    refine s_iload (pc' := 95) W at_93 rfl rfl ?_
    refine s_iconst (pc' := 96) W (1 : Int32) at_95 rfl rfl ?_
    refine s_icmplt (pc' := 99) (pcT := 129) W at_96 (by decide) rfl rfl (fun hq => absurd hq (by decide)) (fun _ => ?_)
    refine s_aload (pc' := 101) W at_99 rfl rfl rfl ?_
    refine s_new (pc' := 104) W (w219 hw) (w220 hw) (w221 hw) at_101 (by decide) (by decide) rfl ?_
    intro o0 T h g_o0
    have ne_sx_o0 : @Ne Nat sx o0 := by have := nlt G_sx.lt; omega
    have ne_u_sx_o0 : @Ne Nat u_sx o0 := by have := nlt G_sx.ltb; omega
    have ne_r_o0 : @Ne Nat r o0 := by have := nlt M_r.2.1; omega
    intro W K31 C31 M_o0 E_o0 D_o0 U_o0
    replace G_sx := G_sx.keep K31 nin0 nin0
    replace M_r := M_r.mv C31
    replace R_ := R_.keep K31 nin0
    have F_filterClass_o0 : Fld Z _ o0 "com/example/tiebreak/tiebreak/core/DuplicateRegistration" "filterClass" "Ljava/lang/String;" .null := D_o0 (Or.inr (w227 hw)) (ty := (.object "java/lang/String")) (by decide)
    have F_kept_o0 : Fld Z _ o0 "com/example/tiebreak/tiebreak/core/DuplicateRegistration" "kept" "Ljava/lang/String;" .null := D_o0 (Or.inr (w229 hw)) (ty := (.object "java/lang/String")) (by decide)
    have F_dropped_o0 : Fld Z _ o0 "com/example/tiebreak/tiebreak/core/DuplicateRegistration" "dropped" "Ljava/lang/String;" .null := D_o0 (Or.inr (w231 hw)) (ty := (.object "java/lang/String")) (by decide)
    refine s_dup (pc' := 105) W at_104 rfl rfl ?_
    refine s_iload (pc' := 107) W at_105 rfl rfl ?_
    have lt32_0 := nlt G_sx.lt
    have lt32_1 := nlt G_sx.ltb
    have lt32_2 := nlt M_r.2.1
    have lt32_3 := nlt E_o0.lt
    refine s_static (pc' := 110) W (w0 hw) (w1 hw) (w2 hw) (w3 hw) (by decide) pd39 [(.int c0)] rfl (c_valueofC l hw W.old CS0 hc0) all0 rfl at_107 3 (le rfl) (bl rfl) (bl rfl) (by decide) (by decide) rfl ?_
    rintro _ T vm h W C33 ⟨c0_, u_c0_, m_c0_, rfl, K33, G_c0_, h1_c0_, h2_c0_⟩
    replace G_sx := G_sx.keep K33 nin0 nin0
    replace M_r := M_r.mv C33
    replace R_ := R_.keep K33 nin0
    replace E_o0 := E_o0.keep K33
    replace M_o0 := M_o0.mv C33
    replace F_filterClass_o0 := F_filterClass_o0.keep K33 nin0
    replace F_kept_o0 := F_kept_o0.keep K33 nin0
    replace F_dropped_o0 := F_dropped_o0.keep K33 nin0
    have ne_sx_c0_ : @Ne Nat sx c0_ := by omega
    have ne_u_sx_c0_ : @Ne Nat u_sx c0_ := by omega
    have ne_r_c0_ : @Ne Nat r c0_ := by omega
    have ne_o0_c0_ : @Ne Nat o0 c0_ := by omega
    have ne_sx_u_c0_ : @Ne Nat sx u_c0_ := by omega
    have ne_u_sx_u_c0_ : @Ne Nat u_sx u_c0_ := by omega
    have ne_r_u_c0_ : @Ne Nat r u_c0_ := by omega
    have ne_o0_u_c0_ : @Ne Nat o0 u_c0_ := by omega
    refine s_iload (pc' := 112) W at_110 rfl rfl ?_
    have lt34_0 := nlt G_sx.lt
    have lt34_1 := nlt G_sx.ltb
    have lt34_2 := nlt M_r.2.1
    have lt34_3 := nlt E_o0.lt
    have lt34_4 := nlt G_c0_.lt
    have lt34_5 := nlt G_c0_.ltb
    refine s_static (pc' := 115) W (w0 hw) (w1 hw) (w2 hw) (w3 hw) (by decide) pd39 [(.int k0)] rfl (c_valueofC l hw W.old CS0 hk0) all0 rfl at_112 4 (le rfl) (bl rfl) (bl rfl) (by decide) (by decide) rfl ?_
    rintro _ T vm h W C35 ⟨k0_, u_k0_, m_k0_, rfl, K35, G_k0_, h1_k0_, h2_k0_⟩
    replace G_sx := G_sx.keep K35 nin0 nin0
    replace M_r := M_r.mv C35
    replace R_ := R_.keep K35 nin0
    replace E_o0 := E_o0.keep K35
    replace M_o0 := M_o0.mv C35
    replace F_filterClass_o0 := F_filterClass_o0.keep K35 nin0
    replace F_kept_o0 := F_kept_o0.keep K35 nin0
    replace F_dropped_o0 := F_dropped_o0.keep K35 nin0
    replace G_c0_ := G_c0_.keep K35 nin0 nin0
    have ne_sx_k0_ : @Ne Nat sx k0_ := by omega
    have ne_u_sx_k0_ : @Ne Nat u_sx k0_ := by omega
    have ne_r_k0_ : @Ne Nat r k0_ := by omega
    have ne_o0_k0_ : @Ne Nat o0 k0_ := by omega
    have ne_c0__k0_ : @Ne Nat c0_ k0_ := by omega
    have ne_u_c0__k0_ : @Ne Nat u_c0_ k0_ := by omega
    have ne_sx_u_k0_ : @Ne Nat sx u_k0_ := by omega
    have ne_u_sx_u_k0_ : @Ne Nat u_sx u_k0_ := by omega
    have ne_r_u_k0_ : @Ne Nat r u_k0_ := by omega
    have ne_o0_u_k0_ : @Ne Nat o0 u_k0_ := by omega
    have ne_c0__u_k0_ : @Ne Nat c0_ u_k0_ := by omega
    have ne_u_c0__u_k0_ : @Ne Nat u_c0_ u_k0_ := by omega
    refine s_iload (pc' := 117) W at_115 rfl rfl ?_
    have lt36_0 := nlt G_sx.lt
    have lt36_1 := nlt G_sx.ltb
    have lt36_2 := nlt M_r.2.1
    have lt36_3 := nlt E_o0.lt
    have lt36_4 := nlt G_c0_.lt
    have lt36_5 := nlt G_c0_.ltb
    have lt36_6 := nlt G_k0_.lt
    have lt36_7 := nlt G_k0_.ltb
    refine s_static (pc' := 120) W (w0 hw) (w1 hw) (w2 hw) (w3 hw) (by decide) pd39 [(.int d0)] rfl (c_valueofC l hw W.old CS0 hd0) all0 rfl at_117 5 (le rfl) (bl rfl) (bl rfl) (by decide) (by decide) rfl ?_
    rintro _ T vm h W C37 ⟨d0_, u_d0_, m_d0_, rfl, K37, G_d0_, h1_d0_, h2_d0_⟩
    replace G_sx := G_sx.keep K37 nin0 nin0
    replace M_r := M_r.mv C37
    replace R_ := R_.keep K37 nin0
    replace E_o0 := E_o0.keep K37
    replace M_o0 := M_o0.mv C37
    replace F_filterClass_o0 := F_filterClass_o0.keep K37 nin0
    replace F_kept_o0 := F_kept_o0.keep K37 nin0
    replace F_dropped_o0 := F_dropped_o0.keep K37 nin0
    replace G_c0_ := G_c0_.keep K37 nin0 nin0
    replace G_k0_ := G_k0_.keep K37 nin0 nin0
    have ne_sx_d0_ : @Ne Nat sx d0_ := by omega
    have ne_u_sx_d0_ : @Ne Nat u_sx d0_ := by omega
    have ne_r_d0_ : @Ne Nat r d0_ := by omega
    have ne_o0_d0_ : @Ne Nat o0 d0_ := by omega
    have ne_c0__d0_ : @Ne Nat c0_ d0_ := by omega
    have ne_u_c0__d0_ : @Ne Nat u_c0_ d0_ := by omega
    have ne_k0__d0_ : @Ne Nat k0_ d0_ := by omega
    have ne_u_k0__d0_ : @Ne Nat u_k0_ d0_ := by omega
    have ne_sx_u_d0_ : @Ne Nat sx u_d0_ := by omega
    have ne_u_sx_u_d0_ : @Ne Nat u_sx u_d0_ := by omega
    have ne_r_u_d0_ : @Ne Nat r u_d0_ := by omega
    have ne_o0_u_d0_ : @Ne Nat o0 u_d0_ := by omega
    have ne_c0__u_d0_ : @Ne Nat c0_ u_d0_ := by omega
    have ne_u_c0__u_d0_ : @Ne Nat u_c0_ u_d0_ := by omega
    have ne_k0__u_d0_ : @Ne Nat k0_ u_d0_ := by omega
    have ne_u_k0__u_d0_ : @Ne Nat u_k0_ u_d0_ := by omega
    refine s_init (pc' := 123) W rfl (w222 hw) (w223 hw) (w221 hw) (w224 hw) (by decide) pd41 [(.ref c0_), (.ref k0_), (.ref d0_)] rfl (c_drinit l hw W.old E_o0 M_o0.1 M_o0.2.1 F_filterClass_o0 F_kept_o0 F_dropped_o0) (allS ⟨M_o0.2.1, M_o0.2.2⟩ all0) rfl at_120 2 (le rfl) (bl rfl) (bl rfl) (by decide) (by decide) rfl ?_
    rintro _ T vm h W C38 ⟨rfl, K38, E_o0, Fc0, Fk0, Fd0⟩
    replace G_sx := G_sx.keep K38 (ninS ne_sx_o0 nin0) (ninS ne_u_sx_o0 nin0)
    replace M_r := M_r.mv C38
    replace R_ := R_.keep K38 (ninS ne_r_o0 nin0)
    replace M_o0 := M_o0.mv C38
    replace G_c0_ := G_c0_.keep K38 (ninS (Ne.symm ne_o0_c0_) nin0) (ninS (Ne.symm ne_o0_u_c0_) nin0)
    replace G_k0_ := G_k0_.keep K38 (ninS (Ne.symm ne_o0_k0_) nin0) (ninS (Ne.symm ne_o0_u_k0_) nin0)
    replace G_d0_ := G_d0_.keep K38 (ninS (Ne.symm ne_o0_d0_) nin0) (ninS (Ne.symm ne_o0_u_d0_) nin0)
    have lt39_0 := nlt G_sx.lt
    have lt39_1 := nlt G_sx.ltb
    have lt39_2 := nlt M_r.2.1
    have lt39_3 := nlt G_c0_.lt
    have lt39_4 := nlt G_c0_.ltb
    have lt39_5 := nlt G_k0_.lt
    have lt39_6 := nlt G_k0_.ltb
    have lt39_7 := nlt G_d0_.lt
    have lt39_8 := nlt G_d0_.ltb
    have lt39_9 := nlt E_o0.lt
    refine s_face (pc' := 128) W (C0 := "java/util/ArrayList") (w232 hw) (w233 hw) (w234 hw) (w235 hw) (w236 hw) (w237 hw) (w238 hw) (w179 hw) (w28 hw) (w239 hw) (by decide) pd37 [(.ref o0)] rfl R_.1 (c_addED l hw W.old D E_o0 R_ M_r.1) (allS ⟨M_r.2.1, M_r.2.2⟩ all0) rfl at_123 0 (le rfl) (bl rfl) (bl rfl) (by decide) (by decide) rfl ?_
    rintro _ T vm h W C40 ⟨rfl, K40, rd, krd, RF, hrd, M_rd⟩
    replace G_sx := G_sx.keep K40 (ninS ne_sx_r nin0) (ninS ne_u_sx_r nin0)
    replace M_r := M_r.mv C40
    replace G_c0_ := G_c0_.keep K40 (ninS (Ne.symm ne_r_c0_) nin0) (ninS (Ne.symm ne_r_u_c0_) nin0)
    replace G_k0_ := G_k0_.keep K40 (ninS (Ne.symm ne_r_k0_) nin0) (ninS (Ne.symm ne_r_u_k0_) nin0)
    replace G_d0_ := G_d0_.keep K40 (ninS (Ne.symm ne_r_d0_) nin0) (ninS (Ne.symm ne_r_u_d0_) nin0)
    replace E_o0 := E_o0.keep K40
    replace Fc0 := Fc0.keep K40 (ninS (Ne.symm ne_r_o0) nin0)
    replace Fk0 := Fk0.keep K40 (ninS (Ne.symm ne_r_o0) nin0)
    replace Fd0 := Fd0.keep K40 (ninS (Ne.symm ne_r_o0) nin0)
    have ne_sx_rd : @Ne Nat sx rd := by omega
    have ne_u_sx_rd : @Ne Nat u_sx rd := by omega
    have ne_r_rd : @Ne Nat r rd := by omega
    have ne_c0__rd : @Ne Nat c0_ rd := by omega
    have ne_u_c0__rd : @Ne Nat u_c0_ rd := by omega
    have ne_k0__rd : @Ne Nat k0_ rd := by omega
    have ne_u_k0__rd : @Ne Nat u_k0_ rd := by omega
    have ne_d0__rd : @Ne Nat d0_ rd := by omega
    have ne_u_d0__rd : @Ne Nat u_d0_ rd := by omega
    have ne_o0_rd : @Ne Nat o0 rd := by omega
    refine s_pop (pc' := 129) W at_128 rfl rfl ?_
    refine s_iload (pc' := 131) W at_129 rfl rfl ?_
    refine s_iconst (pc' := 132) W (2 : Int32) at_131 rfl rfl ?_
    refine s_icmplt (pc' := 135) (pcT := 165) W at_132 (by decide) rfl rfl (fun hq => absurd hq (by decide)) (fun _ => ?_)
    refine s_aload (pc' := 137) W at_135 rfl rfl rfl ?_
    refine s_new (pc' := 140) W (w219 hw) (w220 hw) (w221 hw) at_137 (by decide) (by decide) rfl ?_
    intro o1 T h g_o1
    have ne_sx_o1 : @Ne Nat sx o1 := by have := nlt G_sx.lt; omega
    have ne_u_sx_o1 : @Ne Nat u_sx o1 := by have := nlt G_sx.ltb; omega
    have ne_r_o1 : @Ne Nat r o1 := by have := nlt M_r.2.1; omega
    have ne_c0__o1 : @Ne Nat c0_ o1 := by have := nlt G_c0_.lt; omega
    have ne_u_c0__o1 : @Ne Nat u_c0_ o1 := by have := nlt G_c0_.ltb; omega
    have ne_k0__o1 : @Ne Nat k0_ o1 := by have := nlt G_k0_.lt; omega
    have ne_u_k0__o1 : @Ne Nat u_k0_ o1 := by have := nlt G_k0_.ltb; omega
    have ne_d0__o1 : @Ne Nat d0_ o1 := by have := nlt G_d0_.lt; omega
    have ne_u_d0__o1 : @Ne Nat u_d0_ o1 := by have := nlt G_d0_.ltb; omega
    have ne_o0_o1 : @Ne Nat o0 o1 := by have := nlt E_o0.lt; omega
    have ne_rd_o1 : @Ne Nat rd o1 := by have := nlt RF.ltb; omega
    intro W K41 C41 M_o1 E_o1 D_o1 U_o1
    replace G_sx := G_sx.keep K41 nin0 nin0
    replace M_r := M_r.mv C41
    replace G_c0_ := G_c0_.keep K41 nin0 nin0
    replace G_k0_ := G_k0_.keep K41 nin0 nin0
    replace G_d0_ := G_d0_.keep K41 nin0 nin0
    replace E_o0 := E_o0.keep K41
    replace Fc0 := Fc0.keep K41 nin0
    replace Fk0 := Fk0.keep K41 nin0
    replace Fd0 := Fd0.keep K41 nin0
    replace RF := RF.keep K41 nin0 nin0
    replace M_rd := M_rd.mv C41
    have F_filterClass_o1 : Fld Z _ o1 "com/example/tiebreak/tiebreak/core/DuplicateRegistration" "filterClass" "Ljava/lang/String;" .null := D_o1 (Or.inr (w227 hw)) (ty := (.object "java/lang/String")) (by decide)
    have F_kept_o1 : Fld Z _ o1 "com/example/tiebreak/tiebreak/core/DuplicateRegistration" "kept" "Ljava/lang/String;" .null := D_o1 (Or.inr (w229 hw)) (ty := (.object "java/lang/String")) (by decide)
    have F_dropped_o1 : Fld Z _ o1 "com/example/tiebreak/tiebreak/core/DuplicateRegistration" "dropped" "Ljava/lang/String;" .null := D_o1 (Or.inr (w231 hw)) (ty := (.object "java/lang/String")) (by decide)
    refine s_dup (pc' := 141) W at_140 rfl rfl ?_
    refine s_iload (pc' := 143) W at_141 rfl rfl ?_
    have lt42_0 := nlt G_sx.lt
    have lt42_1 := nlt G_sx.ltb
    have lt42_2 := nlt M_r.2.1
    have lt42_3 := nlt G_c0_.lt
    have lt42_4 := nlt G_c0_.ltb
    have lt42_5 := nlt G_k0_.lt
    have lt42_6 := nlt G_k0_.ltb
    have lt42_7 := nlt G_d0_.lt
    have lt42_8 := nlt G_d0_.ltb
    have lt42_9 := nlt E_o0.lt
    have lt42_10 := nlt RF.ltb
    have lt42_11 := nlt E_o1.lt
    refine s_static (pc' := 146) W (w0 hw) (w1 hw) (w2 hw) (w3 hw) (by decide) pd39 [(.int c1)] rfl (c_valueofC l hw W.old CS0 hc1) all0 rfl at_143 3 (le rfl) (bl rfl) (bl rfl) (by decide) (by decide) rfl ?_
    rintro _ T vm h W C43 ⟨c1_, u_c1_, m_c1_, rfl, K43, G_c1_, h1_c1_, h2_c1_⟩
    replace G_sx := G_sx.keep K43 nin0 nin0
    replace M_r := M_r.mv C43
    replace G_c0_ := G_c0_.keep K43 nin0 nin0
    replace G_k0_ := G_k0_.keep K43 nin0 nin0
    replace G_d0_ := G_d0_.keep K43 nin0 nin0
    replace E_o0 := E_o0.keep K43
    replace Fc0 := Fc0.keep K43 nin0
    replace Fk0 := Fk0.keep K43 nin0
    replace Fd0 := Fd0.keep K43 nin0
    replace RF := RF.keep K43 nin0 nin0
    replace M_rd := M_rd.mv C43
    replace E_o1 := E_o1.keep K43
    replace M_o1 := M_o1.mv C43
    replace F_filterClass_o1 := F_filterClass_o1.keep K43 nin0
    replace F_kept_o1 := F_kept_o1.keep K43 nin0
    replace F_dropped_o1 := F_dropped_o1.keep K43 nin0
    have ne_sx_c1_ : @Ne Nat sx c1_ := by omega
    have ne_u_sx_c1_ : @Ne Nat u_sx c1_ := by omega
    have ne_r_c1_ : @Ne Nat r c1_ := by omega
    have ne_c0__c1_ : @Ne Nat c0_ c1_ := by omega
    have ne_u_c0__c1_ : @Ne Nat u_c0_ c1_ := by omega
    have ne_k0__c1_ : @Ne Nat k0_ c1_ := by omega
    have ne_u_k0__c1_ : @Ne Nat u_k0_ c1_ := by omega
    have ne_d0__c1_ : @Ne Nat d0_ c1_ := by omega
    have ne_u_d0__c1_ : @Ne Nat u_d0_ c1_ := by omega
    have ne_o0_c1_ : @Ne Nat o0 c1_ := by omega
    have ne_rd_c1_ : @Ne Nat rd c1_ := by omega
    have ne_o1_c1_ : @Ne Nat o1 c1_ := by omega
    have ne_sx_u_c1_ : @Ne Nat sx u_c1_ := by omega
    have ne_u_sx_u_c1_ : @Ne Nat u_sx u_c1_ := by omega
    have ne_r_u_c1_ : @Ne Nat r u_c1_ := by omega
    have ne_c0__u_c1_ : @Ne Nat c0_ u_c1_ := by omega
    have ne_u_c0__u_c1_ : @Ne Nat u_c0_ u_c1_ := by omega
    have ne_k0__u_c1_ : @Ne Nat k0_ u_c1_ := by omega
    have ne_u_k0__u_c1_ : @Ne Nat u_k0_ u_c1_ := by omega
    have ne_d0__u_c1_ : @Ne Nat d0_ u_c1_ := by omega
    have ne_u_d0__u_c1_ : @Ne Nat u_d0_ u_c1_ := by omega
    have ne_o0_u_c1_ : @Ne Nat o0 u_c1_ := by omega
    have ne_rd_u_c1_ : @Ne Nat rd u_c1_ := by omega
    have ne_o1_u_c1_ : @Ne Nat o1 u_c1_ := by omega
    refine s_iload (pc' := 148) W at_146 rfl rfl ?_
    have lt44_0 := nlt G_sx.lt
    have lt44_1 := nlt G_sx.ltb
    have lt44_2 := nlt M_r.2.1
    have lt44_3 := nlt G_c0_.lt
    have lt44_4 := nlt G_c0_.ltb
    have lt44_5 := nlt G_k0_.lt
    have lt44_6 := nlt G_k0_.ltb
    have lt44_7 := nlt G_d0_.lt
    have lt44_8 := nlt G_d0_.ltb
    have lt44_9 := nlt E_o0.lt
    have lt44_10 := nlt RF.ltb
    have lt44_11 := nlt E_o1.lt
    have lt44_12 := nlt G_c1_.lt
    have lt44_13 := nlt G_c1_.ltb
    refine s_static (pc' := 151) W (w0 hw) (w1 hw) (w2 hw) (w3 hw) (by decide) pd39 [(.int k1)] rfl (c_valueofC l hw W.old CS0 hk1) all0 rfl at_148 4 (le rfl) (bl rfl) (bl rfl) (by decide) (by decide) rfl ?_
    rintro _ T vm h W C45 ⟨k1_, u_k1_, m_k1_, rfl, K45, G_k1_, h1_k1_, h2_k1_⟩
    replace G_sx := G_sx.keep K45 nin0 nin0
    replace M_r := M_r.mv C45
    replace G_c0_ := G_c0_.keep K45 nin0 nin0
    replace G_k0_ := G_k0_.keep K45 nin0 nin0
    replace G_d0_ := G_d0_.keep K45 nin0 nin0
    replace E_o0 := E_o0.keep K45
    replace Fc0 := Fc0.keep K45 nin0
    replace Fk0 := Fk0.keep K45 nin0
    replace Fd0 := Fd0.keep K45 nin0
    replace RF := RF.keep K45 nin0 nin0
    replace M_rd := M_rd.mv C45
    replace E_o1 := E_o1.keep K45
    replace M_o1 := M_o1.mv C45
    replace F_filterClass_o1 := F_filterClass_o1.keep K45 nin0
    replace F_kept_o1 := F_kept_o1.keep K45 nin0
    replace F_dropped_o1 := F_dropped_o1.keep K45 nin0
    replace G_c1_ := G_c1_.keep K45 nin0 nin0
    have ne_sx_k1_ : @Ne Nat sx k1_ := by omega
    have ne_u_sx_k1_ : @Ne Nat u_sx k1_ := by omega
    have ne_r_k1_ : @Ne Nat r k1_ := by omega
    have ne_c0__k1_ : @Ne Nat c0_ k1_ := by omega
    have ne_u_c0__k1_ : @Ne Nat u_c0_ k1_ := by omega
    have ne_k0__k1_ : @Ne Nat k0_ k1_ := by omega
    have ne_u_k0__k1_ : @Ne Nat u_k0_ k1_ := by omega
    have ne_d0__k1_ : @Ne Nat d0_ k1_ := by omega
    have ne_u_d0__k1_ : @Ne Nat u_d0_ k1_ := by omega
    have ne_o0_k1_ : @Ne Nat o0 k1_ := by omega
    have ne_rd_k1_ : @Ne Nat rd k1_ := by omega
    have ne_o1_k1_ : @Ne Nat o1 k1_ := by omega
    have ne_c1__k1_ : @Ne Nat c1_ k1_ := by omega
    have ne_u_c1__k1_ : @Ne Nat u_c1_ k1_ := by omega
    have ne_sx_u_k1_ : @Ne Nat sx u_k1_ := by omega
    have ne_u_sx_u_k1_ : @Ne Nat u_sx u_k1_ := by omega
    have ne_r_u_k1_ : @Ne Nat r u_k1_ := by omega
    have ne_c0__u_k1_ : @Ne Nat c0_ u_k1_ := by omega
    have ne_u_c0__u_k1_ : @Ne Nat u_c0_ u_k1_ := by omega
    have ne_k0__u_k1_ : @Ne Nat k0_ u_k1_ := by omega
    have ne_u_k0__u_k1_ : @Ne Nat u_k0_ u_k1_ := by omega
    have ne_d0__u_k1_ : @Ne Nat d0_ u_k1_ := by omega
    have ne_u_d0__u_k1_ : @Ne Nat u_d0_ u_k1_ := by omega
    have ne_o0_u_k1_ : @Ne Nat o0 u_k1_ := by omega
    have ne_rd_u_k1_ : @Ne Nat rd u_k1_ := by omega
    have ne_o1_u_k1_ : @Ne Nat o1 u_k1_ := by omega
    have ne_c1__u_k1_ : @Ne Nat c1_ u_k1_ := by omega
    have ne_u_c1__u_k1_ : @Ne Nat u_c1_ u_k1_ := by omega
    refine s_iload (pc' := 153) W at_151 rfl rfl ?_
    have lt46_0 := nlt G_sx.lt
    have lt46_1 := nlt G_sx.ltb
    have lt46_2 := nlt M_r.2.1
    have lt46_3 := nlt G_c0_.lt
    have lt46_4 := nlt G_c0_.ltb
    have lt46_5 := nlt G_k0_.lt
    have lt46_6 := nlt G_k0_.ltb
    have lt46_7 := nlt G_d0_.lt
    have lt46_8 := nlt G_d0_.ltb
    have lt46_9 := nlt E_o0.lt
    have lt46_10 := nlt RF.ltb
    have lt46_11 := nlt E_o1.lt
    have lt46_12 := nlt G_c1_.lt
    have lt46_13 := nlt G_c1_.ltb
    have lt46_14 := nlt G_k1_.lt
    have lt46_15 := nlt G_k1_.ltb
    refine s_static (pc' := 156) W (w0 hw) (w1 hw) (w2 hw) (w3 hw) (by decide) pd39 [(.int d1)] rfl (c_valueofC l hw W.old CS0 hd1) all0 rfl at_153 5 (le rfl) (bl rfl) (bl rfl) (by decide) (by decide) rfl ?_
    rintro _ T vm h W C47 ⟨d1_, u_d1_, m_d1_, rfl, K47, G_d1_, h1_d1_, h2_d1_⟩
    replace G_sx := G_sx.keep K47 nin0 nin0
    replace M_r := M_r.mv C47
    replace G_c0_ := G_c0_.keep K47 nin0 nin0
    replace G_k0_ := G_k0_.keep K47 nin0 nin0
    replace G_d0_ := G_d0_.keep K47 nin0 nin0
    replace E_o0 := E_o0.keep K47
    replace Fc0 := Fc0.keep K47 nin0
    replace Fk0 := Fk0.keep K47 nin0
    replace Fd0 := Fd0.keep K47 nin0
    replace RF := RF.keep K47 nin0 nin0
    replace M_rd := M_rd.mv C47
    replace E_o1 := E_o1.keep K47
    replace M_o1 := M_o1.mv C47
    replace F_filterClass_o1 := F_filterClass_o1.keep K47 nin0
    replace F_kept_o1 := F_kept_o1.keep K47 nin0
    replace F_dropped_o1 := F_dropped_o1.keep K47 nin0
    replace G_c1_ := G_c1_.keep K47 nin0 nin0
    replace G_k1_ := G_k1_.keep K47 nin0 nin0
    have ne_sx_d1_ : @Ne Nat sx d1_ := by omega
    have ne_u_sx_d1_ : @Ne Nat u_sx d1_ := by omega
    have ne_r_d1_ : @Ne Nat r d1_ := by omega
    have ne_c0__d1_ : @Ne Nat c0_ d1_ := by omega
    have ne_u_c0__d1_ : @Ne Nat u_c0_ d1_ := by omega
    have ne_k0__d1_ : @Ne Nat k0_ d1_ := by omega
    have ne_u_k0__d1_ : @Ne Nat u_k0_ d1_ := by omega
    have ne_d0__d1_ : @Ne Nat d0_ d1_ := by omega
    have ne_u_d0__d1_ : @Ne Nat u_d0_ d1_ := by omega
    have ne_o0_d1_ : @Ne Nat o0 d1_ := by omega
    have ne_rd_d1_ : @Ne Nat rd d1_ := by omega
    have ne_o1_d1_ : @Ne Nat o1 d1_ := by omega
    have ne_c1__d1_ : @Ne Nat c1_ d1_ := by omega
    have ne_u_c1__d1_ : @Ne Nat u_c1_ d1_ := by omega
    have ne_k1__d1_ : @Ne Nat k1_ d1_ := by omega
    have ne_u_k1__d1_ : @Ne Nat u_k1_ d1_ := by omega
    have ne_sx_u_d1_ : @Ne Nat sx u_d1_ := by omega
    have ne_u_sx_u_d1_ : @Ne Nat u_sx u_d1_ := by omega
    have ne_r_u_d1_ : @Ne Nat r u_d1_ := by omega
    have ne_c0__u_d1_ : @Ne Nat c0_ u_d1_ := by omega
    have ne_u_c0__u_d1_ : @Ne Nat u_c0_ u_d1_ := by omega
    have ne_k0__u_d1_ : @Ne Nat k0_ u_d1_ := by omega
    have ne_u_k0__u_d1_ : @Ne Nat u_k0_ u_d1_ := by omega
    have ne_d0__u_d1_ : @Ne Nat d0_ u_d1_ := by omega
    have ne_u_d0__u_d1_ : @Ne Nat u_d0_ u_d1_ := by omega
    have ne_o0_u_d1_ : @Ne Nat o0 u_d1_ := by omega
    have ne_rd_u_d1_ : @Ne Nat rd u_d1_ := by omega
    have ne_o1_u_d1_ : @Ne Nat o1 u_d1_ := by omega
    have ne_c1__u_d1_ : @Ne Nat c1_ u_d1_ := by omega
    have ne_u_c1__u_d1_ : @Ne Nat u_c1_ u_d1_ := by omega
    have ne_k1__u_d1_ : @Ne Nat k1_ u_d1_ := by omega
    have ne_u_k1__u_d1_ : @Ne Nat u_k1_ u_d1_ := by omega
    refine s_init (pc' := 159) W rfl (w222 hw) (w223 hw) (w221 hw) (w224 hw) (by decide) pd41 [(.ref c1_), (.ref k1_), (.ref d1_)] rfl (c_drinit l hw W.old E_o1 M_o1.1 M_o1.2.1 F_filterClass_o1 F_kept_o1 F_dropped_o1) (allS ⟨M_o1.2.1, M_o1.2.2⟩ all0) rfl at_156 2 (le rfl) (bl rfl) (bl rfl) (by decide) (by decide) rfl ?_
    rintro _ T vm h W C48 ⟨rfl, K48, E_o1, Fc1, Fk1, Fd1⟩
    replace G_sx := G_sx.keep K48 (ninS ne_sx_o1 nin0) (ninS ne_u_sx_o1 nin0)
    replace M_r := M_r.mv C48
    replace G_c0_ := G_c0_.keep K48 (ninS ne_c0__o1 nin0) (ninS ne_u_c0__o1 nin0)
    replace G_k0_ := G_k0_.keep K48 (ninS ne_k0__o1 nin0) (ninS ne_u_k0__o1 nin0)
    replace G_d0_ := G_d0_.keep K48 (ninS ne_d0__o1 nin0) (ninS ne_u_d0__o1 nin0)
    replace E_o0 := E_o0.keep K48
    replace Fc0 := Fc0.keep K48 (ninS ne_o0_o1 nin0)
    replace Fk0 := Fk0.keep K48 (ninS ne_o0_o1 nin0)
    replace Fd0 := Fd0.keep K48 (ninS ne_o0_o1 nin0)
    replace RF := RF.keep K48 (ninS ne_r_o1 nin0) (ninS ne_rd_o1 nin0)
    replace M_rd := M_rd.mv C48
    replace M_o1 := M_o1.mv C48
    replace G_c1_ := G_c1_.keep K48 (ninS (Ne.symm ne_o1_c1_) nin0) (ninS (Ne.symm ne_o1_u_c1_) nin0)
    replace G_k1_ := G_k1_.keep K48 (ninS (Ne.symm ne_o1_k1_) nin0) (ninS (Ne.symm ne_o1_u_k1_) nin0)
    replace G_d1_ := G_d1_.keep K48 (ninS (Ne.symm ne_o1_d1_) nin0) (ninS (Ne.symm ne_o1_u_d1_) nin0)
    refine s_face (pc' := 164) W (C0 := "java/util/ArrayList") (w232 hw) (w233 hw) (w234 hw) (w235 hw) (w236 hw) (w237 hw) (w238 hw) (w179 hw) (w28 hw) (w239 hw) (by decide) pd37 [(.ref o1)] rfl RF.1 (c_addFD l hw W.old E_o1 RF ne_r_rd M_r.1 M_rd.1) (allS ⟨M_r.2.1, M_r.2.2⟩ (allS ⟨M_rd.2.1, M_rd.2.2⟩ all0)) rfl at_159 0 (le rfl) (bl rfl) (bl rfl) (by decide) (by decide) rfl ?_
    rintro _ T vm h W C49 ⟨rfl, K49, RF⟩
    replace G_sx := G_sx.keep K49 (ninS ne_sx_r (ninS ne_sx_rd nin0)) (ninS ne_u_sx_r (ninS ne_u_sx_rd nin0))
    replace M_r := M_r.mv C49
    replace G_c0_ := G_c0_.keep K49 (ninS (Ne.symm ne_r_c0_) (ninS ne_c0__rd nin0)) (ninS (Ne.symm ne_r_u_c0_) (ninS ne_u_c0__rd nin0))
    replace G_k0_ := G_k0_.keep K49 (ninS (Ne.symm ne_r_k0_) (ninS ne_k0__rd nin0)) (ninS (Ne.symm ne_r_u_k0_) (ninS ne_u_k0__rd nin0))
    replace G_d0_ := G_d0_.keep K49 (ninS (Ne.symm ne_r_d0_) (ninS ne_d0__rd nin0)) (ninS (Ne.symm ne_r_u_d0_) (ninS ne_u_d0__rd nin0))
    replace E_o0 := E_o0.keep K49
    replace Fc0 := Fc0.keep K49 (ninS (Ne.symm ne_r_o0) (ninS ne_o0_rd nin0))
    replace Fk0 := Fk0.keep K49 (ninS (Ne.symm ne_r_o0) (ninS ne_o0_rd nin0))
    replace Fd0 := Fd0.keep K49 (ninS (Ne.symm ne_r_o0) (ninS ne_o0_rd nin0))
    replace M_rd := M_rd.mv C49
    replace G_c1_ := G_c1_.keep K49 (ninS (Ne.symm ne_r_c1_) (ninS (Ne.symm ne_rd_c1_) nin0)) (ninS (Ne.symm ne_r_u_c1_) (ninS (Ne.symm ne_rd_u_c1_) nin0))
    replace G_k1_ := G_k1_.keep K49 (ninS (Ne.symm ne_r_k1_) (ninS (Ne.symm ne_rd_k1_) nin0)) (ninS (Ne.symm ne_r_u_k1_) (ninS (Ne.symm ne_rd_u_k1_) nin0))
    replace G_d1_ := G_d1_.keep K49 (ninS (Ne.symm ne_r_d1_) (ninS (Ne.symm ne_rd_d1_) nin0)) (ninS (Ne.symm ne_r_u_d1_) (ninS (Ne.symm ne_rd_u_d1_) nin0))
    replace E_o1 := E_o1.keep K49
    replace Fc1 := Fc1.keep K49 (ninS (Ne.symm ne_r_o1) (ninS (Ne.symm ne_rd_o1) nin0))
    replace Fk1 := Fk1.keep K49 (ninS (Ne.symm ne_r_o1) (ninS (Ne.symm ne_rd_o1) nin0))
    replace Fd1 := Fd1.keep K49 (ninS (Ne.symm ne_r_o1) (ninS (Ne.symm ne_rd_o1) nin0))
    refine s_pop (pc' := 165) W at_164 rfl rfl ?_
    refine s_aload (pc' := 167) W at_165 rfl rfl rfl ?_
    refine s_aload (pc' := 169) W at_167 rfl rfl rfl ?_
    refine s_static (pc' := 172) W (w50 hw) (w51 hw) (w52 hw) (w53 hw) (by decide) pd40 [(.ref sx), (.ref r)] rfl (c_dup2 l hw W.old CS0 D G_sx E_o0 Fc0 G_c0_ Fk0 G_k0_ Fd0 G_d0_ E_o1 Fc1 G_c1_ Fk1 G_k1_ Fd1 G_d1_ RF) all0 rfl at_169 0 (le rfl) (bl rfl) (bl rfl) (by decide) (by decide) rfl ?_
    rintro _ T vm h W C50 ⟨q, qd, kq, t0, ct0, kt0, t1, ct1, kt1, rfl, K50, Q_, T0, T1⟩
    replace G_sx := G_sx.keep K50 nin0 nin0
    replace M_r := M_r.mv C50
    replace G_c0_ := G_c0_.keep K50 nin0 nin0
    replace G_k0_ := G_k0_.keep K50 nin0 nin0
    replace G_d0_ := G_d0_.keep K50 nin0 nin0
    replace E_o0 := E_o0.keep K50
    replace Fc0 := Fc0.keep K50 nin0
    replace Fk0 := Fk0.keep K50 nin0
    replace Fd0 := Fd0.keep K50 nin0
    replace M_rd := M_rd.mv C50
    replace G_c1_ := G_c1_.keep K50 nin0 nin0
    replace G_k1_ := G_k1_.keep K50 nin0 nin0
    replace G_d1_ := G_d1_.keep K50 nin0 nin0
    replace E_o1 := E_o1.keep K50
    replace Fc1 := Fc1.keep K50 nin0
    replace Fk1 := Fk1.keep K50 nin0
    replace Fd1 := Fd1.keep K50 nin0
    replace RF := RF.keep K50 nin0 nin0
    refine s_astore (pc' := 174) W #[iv p0, iv p1, iv p2, iv p3, iv (2 : Int32), iv x, iv c0, iv k0, iv d0, iv c1, iv k1, iv d1, rv sx, rv r, rv q, .unset] at_172 rfl rfl rfl ?_
    refine s_aload (pc' := 176) W at_174 rfl rfl rfl ?_
    refine s_face (pc' := 181) W (C0 := "java/util/ArrayList") (w210 hw) (w211 hw) (w212 hw) (w213 hw) (w214 hw) (w215 hw) (w216 hw) (w179 hw) (w28 hw) (w217 hw) (by decide) pd15 [] rfl Q_.1 (c_alsize l hw W.old Q_.2.2.1) all0 rfl at_176 0 (le rfl) (bl rfl) (bl rfl) (by decide) (by decide) rfl ?_
    rintro _ T vm _ W C51 ⟨rfl, rfl⟩
    refine s_iload (pc' := 183) W at_181 rfl rfl ?_
    refine s_icmpeq (pc' := 186) (pcT := 188) W at_183 (by decide) rfl rfl (fun _ => ?_) (fun hq => absurd (by decide) hq)
    refine s_iconst (pc' := 189) W (1 : Int32) at_188 rfl rfl ?_
    refine s_istore (pc' := 191) W #[iv p0, iv p1, iv p2, iv p3, iv (2 : Int32), iv x, iv c0, iv k0, iv d0, iv c1, iv k1, iv d1, rv sx, rv r, rv q, iv (1 : Int32)] at_189 rfl rfl ?_
    refine s_iload (pc' := 193) W at_191 rfl rfl ?_
    refine s_iconst (pc' := 194) W (1 : Int32) at_193 rfl rfl ?_
    refine s_icmplt (pc' := 197) (pcT := 234) W at_194 (by decide) rfl rfl (fun hq => absurd hq (by decide)) (fun _ => ?_)
    refine s_iload (pc' := 199) W at_197 rfl rfl ?_
    refine s_ifeq (pc' := 202) (pcT := 231) W at_199 (by decide) rfl rfl (fun hq => absurd hq (by decide)) (fun _ => ?_)
    refine s_iload (pc' := 204) W at_202 rfl rfl ?_
    refine s_iload (pc' := 206) W at_204 rfl rfl ?_
    refine s_iload (pc' := 208) W at_206 rfl rfl ?_
    refine s_iload (pc' := 210) W at_208 rfl rfl ?_
    have lt52_0 := nlt Q_.lt
    have lt52_1 := nlt Q_.ltb
    have lt52_2 := nlt T0.lt
    have lt52_3 := nlt T0.ltb
    have lt52_4 := nlt T1.lt
    have lt52_5 := nlt T1.ltb
    refine s_static (pc' := 213) W (w314 hw) (w315 hw) (w316 hw) (w317 hw) (by decide) pd42 [(.int x), (.int c0), (.int k0), (.int d0)] rfl (c_expected l hw W.old CS0 hx hc0 hk0 hd0) all0 rfl at_210 0 (le rfl) (bl rfl) (bl rfl) (by decide) (by decide) rfl ?_
    rintro _ T vm h W C53 ⟨x0, xb0, kx0, rfl, K53, X0, hx0⟩
    replace Q_ := Q_.keep K53 nin0 nin0
    replace T0 := T0.keep K53 nin0 nin0
    replace T1 := T1.keep K53 nin0 nin0
    have ne_q_x0 : @Ne Nat q x0 := by omega
    have ne_qd_x0 : @Ne Nat qd x0 := by omega
    have ne_t0_x0 : @Ne Nat t0 x0 := by omega
    have ne_ct0_x0 : @Ne Nat ct0 x0 := by omega
    have ne_t1_x0 : @Ne Nat t1 x0 := by omega
    have ne_ct1_x0 : @Ne Nat ct1 x0 := by omega
    refine s_aload (pc' := 215) W at_213 rfl rfl rfl ?_
    refine s_iconst (pc' := 216) W (0 : Int32) at_215 rfl rfl ?_
    refine s_face (pc' := 221) W (C0 := "java/util/ArrayList") (w336 hw) (w337 hw) (w338 hw) (w339 hw) (w340 hw) (w341 hw) (w342 hw) (w179 hw) (w28 hw) (w343 hw) (by decide) pd30 [(.int (0 : Int32))] rfl Q_.1 (c_alget l hw W.old Q_ (i := 0) (by decide) (by decide) (by decide) rfl) all0 rfl at_216 1 (le rfl) (bl rfl) (bl rfl) (by decide) (by decide) rfl ?_
    rintro _ T vm _ W C54 ⟨rfl, rfl⟩
    refine s_virt (pc' := 224) W (C0 := "java/lang/String") (w357 hw) (w358 hw) (w360 hw) (w359 hw) (w2 hw) (w361 hw) (notFace_of_selects (args := a0) (w360 hw)) (by decide) pd37 [(.ref t0)] rfl X0.1 (c_equals l hw W.old CS0 X0 T0 (Ne.symm ne_t0_x0)) all0 rfl at_221 0 (le rfl) (bl rfl) (bl rfl) (by decide) (by decide) rfl ?_
    rintro _ T vm _ W C55 ⟨rfl, rfl⟩
    refine s_ifeq (pc' := 227) (pcT := 231) W at_224 (by decide) rfl rfl (fun hq => absurd hq (by decide)) (fun _ => ?_)
    refine s_iconst (pc' := 228) W (1 : Int32) at_227 rfl rfl ?_
    refine s_goto (pc' := 232) W at_228 (by decide) rfl ?_
    refine s_istore (pc' := 234) W #[iv p0, iv p1, iv p2, iv p3, iv (2 : Int32), iv x, iv c0, iv k0, iv d0, iv c1, iv k1, iv d1, rv sx, rv r, rv q, iv (1 : Int32)] at_232 rfl rfl ?_
    refine s_iload (pc' := 236) W at_234 rfl rfl ?_
    refine s_iconst (pc' := 237) W (2 : Int32) at_236 rfl rfl ?_
    refine s_icmplt (pc' := 240) (pcT := 277) W at_237 (by decide) rfl rfl (fun hq => absurd hq (by decide)) (fun _ => ?_)
    refine s_iload (pc' := 242) W at_240 rfl rfl ?_
    refine s_ifeq (pc' := 245) (pcT := 274) W at_242 (by decide) rfl rfl (fun hq => absurd hq (by decide)) (fun _ => ?_)
    refine s_iload (pc' := 247) W at_245 rfl rfl ?_
    refine s_iload (pc' := 249) W at_247 rfl rfl ?_
    refine s_iload (pc' := 251) W at_249 rfl rfl ?_
    refine s_iload (pc' := 253) W at_251 rfl rfl ?_
    have lt56_0 := nlt Q_.lt
    have lt56_1 := nlt Q_.ltb
    have lt56_2 := nlt T0.lt
    have lt56_3 := nlt T0.ltb
    have lt56_4 := nlt T1.lt
    have lt56_5 := nlt T1.ltb
    refine s_static (pc' := 256) W (w314 hw) (w315 hw) (w316 hw) (w317 hw) (by decide) pd42 [(.int x), (.int c1), (.int k1), (.int d1)] rfl (c_expected l hw W.old CS0 hx hc1 hk1 hd1) all0 rfl at_253 0 (le rfl) (bl rfl) (bl rfl) (by decide) (by decide) rfl ?_
    rintro _ T vm h W C57 ⟨x1, xb1, kx1, rfl, K57, X1, hx1⟩
    replace Q_ := Q_.keep K57 nin0 nin0
    replace T0 := T0.keep K57 nin0 nin0
    replace T1 := T1.keep K57 nin0 nin0
    have ne_q_x1 : @Ne Nat q x1 := by omega
    have ne_qd_x1 : @Ne Nat qd x1 := by omega
    have ne_t0_x1 : @Ne Nat t0 x1 := by omega
    have ne_ct0_x1 : @Ne Nat ct0 x1 := by omega
    have ne_t1_x1 : @Ne Nat t1 x1 := by omega
    have ne_ct1_x1 : @Ne Nat ct1 x1 := by omega
    refine s_aload (pc' := 258) W at_256 rfl rfl rfl ?_
    refine s_iconst (pc' := 259) W (1 : Int32) at_258 rfl rfl ?_
    refine s_face (pc' := 264) W (C0 := "java/util/ArrayList") (w336 hw) (w337 hw) (w338 hw) (w339 hw) (w340 hw) (w341 hw) (w342 hw) (w179 hw) (w28 hw) (w343 hw) (by decide) pd30 [(.int (1 : Int32))] rfl Q_.1 (c_alget l hw W.old Q_ (i := 1) (by decide) (by decide) (by decide) rfl) all0 rfl at_259 1 (le rfl) (bl rfl) (bl rfl) (by decide) (by decide) rfl ?_
    rintro _ T vm _ W C58 ⟨rfl, rfl⟩
    refine s_virt (pc' := 267) W (C0 := "java/lang/String") (w357 hw) (w358 hw) (w360 hw) (w359 hw) (w2 hw) (w361 hw) (notFace_of_selects (args := a0) (w360 hw)) (by decide) pd37 [(.ref t1)] rfl X1.1 (c_equals l hw W.old CS0 X1 T1 (Ne.symm ne_t1_x1)) all0 rfl at_264 0 (le rfl) (bl rfl) (bl rfl) (by decide) (by decide) rfl ?_
    rintro _ T vm _ W C59 ⟨rfl, rfl⟩
    refine s_ifeq (pc' := 270) (pcT := 274) W at_267 (by decide) rfl rfl (fun hq => absurd hq (by decide)) (fun _ => ?_)
    refine s_iconst (pc' := 271) W (1 : Int32) at_270 rfl rfl ?_
    refine s_goto (pc' := 275) W at_271 (by decide) rfl ?_
    refine s_istore (pc' := 277) W #[iv p0, iv p1, iv p2, iv p3, iv (2 : Int32), iv x, iv c0, iv k0, iv d0, iv c1, iv k1, iv d1, rv sx, rv r, rv q, iv (1 : Int32)] at_275 rfl rfl ?_
    refine s_iload (pc' := 279) W at_277 rfl rfl ?_
    refine s_nreturn W (t := .boolean) rfl (by simp) at_279 (by decide) (by decide) ?_
    intro vm' C'
    exact rfl
set_option maxRecDepth 65536 in
set_option maxHeartbeats 40000000 in
theorem comes_1 {Post : Tables → Env → Array Value → State → Outcome → State → Prop} (hpost : ∀ tb e args s v u, (limb_1_1.after args s (.returned v) u = true ∧ limb_1_2.after args s (.returned v) u = true ∧ True) → Jvm.D.FramedW s (.returned v) u (Jvm.fieldLocs frame_1_writes args s ++ Jvm.arrayLocs frame_1_arrays args s ++ Jvm.staticLocs frame_1_statics s) 104 6592 → Post tb e args s (.returned v) u) :
    ArmFor flags0 classFile x code maxLocals ret World_1 tables_1 room_1 Calls_1 rest_1 Pre_1 Post := by
  intro l hfl _ _ p e ha hc hk s m args below hf hA hF happ hP
  obtain ⟨hcalls, hrest, hpre⟩ := hP
  obtain ⟨-, -, -, hnamed, -, -, -, hat⟩ := (Spec.applies_iff hf).mp happ
  obtain ⟨hg, hn⟩ := and_e (Cond.before_iff.mp (show (Jvm.Cond.and given_1 narrow_1).before args s = true from hpre))
  obtain ⟨h1, h2⟩ := and_e hg
  obtain ⟨hi0, h3⟩ := and_e h2
  obtain ⟨hi1, h4⟩ := and_e h3
  obtain ⟨hi2, h5⟩ := and_e h4
  have hi3 := h5
  obtain ⟨v0, v1, v2, v3, rfl⟩ : ∃ v0 v1 v2 v3 : Value, args = #[v0, v1, v2, v3] := by
    have hs : args.size = 4 := by simpa [Cond.value, given_1] using h1
    obtain ⟨L⟩ := args
    match L, hs with
    | [v0, v1, v2, v3], _ => exact ⟨v0, v1, v2, v3, rfl⟩
  have hw : Hw s #[v0, v1, v2, v3] := fun d (hd : d ∈ tables_1) => atoms_spec (ws := Jvm.Cond.code x code maxLocals ret :: tables_1) hat d (List.mem_cons_of_mem _ hd)
  obtain ⟨hsets, hown0⟩ := atoms_of _ (rest_1_c_eq ▸ (show rest_1_c.before _ s = true from hrest))
  obtain ⟨i0, e0⟩ := is_v hi0
  obtain rfl : v0 = (.int i0) := Option.some.inj e0
  obtain ⟨i1, e1⟩ := is_v hi1
  obtain rfl : v1 = (.int i1) := Option.some.inj e1
  obtain ⟨i2, e2⟩ := is_v hi2
  obtain rfl : v2 = (.int i2) := Option.some.inj e2
  obtain ⟨i3, e3⟩ := is_v hi3
  obtain rfl : v3 = (.int i3) := Option.some.inj e3
  have n5 := not_v (Cond.before_iff.mp (hsets _ (List.mem_of_getElem? (i := 2) rfl)))
  obtain ⟨ic, ec⟩ := is_v (Cond.before_iff.mp (hsets _ (List.mem_of_getElem? (i := 1) rfl)))
  have S12 : Sta s s.heap "java/lang/String" "COMPACT_STRINGS" "Z" (.int ic) := Sta.start ec (Or.inl (hsets _ (List.mem_of_getElem? (i := 0) rfl)))
  have CS0 : CS s := ⟨ic, S12, gotF (Cond.eq_ints ec (Term.int_eval (0))) n5⟩
  have hcw : Jvm.Lit.compactW.before _ s = true := hsets _ (List.mem_of_getElem? (i := 2) rfl)
  have hchv : CHv s EL1 s.vm s.heap := CHv.start (el hw) (fun q hq => hcalls.1 q hq) hcw (w14 hw) (w10 hw)
  obtain ⟨de, kde, D⟩ : ∃ de kde, DE s de kde := de_of (hsets _ (List.mem_of_getElem? (i := 11) rfl)) (hsets _ (List.mem_of_getElem? (i := 15) rfl)) (hsets _ (List.mem_of_getElem? (i := 17) rfl)) (w28 hw)
  obtain ⟨n, o, h1, h2, h3, v, L, rfl, hq, N, -, hr⟩ := c_law l hw (Old.start s) CS0 D p e ha hc hk s m _ below hf ((Spec.applies_iff_loose hf).mp happ).1 ⟨rfl, State.Warmed39.refl s, rfl, hchv, all0⟩ trivial
  subst hq
  refine ⟨n, _, h1, h2, h3, hpost _ _ _ _ _ _ ⟨Cond.after_iff.mpr rfl, Cond.after_iff.mpr (eq_i res_at (Term.int_eval (1)) rfl), trivial⟩ ⟨hr.1.1, hr.1.2.1, hr.1.2.2.1, (hr.1.2.2.2.sift fun y hy => Or.inr (N y hy)).mono (by decide) (by decide)⟩⟩
theorem main_1_1 : Claimed_1_1 := comes_1 fun _ _ _ _ _ _ h hF => ⟨h.1, hF⟩
theorem main_1_2 : Claimed_1_2 := comes_1 fun _ _ _ _ _ _ h hF => ⟨h.2.1, hF⟩
end Jvm.Pilot.@@N@@
namespace Jvm.Pilot.@@N@@
open Jvm Jvm.ClassFile Sem Op Lib Jvm.Free Jvm.Stand Jvm.Pilot.@@N@@.Jvm.D
/-! MADE BY PROGRAM (witnessworld.py) out of the Statement's table words and the real class files: 39 classes; the members and pool entries that the words name. The judged class is class 1, her method 2. -/
namespace start1
open Jvm.ClassFile
def u (s : String) : CpInfo := .utf8 (stringToUtf16 s)
/-- a pool by its gaps: so many unusable entries, then the entry; so many at the end -/
def gap : Nat → List CpInfo → List CpInfo
  | 0, r => r
  | n + 1, r => .unusable :: gap n r
def poolList (es : List (Nat × CpInfo)) (last : Nat) : List CpInfo := es.foldr (fun e r => gap e.1 (e.2 :: r)) (gap last [])
def pool (es : List (Nat × CpInfo)) (last : Nat) : Array CpInfo := ⟨poolList es last⟩
def fileOf (pool : Array CpInfo) (this : Nat) (attrs : Array Attribute := #[]) (ms : Array MethodInfo := #[]) (fl : Nat := 33) (sup : Nat := 0) (ifs : Array Nat := #[]) (fds : Array FieldInfo := #[]) : ClassFile where
  minorVersion := 0
  majorVersion := 65
  constantPool := pool
  accessFlags := fl
  thisClass := this
  superClass := sup
  interfaces := ifs
  fields := fds
  methods := ms
  attributes := attrs
def plain (name : String) (sup : Option ClassId) : Class where
  name := name
  kind := .ordinary
  loader := none
  accessFlags := 33
  super := sup
  interfaces := #[]
  cf := none
  fields := #[]
  methods := #[]
  instanceTypes := #[]
  staticTypes := #[]
  resolved := #[]
  callSites := []
  init := .initialized
  statics := none
  mirror := none

def pool0 : Array CpInfo := pool [(5, u "<init>"), (0, u "()V"), (1, .class_ 10), (1, u "java/lang/Object")] 113

def k0c0 : Code := { maxStack := 0, maxLocals := 1, code := object_method_1_code, exceptionTable := #[], attributes := #[] }
def k0m0 : Method := { name := "<init>", desc := "()V", sig := { parameters := [], returnType := none }, accessFlags := 1, code := some k0c0 }
/-- java/lang/Object -/
def k0 : Class := { plain "java/lang/Object" none with
  accessFlags := 33
  interfaces := #[]
  cf := some (fileOf pool0 8 #[] #[{ accessFlags := 1, nameIndex := 5, descriptorIndex := 6, attributes := #[] }] 33 0 #[] #[])
  fields := #[]
  methods := #[k0m0]
  instanceTypes := #[]
  staticTypes := #[]
  resolved := Array.replicate 124 none
  statics := none }

def pool1 : Array CpInfo := pool [(2, .class_ 4), (0, .nameAndType 5 6), (0, u "java/lang/Object"), (0, u "<init>"), (0, u "()V"), (0, .class_ 8), (0, u "java/lang/String"), (0, .methodref 7 10), (0, .nameAndType 5 11), (0, u "([C)V"), (0, .methodref 7 13), (0, .nameAndType 14 15), (0, u "valueOf"), (0, u "(C)Ljava/lang/String;"), (0, .class_ 17), (0, u "java/util/ArrayList"), (0, .methodref 16 3), (0, .class_ 20), (0, u "com/example/tiebreak/tiebreak/core/DuplicateRegistration"), (0, .methodref 19 22), (0, .nameAndType 5 23), (0, u "(Ljava/lang/String;Ljava/lang/String;Ljava/lang/String;)V"), (0, .interfaceMethodref 25 26), (0, .class_ 27), (0, .nameAndType 28 29), (0, u "java/util/List"), (0, u "add"), (0, u "(Ljava/lang/Object;)Z"), (0, .methodref 31 32), (0, .class_ 33), (0, .nameAndType 34 35), (0, u "com/example/tiebreak/tiebreak/core/ChainReport"), (0, u "duplicateLines"), (0, u "(Ljava/lang/String;Ljava/util/List;)Ljava/util/List;"), (0, .interfaceMethodref 25 37), (0, .nameAndType 38 39), (0, u "size"), (0, u "()I"), (0, .methodref 41 42), (0, .class_ 43), (0, .nameAndType 44 45), (0, u "com/example/tiebreak/tiebreak/core/ChainReportDuplicateLinesPinLaw"), (0, u "expected"), (0, u "(CCCC)Ljava/lang/String;"), (0, .interfaceMethodref 25 47), (0, .nameAndType 48 49), (0, u "get"), (0, u "(I)Ljava/lang/Object;"), (0, .methodref 7 51), (0, .nameAndType 52 29), (0, u "equals"), (2, u "law"), (0, u "(IIII)Z")] 3

def k1m0 : Method := { name := "<init>", desc := "()V", sig := { parameters := [], returnType := none }, accessFlags := 2, code := none }
def k1c1 : Code := { maxStack := 4, maxLocals := 5, code := method_2_code, exceptionTable := #[], attributes := #[] }
def k1m1 : Method := { name := "expected", desc := "(CCCC)Ljava/lang/String;", sig := { parameters := [.char, .char, .char, .char], returnType := some (.object "java/lang/String") }, accessFlags := 10, code := some k1c1 }
def k1c2 : Code := { maxStack := 6, maxLocals := 16, code := code, exceptionTable := #[], attributes := #[] }
def k1m2 : Method := { name := "law", desc := "(IIII)Z", sig := { parameters := [.int, .int, .int, .int], returnType := some .boolean }, accessFlags := 9, code := some k1c2 }
/-- com/example/tiebreak/tiebreak/core/ChainReportDuplicateLinesPinLaw -/
def k1 : Class := { plain "com/example/tiebreak/tiebreak/core/ChainReportDuplicateLinesPinLaw" (some 0) with
  accessFlags := 49
  interfaces := #[]
  cf := some (fileOf pool1 41 #[] #[{ accessFlags := 2, nameIndex := 5, descriptorIndex := 6, attributes := #[] }, { accessFlags := 10, nameIndex := 44, descriptorIndex := 45, attributes := #[] }, { accessFlags := 9, nameIndex := 55, descriptorIndex := 56, attributes := #[] }] 49 2 #[] #[])
  fields := #[]
  methods := #[k1m0, k1m1, k1m2]
  instanceTypes := #[]
  staticTypes := #[]
  resolved := Array.replicate 60 none
  statics := none }

def pool2 : Array CpInfo := pool [(1, .class_ 2), (0, u "java/io/Serializable"), (0, .class_ 4), (0, u "java/lang/Object")] 2

/-- java/io/Serializable -/
def k2 : Class := { plain "java/io/Serializable" (some 0) with
  accessFlags := 1537
  interfaces := #[]
  cf := some (fileOf pool2 1 #[] #[] 1537 3 #[] #[])
  fields := #[]
  methods := #[]
  instanceTypes := #[]
  staticTypes := #[]
  resolved := Array.replicate 7 none
  statics := none }

def pool3 : Array CpInfo := pool [(1, .class_ 2), (0, u "java/lang/Comparable"), (0, .class_ 4), (0, u "java/lang/Object")] 7

/-- java/lang/Comparable -/
def k3 : Class := { plain "java/lang/Comparable" (some 0) with
  accessFlags := 1537
  interfaces := #[]
  cf := some (fileOf pool3 1 #[] #[] 1537 3 #[] #[])
  fields := #[]
  methods := #[]
  instanceTypes := #[]
  staticTypes := #[]
  resolved := Array.replicate 12 none
  statics := none }

def pool4 : Array CpInfo := pool [(2, .class_ 4), (1, u "java/lang/CharSequence"), (42, .class_ 48), (0, u "java/lang/CharSequence$1CodePointIterator"), (10, .class_ 60), (0, u "java/lang/CharSequence$1CharIterator"), (5, .class_ 67), (0, u "java/lang/Object")] 63

/-- java/lang/CharSequence -/
def k4 : Class := { plain "java/lang/CharSequence" (some 0) with
  accessFlags := 1537
  interfaces := #[]
  cf := some (fileOf pool4 2 #[.nestMembers #[47, 59]] #[] 1537 66 #[] #[])
  fields := #[]
  methods := #[]
  instanceTypes := #[]
  staticTypes := #[]
  resolved := Array.replicate 131 none
  statics := none }

def pool5 : Array CpInfo := pool [(1, .class_ 2), (0, u "java/lang/constant/Constable"), (0, .class_ 4), (0, u "java/lang/Object")] 6

/-- java/lang/constant/Constable -/
def k5 : Class := { plain "java/lang/constant/Constable" (some 0) with
  accessFlags := 1537
  interfaces := #[]
  cf := some (fileOf pool5 1 #[] #[] 1537 3 #[] #[])
  fields := #[]
  methods := #[]
  instanceTypes := #[]
  staticTypes := #[]
  resolved := Array.replicate 11 none
  statics := none }

def pool6 : Array CpInfo := pool [(1, .class_ 2), (0, u "java/lang/constant/ConstantDesc"), (0, .class_ 4), (0, u "java/lang/Object")] 32

/-- java/lang/constant/ConstantDesc -/
def k6 : Class := { plain "java/lang/constant/ConstantDesc" (some 0) with
  accessFlags := 1537
  interfaces := #[]
  cf := some (fileOf pool6 1 #[] #[] 1537 3 #[] #[])
  fields := #[]
  methods := #[]
  instanceTypes := #[]
  staticTypes := #[]
  resolved := Array.replicate 37 none
  statics := none }

def pool7 : Array CpInfo := pool [(1, .methodref 2 3), (0, .class_ 4), (0, .nameAndType 5 6), (0, u "java/lang/Object"), (0, u "<init>"), (0, u "()V"), (2, .fieldref 10 11), (0, .class_ 12), (0, .nameAndType 13 14), (0, u "java/lang/String"), (0, u "value"), (0, u "[B"), (0, .fieldref 10 16), (0, .nameAndType 17 18), (0, u "coder"), (0, u "B"), (2, u "hash"), (0, u "I"), (2, u "hashIsZero"), (0, u "Z"), (0, .methodref 10 28), (0, .nameAndType 5 29), (0, u "([CIILjava/lang/Void;)V"), (8, .fieldref 10 39), (0, .nameAndType 40 26), (0, u "COMPACT_STRINGS"), (1, .class_ 44), (1, u "java/lang/StringUTF16"), (0, u "compress"), (1, .methodref 42 48), (0, .nameAndType 49 50), (0, u "coderFromArrayLen"), (0, u "([BI)B"), (2, u "toBytes"), (0, .methodref 55 56), (0, .class_ 57), (0, .nameAndType 58 59), (0, u "java/util/Arrays"), (0, u "copyOfRange"), (0, u "([BII)[B"), (47, .class_ 109), (1, u "java/lang/StringLatin1"), (32, u "()Z"), (34, .methodref 42 178), (0, .nameAndType 45 179), (0, u "([CII)[B"), (13, .class_ 195), (1, u "java/lang/System"), (13, .methodref 10 210), (0, .nameAndType 5 211), (0, u "([BB)V"), (0, .methodref 193 213), (0, .nameAndType 214 215), (0, u "arraycopy"), (0, u "(Ljava/lang/Object;ILjava/lang/Object;II)V"), (118, u "()I"), (0, .methodref 10 336), (0, .nameAndType 17 337), (0, u "()B"), (2, u "()[B"), (28, u "(C)Z"), (119, .methodref 10 490), (0, .nameAndType 5 491), (0, u "(Ljava/lang/AbstractStringBuilder;Ljava/lang/Void;)V"), (1, .nameAndType 494 142), (0, u "isLatin1"), (11, .nameAndType 507 334), (0, u "length"), (24, u "getBytes"), (8, .methodref 107 542), (0, .nameAndType 543 544), (0, u "equals"), (0, u "([B[B)Z"), (4, .methodref 550 506), (0, .class_ 551), (0, u "java/lang/AbstractStringBuilder"), (0, .methodref 550 553), (0, .nameAndType 554 340), (0, u "getValue"), (18, u "(Ljava/lang/Object;)Z"), (1, .class_ 576), (0, u "java/lang/CharSequence"), (22, u "CASE_INSENSITIVE_ORDER"), (0, u "Ljava/util/Comparator;"), (181, u "valueOf"), (0, u "(C)Ljava/lang/String;"), (37, u "([BIB)V"), (188, u "([C)V"), (4, .methodref 107 1016), (0, .nameAndType 1017 369), (0, u "canEncode"), (0, .methodref 107 1019), (0, .nameAndType 53 1020), (0, u "(C)[B"), (26, .methodref 550 493), (53, u "serialPersistentFields"), (0, u "[Ljava/io/ObjectStreamField;"), (0, .class_ 1104), (0, u "java/lang/String$CaseInsensitiveComparator"), (1, .class_ 1107), (0, u "java/io/Serializable"), (0, .class_ 1109), (0, u "java/lang/Comparable"), (0, .class_ 1111), (0, u "java/lang/constant/Constable"), (0, .class_ 1113), (0, u "java/lang/constant/ConstantDesc"), (2, u "serialVersionUID"), (0, u "J"), (3, u "REPL"), (0, u "C"), (2, u "LATIN1"), (1, u "UTF16"), (105, u "(Ljava/lang/StringBuilder;)V")] 217

def k7m0 : Method := { name := "<init>", desc := "()V", sig := { parameters := [], returnType := none }, accessFlags := 1, code := none }
def k7c1 : Code := { maxStack := 5, maxLocals := 2, code := jdk_42_method_3_code, exceptionTable := #[], attributes := #[] }
def k7m1 : Method := { name := "<init>", desc := "([C)V", sig := { parameters := [(.array .char)], returnType := none }, accessFlags := 1, code := some k7c1 }
def k7c2 : Code := { maxStack := 3, maxLocals := 2, code := jdk_42_method_53_code, exceptionTable := #[], attributes := #[] }
def k7m2 : Method := { name := "<init>", desc := "(Ljava/lang/StringBuilder;)V", sig := { parameters := [(.object "java/lang/StringBuilder")], returnType := none }, accessFlags := 1, code := some k7c2 }
def k7c3 : Code := { maxStack := 2, maxLocals := 1, code := jdk_42_method_54_code, exceptionTable := #[], attributes := #[] }
def k7m3 : Method := { name := "length", desc := "()I", sig := { parameters := [], returnType := some .int }, accessFlags := 1, code := some k7c3 }
def k7c4 : Code := { maxStack := 2, maxLocals := 3, code := jdk_42_method_66_code, exceptionTable := #[], attributes := #[] }
def k7m4 : Method := { name := "equals", desc := "(Ljava/lang/Object;)Z", sig := { parameters := [(.object "java/lang/Object")], returnType := some .boolean }, accessFlags := 1, code := some k7c4 }
def k7c5 : Code := { maxStack := 4, maxLocals := 1, code := jdk_42_method_139_code, exceptionTable := #[], attributes := #[] }
def k7m5 : Method := { name := "valueOf", desc := "(C)Ljava/lang/String;", sig := { parameters := [.char], returnType := some (.object "java/lang/String") }, accessFlags := 9, code := some k7c5 }
def k7c6 : Code := { maxStack := 5, maxLocals := 4, code := jdk_42_method_147_code, exceptionTable := #[], attributes := #[] }
def k7m6 : Method := { name := "getBytes", desc := "([BIB)V", sig := { parameters := [(.array .byte), .int, .byte], returnType := none }, accessFlags := 0, code := some k7c6 }
def k7c7 : Code := { maxStack := 4, maxLocals := 6, code := jdk_42_method_149_code, exceptionTable := #[], attributes := #[] }
def k7m7 : Method := { name := "<init>", desc := "([CIILjava/lang/Void;)V", sig := { parameters := [(.array .char), .int, .int, (.object "java/lang/Void")], returnType := none }, accessFlags := 2, code := some k7c7 }
def k7c8 : Code := { maxStack := 5, maxLocals := 5, code := jdk_42_method_150_code, exceptionTable := #[], attributes := #[] }
def k7m8 : Method := { name := "<init>", desc := "(Ljava/lang/AbstractStringBuilder;Ljava/lang/Void;)V", sig := { parameters := [(.object "java/lang/AbstractStringBuilder"), (.object "java/lang/Void")], returnType := none }, accessFlags := 0, code := some k7c8 }
def k7c9 : Code := { maxStack := 2, maxLocals := 3, code := jdk_42_method_151_code, exceptionTable := #[], attributes := #[] }
def k7m9 : Method := { name := "<init>", desc := "([BB)V", sig := { parameters := [(.array .byte), .byte], returnType := none }, accessFlags := 0, code := some k7c9 }
def k7c10 : Code := { maxStack := 1, maxLocals := 1, code := jdk_42_method_152_code, exceptionTable := #[], attributes := #[] }
def k7m10 : Method := { name := "coder", desc := "()B", sig := { parameters := [], returnType := some .byte }, accessFlags := 0, code := some k7c10 }
/-- java/lang/String -/
def k7 : Class := { plain "java/lang/String" (some 0) with
  accessFlags := 49
  interfaces := #[2, 3, 4, 5, 6]
  cf := some (fileOf pool7 10 #[.nestMembers #[1103]] #[{ accessFlags := 1, nameIndex := 5, descriptorIndex := 6, attributes := #[] }, { accessFlags := 1, nameIndex := 5, descriptorIndex := 1010, attributes := #[] }, { accessFlags := 1, nameIndex := 5, descriptorIndex := 1233, attributes := #[] }, { accessFlags := 1, nameIndex := 507, descriptorIndex := 334, attributes := #[] }, { accessFlags := 1, nameIndex := 543, descriptorIndex := 573, attributes := #[] }, { accessFlags := 9, nameIndex := 782, descriptorIndex := 783, attributes := #[] }, { accessFlags := 0, nameIndex := 532, descriptorIndex := 821, attributes := #[] }, { accessFlags := 2, nameIndex := 5, descriptorIndex := 29, attributes := #[] }, { accessFlags := 0, nameIndex := 5, descriptorIndex := 491, attributes := #[] }, { accessFlags := 0, nameIndex := 5, descriptorIndex := 211, attributes := #[] }, { accessFlags := 0, nameIndex := 17, descriptorIndex := 337, attributes := #[] }] 49 2 #[1106, 1108, 575, 1110, 1112] #[{ accessFlags := 18, nameIndex := 13, descriptorIndex := 14, attributes := #[] }, { accessFlags := 18, nameIndex := 17, descriptorIndex := 18, attributes := #[] }, { accessFlags := 2, nameIndex := 21, descriptorIndex := 22, attributes := #[] }, { accessFlags := 2, nameIndex := 25, descriptorIndex := 26, attributes := #[] }, { accessFlags := 26, nameIndex := 1116, descriptorIndex := 1117, attributes := #[] }, { accessFlags := 24, nameIndex := 40, descriptorIndex := 26, attributes := #[] }, { accessFlags := 26, nameIndex := 1101, descriptorIndex := 1102, attributes := #[] }, { accessFlags := 26, nameIndex := 1121, descriptorIndex := 1122, attributes := #[] }, { accessFlags := 25, nameIndex := 599, descriptorIndex := 600, attributes := #[] }, { accessFlags := 24, nameIndex := 1125, descriptorIndex := 18, attributes := #[] }, { accessFlags := 24, nameIndex := 1127, descriptorIndex := 18, attributes := #[] }])
  fields := #[{ name := "value", type := (.array .byte), accessFlags := 18, slot := 0, constantValue := 0 }, { name := "coder", type := .byte, accessFlags := 18, slot := 1, constantValue := 0 }, { name := "hash", type := .int, accessFlags := 2, slot := 2, constantValue := 0 }, { name := "hashIsZero", type := .boolean, accessFlags := 2, slot := 3, constantValue := 0 }, { name := "serialVersionUID", type := .long, accessFlags := 26, slot := 0, constantValue := 0 }, { name := "COMPACT_STRINGS", type := .boolean, accessFlags := 24, slot := 1, constantValue := 0 }, { name := "serialPersistentFields", type := (.array (.object "java/io/ObjectStreamField")), accessFlags := 26, slot := 2, constantValue := 0 }, { name := "REPL", type := .char, accessFlags := 26, slot := 3, constantValue := 0 }, { name := "CASE_INSENSITIVE_ORDER", type := (.object "java/util/Comparator"), accessFlags := 25, slot := 4, constantValue := 0 }, { name := "LATIN1", type := .byte, accessFlags := 24, slot := 5, constantValue := 0 }, { name := "UTF16", type := .byte, accessFlags := 24, slot := 6, constantValue := 0 }]
  methods := #[k7m0, k7m1, k7m2, k7m3, k7m4, k7m5, k7m6, k7m7, k7m8, k7m9, k7m10]
  instanceTypes := #[(.array .byte), .byte, .int, .boolean]
  staticTypes := #[.long, .boolean, (.array (.object "java/io/ObjectStreamField")), .char, (.object "java/util/Comparator"), .byte, .byte]
  resolved := Array.replicate 1451 none
  statics := some 0 }

def pool8 : Array CpInfo := pool [(4, .class_ 6), (1, u "java/lang/Object"), (0, u "<init>"), (0, u "()V"), (5, .class_ 16), (1, u "java/lang/StringLatin1"), (73, u "canEncode"), (14, u "(C)Z"), (15, u "$assertionsDisabled"), (0, u "Z"), (98, .class_ 223), (1, u "java/lang/StringLatin1$LinesSpliterator"), (57, u "equals"), (0, u "([B[B)Z"), (97, u "toBytes"), (1, u "(C)[B"), (7, .class_ 391), (0, u "java/lang/StringLatin1$CharsSpliterator")] 3

def k8m0 : Method := { name := "<init>", desc := "()V", sig := { parameters := [], returnType := none }, accessFlags := 0, code := none }
def k8c1 : Code := { maxStack := 2, maxLocals := 1, code := jdk_43_method_3_code, exceptionTable := #[], attributes := #[] }
def k8m1 : Method := { name := "canEncode", desc := "(C)Z", sig := { parameters := [.char], returnType := some .boolean }, accessFlags := 9, code := some k8c1 }
def k8c2 : Code := { maxStack := 3, maxLocals := 3, code := jdk_43_method_13_code, exceptionTable := #[], attributes := #[] }
def k8m2 : Method := { name := "equals", desc := "([B[B)Z", sig := { parameters := [(.array .byte), (.array .byte)], returnType := some .boolean }, accessFlags := 9, code := some k8c2 }
def k8c3 : Code := { maxStack := 4, maxLocals := 1, code := jdk_43_method_46_code, exceptionTable := #[], attributes := #[] }
def k8m3 : Method := { name := "toBytes", desc := "(C)[B", sig := { parameters := [.char], returnType := some (.array .byte) }, accessFlags := 9, code := some k8c3 }
/-- java/lang/StringLatin1 -/
def k8 : Class := { plain "java/lang/StringLatin1" (some 0) with
  accessFlags := 48
  interfaces := #[]
  cf := some (fileOf pool8 14 #[.nestMembers #[390, 221]] #[{ accessFlags := 0, nameIndex := 7, descriptorIndex := 8, attributes := #[] }, { accessFlags := 9, nameIndex := 90, descriptorIndex := 105, attributes := #[] }, { accessFlags := 9, nameIndex := 281, descriptorIndex := 282, attributes := #[] }, { accessFlags := 9, nameIndex := 380, descriptorIndex := 382, attributes := #[] }] 48 4 #[] #[{ accessFlags := 4120, nameIndex := 121, descriptorIndex := 122, attributes := #[] }])
  fields := #[{ name := "$assertionsDisabled", type := .boolean, accessFlags := 4120, slot := 0, constantValue := 0 }]
  methods := #[k8m0, k8m1, k8m2, k8m3]
  instanceTypes := #[]
  staticTypes := #[.boolean]
  resolved := Array.replicate 395 none
  statics := none }

def pool9 : Array CpInfo := pool [(8, .class_ 10), (1, u "java/lang/Iterable"), (24, .class_ 36), (0, u "java/lang/Object")] 25

/-- java/lang/Iterable -/
def k9 : Class := { plain "java/lang/Iterable" (some 0) with
  accessFlags := 1537
  interfaces := #[]
  cf := some (fileOf pool9 8 #[] #[] 1537 35 #[] #[])
  fields := #[]
  methods := #[]
  instanceTypes := #[]
  staticTypes := #[]
  resolved := Array.replicate 62 none
  statics := none }

def pool10 : Array CpInfo := pool [(10, .class_ 12), (1, u "java/util/Collection"), (47, .class_ 61), (0, u "java/lang/Object"), (0, .class_ 63), (0, u "java/lang/Iterable")] 51

/-- java/util/Collection -/
def k10 : Class := { plain "java/util/Collection" (some 0) with
  accessFlags := 1537
  interfaces := #[9]
  cf := some (fileOf pool10 10 #[] #[] 1537 60 #[62] #[])
  fields := #[]
  methods := #[]
  instanceTypes := #[]
  staticTypes := #[]
  resolved := Array.replicate 115 none
  statics := none }

def pool11 : Array CpInfo := pool [(1, .methodref 2 3), (0, .class_ 4), (0, .nameAndType 5 6), (0, u "java/lang/Object"), (0, u "<init>"), (0, u "()V"), (1, .class_ 10), (1, u "java/util/AbstractCollection"), (66, .class_ 78), (0, u "java/util/Collection")] 81

def k11c0 : Code := { maxStack := 1, maxLocals := 1, code := jdk_22_method_1_code, exceptionTable := #[], attributes := #[] }
def k11m0 : Method := { name := "<init>", desc := "()V", sig := { parameters := [], returnType := none }, accessFlags := 4, code := some k11c0 }
/-- java/util/AbstractCollection -/
def k11 : Class := { plain "java/util/AbstractCollection" (some 0) with
  accessFlags := 1057
  interfaces := #[10]
  cf := some (fileOf pool11 8 #[] #[{ accessFlags := 4, nameIndex := 5, descriptorIndex := 6, attributes := #[] }] 1057 2 #[77] #[])
  fields := #[]
  methods := #[k11m0]
  instanceTypes := #[]
  staticTypes := #[]
  resolved := Array.replicate 160 none
  statics := none }

def pool12 : Array CpInfo := pool [(8, .class_ 10), (1, u "java/util/SequencedCollection"), (15, .class_ 27), (0, u "java/lang/Object"), (0, .class_ 29), (0, u "java/util/Collection")] 27

/-- java/util/SequencedCollection -/
def k12 : Class := { plain "java/util/SequencedCollection" (some 0) with
  accessFlags := 1537
  interfaces := #[10]
  cf := some (fileOf pool12 8 #[] #[] 1537 26 #[28] #[])
  fields := #[]
  methods := #[]
  instanceTypes := #[]
  staticTypes := #[]
  resolved := Array.replicate 57 none
  statics := none }

def pool13 : Array CpInfo := pool [(8, .class_ 10), (1, u "java/util/List"), (49, u "add"), (3, u "(Ljava/lang/Object;)Z"), (10, u "get"), (0, u "(I)Ljava/lang/Object;"), (2, u "size"), (0, u "()I"), (22, .class_ 104), (0, u "java/lang/Object"), (15, .class_ 121), (0, u "java/util/SequencedCollection"), (1, u "iterator"), (0, u "()Ljava/util/Iterator;")] 126

def k13m0 : Method := { name := "size", desc := "()I", sig := { parameters := [], returnType := some .int }, accessFlags := 1025, code := none }
def k13m1 : Method := { name := "iterator", desc := "()Ljava/util/Iterator;", sig := { parameters := [], returnType := some (.object "java/util/Iterator") }, accessFlags := 1025, code := none }
def k13m2 : Method := { name := "add", desc := "(Ljava/lang/Object;)Z", sig := { parameters := [(.object "java/lang/Object")], returnType := some .boolean }, accessFlags := 1025, code := none }
def k13m3 : Method := { name := "get", desc := "(I)Ljava/lang/Object;", sig := { parameters := [.int], returnType := some (.object "java/lang/Object") }, accessFlags := 1025, code := none }
/-- java/util/List -/
def k13 : Class := { plain "java/util/List" (some 0) with
  accessFlags := 1537
  interfaces := #[12]
  cf := some (fileOf pool13 8 #[] #[{ accessFlags := 1025, nameIndex := 79, descriptorIndex := 80, attributes := #[] }, { accessFlags := 1025, nameIndex := 123, descriptorIndex := 124, attributes := #[] }, { accessFlags := 1025, nameIndex := 60, descriptorIndex := 64, attributes := #[] }, { accessFlags := 1025, nameIndex := 75, descriptorIndex := 76, attributes := #[] }] 1537 103 #[120] #[])
  fields := #[]
  methods := #[k13m0, k13m1, k13m2, k13m3]
  instanceTypes := #[]
  staticTypes := #[]
  resolved := Array.replicate 251 none
  statics := none }

def pool14 : Array CpInfo := pool [(1, .methodref 2 3), (0, .class_ 4), (0, .nameAndType 5 6), (0, u "java/util/AbstractCollection"), (0, u "<init>"), (0, u "()V"), (0, .fieldref 8 9), (0, .class_ 10), (0, .nameAndType 11 12), (0, u "java/util/AbstractList"), (0, u "modCount"), (0, u "I"), (64, .class_ 78), (0, u "java/util/AbstractList$Itr"), (3, .class_ 83), (0, u "java/util/AbstractList$ListItr"), (9, .class_ 94), (0, u "java/util/AbstractList$RandomAccessSubList"), (3, .class_ 99), (0, u "java/util/AbstractList$SubList"), (33, .class_ 134), (0, u "java/util/List"), (73, .class_ 209), (0, u "java/util/AbstractList$SubList$1"), (0, .class_ 211), (0, u "java/util/AbstractList$RandomAccessSpliterator")] 6

def k14c0 : Code := { maxStack := 2, maxLocals := 1, code := jdk_39_method_1_code, exceptionTable := #[], attributes := #[] }
def k14m0 : Method := { name := "<init>", desc := "()V", sig := { parameters := [], returnType := none }, accessFlags := 4, code := some k14c0 }
/-- java/util/AbstractList -/
def k14 : Class := { plain "java/util/AbstractList" (some 11) with
  accessFlags := 1057
  interfaces := #[13]
  cf := some (fileOf pool14 8 #[.nestMembers #[93, 98, 208, 210, 82, 77]] #[{ accessFlags := 4, nameIndex := 5, descriptorIndex := 6, attributes := #[] }] 1057 2 #[133] #[{ accessFlags := 132, nameIndex := 11, descriptorIndex := 12, attributes := #[] }])
  fields := #[{ name := "modCount", type := .int, accessFlags := 132, slot := 0, constantValue := 0 }]
  methods := #[k14m0]
  instanceTypes := #[.int]
  staticTypes := #[]
  resolved := Array.replicate 218 none
  statics := none }

def pool15 : Array CpInfo := pool [(1, .class_ 2), (0, u "java/util/RandomAccess"), (0, .class_ 4), (0, u "java/lang/Object")] 2

/-- java/util/RandomAccess -/
def k15 : Class := { plain "java/util/RandomAccess" (some 0) with
  accessFlags := 1537
  interfaces := #[]
  cf := some (fileOf pool15 1 #[] #[] 1537 3 #[] #[])
  fields := #[]
  methods := #[]
  instanceTypes := #[]
  staticTypes := #[]
  resolved := Array.replicate 7 none
  statics := none }

def pool16 : Array CpInfo := pool [(1, .class_ 2), (0, u "java/lang/Cloneable"), (0, .class_ 4), (0, u "java/lang/Object")] 2

/-- java/lang/Cloneable -/
def k16 : Class := { plain "java/lang/Cloneable" (some 0) with
  accessFlags := 1537
  interfaces := #[]
  cf := some (fileOf pool16 1 #[] #[] 1537 3 #[] #[])
  fields := #[]
  methods := #[]
  instanceTypes := #[]
  staticTypes := #[]
  resolved := Array.replicate 7 none
  statics := none }

def pool17 : Array CpInfo := pool [(1, .methodref 2 3), (0, .class_ 4), (0, .nameAndType 5 6), (0, u "java/util/AbstractList"), (0, u "<init>"), (0, u "()V"), (0, .class_ 8), (0, u "java/lang/Object"), (0, .fieldref 10 11), (0, .class_ 12), (0, .nameAndType 13 14), (0, u "java/util/ArrayList"), (0, u "elementData"), (0, u "[Ljava/lang/Object;"), (2, u "EMPTY_ELEMENTDATA"), (21, .fieldref 10 40), (0, .nameAndType 41 14), (0, u "DEFAULTCAPACITY_EMPTY_ELEMENTDATA"), (5, u "()[Ljava/lang/Object;"), (0, .fieldref 10 49), (0, .nameAndType 50 51), (0, u "size"), (0, u "I"), (11, .fieldref 10 64), (0, .nameAndType 65 51), (0, u "modCount"), (3, .methodref 10 70), (0, .nameAndType 71 72), (0, u "grow"), (0, u "(I)[Ljava/lang/Object;"), (6, .methodref 80 81), (0, .class_ 82), (0, .nameAndType 83 84), (0, u "java/lang/Math"), (0, u "max"), (0, u "(II)I"), (11, u "(Ljava/lang/Object;)Z"), (21, .methodref 119 120), (0, .class_ 121), (0, .nameAndType 122 84), (0, u "java/util/Objects"), (0, u "checkIndex"), (0, .methodref 10 124), (0, .nameAndType 13 125), (0, u "(I)Ljava/lang/Object;"), (3, .methodref 10 130), (0, .nameAndType 71 47), (0, .methodref 10 132), (0, .nameAndType 133 134), (0, u "add"), (0, u "(Ljava/lang/Object;[Ljava/lang/Object;I)V"), (13, .class_ 149), (0, u "java/util/List"), (16, u "iterator"), (0, u "()Ljava/util/Iterator;"), (18, u "()I"), (75, .class_ 263), (0, u "java/util/ArrayList$ListItr"), (3, .class_ 268), (0, u "java/util/ArrayList$Itr"), (0, .methodref 267 270), (0, .nameAndType 5 271), (0, u "(Ljava/util/ArrayList;)V"), (4, .class_ 277), (0, u "java/util/ArrayList$SubList"), (12, .class_ 291), (0, u "java/util/ArrayList$ArrayListSpliterator"), (37, .class_ 330), (0, u "java/util/RandomAccess"), (0, .class_ 332), (0, u "java/lang/Cloneable"), (0, .class_ 334), (0, u "java/io/Serializable"), (0, u "serialVersionUID"), (0, u "J"), (3, u "DEFAULT_CAPACITY"), (40, u "get"), (118, .class_ 501), (0, u "java/util/ArrayList$SubList$2"), (0, .class_ 503), (0, u "java/util/ArrayList$SubList$1")] 5

def k17c0 : Code := { maxStack := 2, maxLocals := 1, code := jdk_38_method_2_code, exceptionTable := #[], attributes := #[] }
def k17m0 : Method := { name := "<init>", desc := "()V", sig := { parameters := [], returnType := none }, accessFlags := 1, code := some k17c0 }
def k17c1 : Code := { maxStack := 4, maxLocals := 4, code := jdk_38_method_6_code, exceptionTable := #[], attributes := #[] }
def k17m1 : Method := { name := "grow", desc := "(I)[Ljava/lang/Object;", sig := { parameters := [.int], returnType := some (.array (.object "java/lang/Object")) }, accessFlags := 2, code := some k17c1 }
def k17c2 : Code := { maxStack := 3, maxLocals := 1, code := jdk_38_method_7_code, exceptionTable := #[], attributes := #[] }
def k17m2 : Method := { name := "grow", desc := "()[Ljava/lang/Object;", sig := { parameters := [], returnType := some (.array (.object "java/lang/Object")) }, accessFlags := 2, code := some k17c2 }
def k17c3 : Code := { maxStack := 1, maxLocals := 1, code := jdk_38_method_8_code, exceptionTable := #[], attributes := #[] }
def k17m3 : Method := { name := "size", desc := "()I", sig := { parameters := [], returnType := some .int }, accessFlags := 1, code := some k17c3 }
def k17c4 : Code := { maxStack := 2, maxLocals := 2, code := jdk_38_method_18_code, exceptionTable := #[], attributes := #[] }
def k17m4 : Method := { name := "elementData", desc := "(I)Ljava/lang/Object;", sig := { parameters := [.int], returnType := some (.object "java/lang/Object") }, accessFlags := 0, code := some k17c4 }
def k17c5 : Code := { maxStack := 2, maxLocals := 2, code := jdk_38_method_20_code, exceptionTable := #[], attributes := #[] }
def k17m5 : Method := { name := "get", desc := "(I)Ljava/lang/Object;", sig := { parameters := [.int], returnType := some (.object "java/lang/Object") }, accessFlags := 1, code := some k17c5 }
def k17c6 : Code := { maxStack := 3, maxLocals := 4, code := jdk_38_method_24_code, exceptionTable := #[], attributes := #[] }
def k17m6 : Method := { name := "add", desc := "(Ljava/lang/Object;[Ljava/lang/Object;I)V", sig := { parameters := [(.object "java/lang/Object"), (.array (.object "java/lang/Object")), .int], returnType := none }, accessFlags := 2, code := some k17c6 }
def k17c7 : Code := { maxStack := 4, maxLocals := 2, code := jdk_38_method_25_code, exceptionTable := #[], attributes := #[] }
def k17m7 : Method := { name := "add", desc := "(Ljava/lang/Object;)Z", sig := { parameters := [(.object "java/lang/Object")], returnType := some .boolean }, accessFlags := 1, code := some k17c7 }
def k17c8 : Code := { maxStack := 3, maxLocals := 1, code := jdk_38_method_55_code, exceptionTable := #[], attributes := #[] }
def k17m8 : Method := { name := "iterator", desc := "()Ljava/util/Iterator;", sig := { parameters := [], returnType := some (.object "java/util/Iterator") }, accessFlags := 1, code := some k17c8 }
/-- java/util/ArrayList -/
def k17 : Class := { plain "java/util/ArrayList" (some 14) with
  accessFlags := 33
  interfaces := #[13, 15, 16, 2]
  cf := some (fileOf pool17 10 #[.nestMembers #[290, 276, 500, 502, 262, 267]] #[{ accessFlags := 1, nameIndex := 5, descriptorIndex := 6, attributes := #[] }, { accessFlags := 2, nameIndex := 71, descriptorIndex := 72, attributes := #[] }, { accessFlags := 2, nameIndex := 71, descriptorIndex := 47, attributes := #[] }, { accessFlags := 1, nameIndex := 50, descriptorIndex := 186, attributes := #[] }, { accessFlags := 0, nameIndex := 13, descriptorIndex := 125, attributes := #[] }, { accessFlags := 1, nameIndex := 381, descriptorIndex := 125, attributes := #[] }, { accessFlags := 2, nameIndex := 133, descriptorIndex := 134, attributes := #[] }, { accessFlags := 1, nameIndex := 133, descriptorIndex := 96, attributes := #[] }, { accessFlags := 1, nameIndex := 166, descriptorIndex := 167, attributes := #[] }] 33 2 #[148, 329, 331, 333] #[{ accessFlags := 26, nameIndex := 335, descriptorIndex := 336, attributes := #[] }, { accessFlags := 26, nameIndex := 340, descriptorIndex := 51, attributes := #[] }, { accessFlags := 26, nameIndex := 17, descriptorIndex := 14, attributes := #[] }, { accessFlags := 26, nameIndex := 41, descriptorIndex := 14, attributes := #[] }, { accessFlags := 128, nameIndex := 13, descriptorIndex := 14, attributes := #[] }, { accessFlags := 2, nameIndex := 50, descriptorIndex := 51, attributes := #[] }])
  fields := #[{ name := "serialVersionUID", type := .long, accessFlags := 26, slot := 0, constantValue := 0 }, { name := "DEFAULT_CAPACITY", type := .int, accessFlags := 26, slot := 1, constantValue := 0 }, { name := "EMPTY_ELEMENTDATA", type := (.array (.object "java/lang/Object")), accessFlags := 26, slot := 2, constantValue := 0 }, { name := "DEFAULTCAPACITY_EMPTY_ELEMENTDATA", type := (.array (.object "java/lang/Object")), accessFlags := 26, slot := 3, constantValue := 0 }, { name := "elementData", type := (.array (.object "java/lang/Object")), accessFlags := 128, slot := 1, constantValue := 0 }, { name := "size", type := .int, accessFlags := 2, slot := 2, constantValue := 0 }]
  methods := #[k17m0, k17m1, k17m2, k17m3, k17m4, k17m5, k17m6, k17m7, k17m8]
  instanceTypes := #[.int, (.array (.object "java/lang/Object")), .int]
  staticTypes := #[.long, .int, (.array (.object "java/lang/Object")), (.array (.object "java/lang/Object"))]
  resolved := Array.replicate 509 none
  statics := some 1 }

def pool18 : Array CpInfo := pool [(2, .class_ 4), (0, .nameAndType 5 6), (0, u "java/lang/Object"), (0, u "<init>"), (0, u "()V"), (0, .methodref 8 9), (0, .class_ 10), (0, .nameAndType 11 12), (0, u "com/example/tiebreak/tiebreak/core/ChainReport"), (0, u "prefix"), (0, u "(Ljava/lang/String;)Ljava/lang/String;"), (0, .class_ 14), (0, u "java/util/ArrayList"), (0, .methodref 13 3), (0, .class_ 17), (0, u "java/lang/StringBuilder"), (0, .methodref 16 3), (0, .methodref 16 20), (0, .nameAndType 21 22), (0, u "append"), (0, u "(Ljava/lang/String;)Ljava/lang/StringBuilder;"), (3, .class_ 28), (1, u "java/util/List"), (7, .methodref 16 37), (0, .nameAndType 38 39), (0, u "toString"), (0, u "()Ljava/lang/String;"), (0, .interfaceMethodref 26 41), (0, .nameAndType 42 43), (0, u "add"), (0, u "(Ljava/lang/Object;)Z"), (46, u "()Z"), (11, u "(Ljava/lang/String;Ljava/util/List;)Ljava/util/List;"), (4, .interfaceMethodref 26 108), (0, .nameAndType 109 110), (0, u "iterator"), (0, u "()Ljava/util/Iterator;"), (0, .interfaceMethodref 112 113), (0, .class_ 114), (0, .nameAndType 115 90), (0, u "java/util/Iterator"), (0, u "hasNext"), (0, .interfaceMethodref 112 117), (0, .nameAndType 118 119), (0, u "next"), (0, u "()Ljava/lang/Object;"), (0, .class_ 121), (0, u "com/example/tiebreak/tiebreak/core/DuplicateRegistration"), (0, .string 123), (0, u " duplicate: "), (0, .methodref 120 125), (0, .nameAndType 126 39), (0, u "filterClass"), (0, .string 128), (0, u " registered as "), (0, .methodref 120 130), (0, .nameAndType 131 39), (0, u "kept"), (0, .string 133), (0, u " and "), (0, .methodref 120 135), (0, .nameAndType 136 39), (0, u "dropped"), (0, .string 138), (0, u "; kept "), (32, .string 172), (0, u "tiebreak "), (0, u "LOGGER_NAME"), (0, u "Ljava/lang/String;"), (11, u "duplicateLines")] 6

def k18m0 : Method := { name := "<init>", desc := "()V", sig := { parameters := [], returnType := none }, accessFlags := 2, code := none }
def k18c1 : Code := { maxStack := 3, maxLocals := 6, code := prog_2_method_4_code, exceptionTable := #[], attributes := #[] }
def k18m1 : Method := { name := "duplicateLines", desc := "(Ljava/lang/String;Ljava/util/List;)Ljava/util/List;", sig := { parameters := [(.object "java/lang/String"), (.object "java/util/List")], returnType := some (.object "java/util/List") }, accessFlags := 9, code := some k18c1 }
def k18c2 : Code := { maxStack := 2, maxLocals := 1, code := prog_2_method_7_code, exceptionTable := #[], attributes := #[] }
def k18m2 : Method := { name := "prefix", desc := "(Ljava/lang/String;)Ljava/lang/String;", sig := { parameters := [(.object "java/lang/String")], returnType := some (.object "java/lang/String") }, accessFlags := 10, code := some k18c2 }
/-- com/example/tiebreak/tiebreak/core/ChainReport -/
def k18 : Class := { plain "com/example/tiebreak/tiebreak/core/ChainReport" (some 0) with
  accessFlags := 33
  interfaces := #[]
  cf := some (fileOf pool18 8 #[] #[{ accessFlags := 2, nameIndex := 5, descriptorIndex := 6, attributes := #[] }, { accessFlags := 9, nameIndex := 186, descriptorIndex := 102, attributes := #[] }, { accessFlags := 10, nameIndex := 11, descriptorIndex := 12, attributes := #[] }] 33 2 #[] #[{ accessFlags := 25, nameIndex := 173, descriptorIndex := 174, attributes := #[] }])
  fields := #[{ name := "LOGGER_NAME", type := (.object "java/lang/String"), accessFlags := 25, slot := 0, constantValue := 0 }]
  methods := #[k18m0, k18m1, k18m2]
  instanceTypes := #[]
  staticTypes := #[(.object "java/lang/String")]
  resolved := Array.replicate 193 none
  statics := none }

def pool19 : Array CpInfo := pool [(1, .class_ 2), (0, u "java/lang/Appendable"), (0, .class_ 4), (0, u "java/lang/Object")] 9

/-- java/lang/Appendable -/
def k19 : Class := { plain "java/lang/Appendable" (some 0) with
  accessFlags := 1537
  interfaces := #[]
  cf := some (fileOf pool19 1 #[] #[] 1537 3 #[] #[])
  fields := #[]
  methods := #[]
  instanceTypes := #[]
  staticTypes := #[]
  resolved := Array.replicate 14 none
  statics := none }

def pool20 : Array CpInfo := pool [(1, .class_ 2), (0, u "java/lang/String"), (0, .methodref 4 5), (0, .class_ 6), (0, .nameAndType 7 8), (0, u "java/lang/Object"), (0, u "<init>"), (0, u "()V"), (1, .class_ 12), (1, u "java/lang/AbstractStringBuilder"), (0, u "EMPTYVALUE"), (0, u "[B"), (0, .fieldref 10 16), (0, .nameAndType 17 14), (0, u "value"), (0, .fieldref 1 19), (0, .nameAndType 20 21), (0, u "COMPACT_STRINGS"), (0, u "Z"), (0, .fieldref 10 23), (0, .nameAndType 24 25), (0, u "coder"), (0, u "B"), (6, .methodref 1 33), (0, .nameAndType 34 35), (0, u "length"), (0, u "()I"), (3, .integer 2147483647), (0, .methodref 1 41), (0, .nameAndType 24 42), (0, u "()B"), (2, u "append"), (0, u "(Ljava/lang/String;)Ljava/lang/AbstractStringBuilder;"), (1, .class_ 49), (0, u "java/lang/CharSequence"), (19, u "(Ljava/lang/String;)V"), (5, u "maybeLatin1"), (3, .fieldref 10 80), (0, .nameAndType 81 82), (0, u "count"), (0, u "I"), (2, u "isLatin1"), (0, u "()Z"), (13, .methodref 10 101), (0, .nameAndType 102 103), (0, u "ensureCapacityInternal"), (0, u "(I)V"), (0, .methodref 10 105), (0, .nameAndType 106 107), (0, u "newCapacity"), (0, u "(I)I"), (0, .methodref 109 110), (0, .class_ 111), (0, .nameAndType 112 113), (0, u "java/util/Arrays"), (0, u "copyOf"), (0, u "([BI)[B"), (0, .methodref 115 116), (0, .class_ 117), (0, .nameAndType 118 119), (0, u "jdk/internal/util/ArraysSupport"), (0, u "newLength"), (0, u "(III)I"), (88, .methodref 10 209), (0, .nameAndType 210 211), (0, u "putStringAt"), (0, u "(ILjava/lang/String;)V"), (5, u "inflateIfNeededFor"), (2, .nameAndType 221 222), (0, u "getBytes"), (0, u "([BIB)V"), (174, .methodref 10 398), (0, .nameAndType 217 69), (0, .methodref 1 220), (3, u "()[B"), (40, .class_ 445), (0, u "java/lang/Appendable"), (106, u "getValue")] 56

def k20m0 : Method := { name := "<init>", desc := "()V", sig := { parameters := [], returnType := none }, accessFlags := 0, code := none }
def k20c1 : Code := { maxStack := 2, maxLocals := 2, code := jdk_68_method_2_code, exceptionTable := #[], attributes := #[] }
def k20m1 : Method := { name := "<init>", desc := "(I)V", sig := { parameters := [.int], returnType := none }, accessFlags := 0, code := some k20c1 }
def k20c2 : Code := { maxStack := 1, maxLocals := 1, code := jdk_68_method_6_code, exceptionTable := #[], attributes := #[] }
def k20m2 : Method := { name := "length", desc := "()I", sig := { parameters := [], returnType := some .int }, accessFlags := 1, code := some k20c2 }
def k20c3 : Code := { maxStack := 4, maxLocals := 3, code := jdk_68_method_9_code, exceptionTable := #[], attributes := #[] }
def k20m3 : Method := { name := "ensureCapacityInternal", desc := "(I)V", sig := { parameters := [.int], returnType := none }, accessFlags := 2, code := some k20c3 }
def k20c4 : Code := { maxStack := 5, maxLocals := 6, code := jdk_68_method_10_code, exceptionTable := #[], attributes := #[] }
def k20m4 : Method := { name := "newCapacity", desc := "(I)I", sig := { parameters := [.int], returnType := some .int }, accessFlags := 2, code := some k20c4 }
def k20c5 : Code := { maxStack := 3, maxLocals := 3, code := jdk_68_method_22_code, exceptionTable := #[], attributes := #[] }
def k20m5 : Method := { name := "append", desc := "(Ljava/lang/String;)Ljava/lang/AbstractStringBuilder;", sig := { parameters := [(.object "java/lang/String")], returnType := some (.object "java/lang/AbstractStringBuilder") }, accessFlags := 1, code := some k20c5 }
def k20c6 : Code := { maxStack := 1, maxLocals := 1, code := jdk_68_method_64_code, exceptionTable := #[], attributes := #[] }
def k20m6 : Method := { name := "getValue", desc := "()[B", sig := { parameters := [], returnType := some (.array .byte) }, accessFlags := 16, code := some k20c6 }
def k20c7 : Code := { maxStack := 1, maxLocals := 1, code := jdk_68_method_68_code, exceptionTable := #[], attributes := #[] }
def k20m7 : Method := { name := "isLatin1", desc := "()Z", sig := { parameters := [], returnType := some .boolean }, accessFlags := 16, code := some k20c7 }
def k20c8 : Code := { maxStack := 2, maxLocals := 2, code := jdk_68_method_71_code, exceptionTable := #[], attributes := #[] }
def k20m8 : Method := { name := "inflateIfNeededFor", desc := "(Ljava/lang/String;)V", sig := { parameters := [(.object "java/lang/String")], returnType := none }, accessFlags := 2, code := some k20c8 }
def k20c9 : Code := { maxStack := 4, maxLocals := 3, code := jdk_68_method_73_code, exceptionTable := #[], attributes := #[] }
def k20m9 : Method := { name := "putStringAt", desc := "(ILjava/lang/String;)V", sig := { parameters := [.int, (.object "java/lang/String")], returnType := none }, accessFlags := 2, code := some k20c9 }
/-- java/lang/AbstractStringBuilder -/
def k20 : Class := { plain "java/lang/AbstractStringBuilder" (some 0) with
  accessFlags := 1056
  interfaces := #[19, 4]
  cf := some (fileOf pool20 10 #[] #[{ accessFlags := 0, nameIndex := 7, descriptorIndex := 8, attributes := #[] }, { accessFlags := 0, nameIndex := 7, descriptorIndex := 103, attributes := #[] }, { accessFlags := 1, nameIndex := 34, descriptorIndex := 35, attributes := #[] }, { accessFlags := 2, nameIndex := 102, descriptorIndex := 103, attributes := #[] }, { accessFlags := 2, nameIndex := 106, descriptorIndex := 107, attributes := #[] }, { accessFlags := 1, nameIndex := 45, descriptorIndex := 46, attributes := #[] }, { accessFlags := 16, nameIndex := 552, descriptorIndex := 403, attributes := #[] }, { accessFlags := 16, nameIndex := 85, descriptorIndex := 86, attributes := #[] }, { accessFlags := 2, nameIndex := 217, descriptorIndex := 69, attributes := #[] }, { accessFlags := 2, nameIndex := 210, descriptorIndex := 211, attributes := #[] }] 1056 4 #[444, 48] #[{ accessFlags := 0, nameIndex := 17, descriptorIndex := 14, attributes := #[] }, { accessFlags := 0, nameIndex := 24, descriptorIndex := 25, attributes := #[] }, { accessFlags := 0, nameIndex := 75, descriptorIndex := 21, attributes := #[] }, { accessFlags := 0, nameIndex := 81, descriptorIndex := 82, attributes := #[] }, { accessFlags := 26, nameIndex := 13, descriptorIndex := 14, attributes := #[] }])
  fields := #[{ name := "value", type := (.array .byte), accessFlags := 0, slot := 0, constantValue := 0 }, { name := "coder", type := .byte, accessFlags := 0, slot := 1, constantValue := 0 }, { name := "maybeLatin1", type := .boolean, accessFlags := 0, slot := 2, constantValue := 0 }, { name := "count", type := .int, accessFlags := 0, slot := 3, constantValue := 0 }, { name := "EMPTYVALUE", type := (.array .byte), accessFlags := 26, slot := 0, constantValue := 0 }]
  methods := #[k20m0, k20m1, k20m2, k20m3, k20m4, k20m5, k20m6, k20m7, k20m8, k20m9]
  instanceTypes := #[(.array .byte), .byte, .boolean, .int]
  staticTypes := #[(.array .byte)]
  resolved := Array.replicate 609 none
  statics := none }

def pool21 : Array CpInfo := pool [(1, .methodref 2 3), (0, .class_ 4), (0, .nameAndType 5 6), (0, u "java/lang/AbstractStringBuilder"), (0, u "<init>"), (0, u "(I)V"), (11, .class_ 20), (1, u "java/lang/String"), (3, .class_ 26), (1, u "java/lang/StringBuilder"), (0, u "append"), (0, u "(Ljava/lang/String;)Ljava/lang/StringBuilder;"), (0, .methodref 2 30), (0, .nameAndType 27 31), (0, u "(Ljava/lang/String;)Ljava/lang/AbstractStringBuilder;"), (105, .methodref 18 138), (0, .nameAndType 5 139), (0, u "(Ljava/lang/StringBuilder;)V"), (5, u "()V"), (10, u "()I"), (186, .methodref 2 344), (0, .nameAndType 345 156), (0, u "length"), (3, .class_ 350), (0, u "java/lang/Appendable"), (0, .class_ 352), (0, u "java/io/Serializable"), (0, .class_ 354), (0, u "java/lang/Comparable"), (0, .class_ 356), (0, u "java/lang/CharSequence"), (0, u "serialVersionUID"), (0, u "J"), (40, u "toString"), (0, u "()Ljava/lang/String;")] 21

def k21c0 : Code := { maxStack := 2, maxLocals := 1, code := jdk_67_method_1_code, exceptionTable := #[], attributes := #[] }
def k21m0 : Method := { name := "<init>", desc := "()V", sig := { parameters := [], returnType := none }, accessFlags := 1, code := some k21c0 }
def k21c1 : Code := { maxStack := 2, maxLocals := 2, code := jdk_67_method_7_code, exceptionTable := #[], attributes := #[] }
def k21m1 : Method := { name := "append", desc := "(Ljava/lang/String;)Ljava/lang/StringBuilder;", sig := { parameters := [(.object "java/lang/String")], returnType := some (.object "java/lang/StringBuilder") }, accessFlags := 1, code := some k21c1 }
def k21c2 : Code := { maxStack := 3, maxLocals := 1, code := jdk_67_method_42_code, exceptionTable := #[], attributes := #[] }
def k21m2 : Method := { name := "toString", desc := "()Ljava/lang/String;", sig := { parameters := [], returnType := some (.object "java/lang/String") }, accessFlags := 1, code := some k21c2 }
def k21c3 : Code := { maxStack := 1, maxLocals := 1, code := jdk_67_method_93_code, exceptionTable := #[], attributes := #[] }
def k21m3 : Method := { name := "length", desc := "()I", sig := { parameters := [], returnType := some .int }, accessFlags := 4161, code := some k21c3 }
/-- java/lang/StringBuilder -/
def k21 : Class := { plain "java/lang/StringBuilder" (some 20) with
  accessFlags := 49
  interfaces := #[19, 2, 3, 4]
  cf := some (fileOf pool21 24 #[] #[{ accessFlags := 1, nameIndex := 5, descriptorIndex := 145, attributes := #[] }, { accessFlags := 1, nameIndex := 27, descriptorIndex := 28, attributes := #[] }, { accessFlags := 1, nameIndex := 399, descriptorIndex := 400, attributes := #[] }, { accessFlags := 4161, nameIndex := 345, descriptorIndex := 156, attributes := #[] }] 49 2 #[349, 351, 353, 355] #[{ accessFlags := 24, nameIndex := 357, descriptorIndex := 358, attributes := #[] }])
  fields := #[{ name := "serialVersionUID", type := .long, accessFlags := 24, slot := 0, constantValue := 0 }]
  methods := #[k21m0, k21m1, k21m2, k21m3]
  instanceTypes := #[(.array .byte), .byte, .boolean, .int]
  staticTypes := #[.long]
  resolved := Array.replicate 422 none
  statics := none }

def pool22 : Array CpInfo := pool [(2, .class_ 4), (1, u "java/lang/Object"), (0, u "<init>"), (0, u "()V"), (1, .class_ 10), (1, u "java/lang/System"), (0, u "allowSecurityManager"), (0, u "I"), (16, u "cons"), (0, u "Ljava/io/Console;"), (77, .class_ 110), (1, u "java/lang/System$CallersHolder"), (43, u "initialErrStream"), (0, u "Ljava/io/PrintStream;"), (19, u "security"), (0, u "Ljava/lang/SecurityManager;"), (31, .class_ 209), (0, u "java/lang/System$1"), (7, u "props"), (0, u "Ljava/util/Properties;"), (2, u "lineSeparator"), (0, u "Ljava/lang/String;"), (96, .class_ 321), (1, u "java/lang/System$LoggerFinder"), (5, .class_ 328), (0, u "java/lang/System$Logger"), (67, u "err"), (2, u "out"), (91, u "notSupportedJnuEncoding"), (15, u "in"), (17, u "initialIn"), (0, u "Ljava/io/InputStream;"), (35, u "bootLayer"), (0, u "Ljava/lang/ModuleLayer;"), (99, .class_ 664), (0, u "java/lang/System$2"), (9, u "NEVER"), (2, u "MAYBE"), (49, u "arraycopy"), (0, u "(Ljava/lang/Object;ILjava/lang/Object;II)V"), (72, .class_ 802), (0, u "java/lang/System$Logger$Level")] 31

def k22m0 : Method := { name := "<init>", desc := "()V", sig := { parameters := [], returnType := none }, accessFlags := 2, code := none }
def k22m1 : Method := { name := "arraycopy", desc := "(Ljava/lang/Object;ILjava/lang/Object;II)V", sig := { parameters := [(.object "java/lang/Object"), .int, (.object "java/lang/Object"), .int, .int], returnType := none }, accessFlags := 265, code := none }
/-- java/lang/System -/
def k22 : Class := { plain "java/lang/System" (some 0) with
  accessFlags := 49
  interfaces := #[]
  cf := some (fileOf pool22 8 #[.nestMembers #[319, 327, 801, 108, 663, 208]] #[{ accessFlags := 2, nameIndex := 5, descriptorIndex := 6, attributes := #[] }, { accessFlags := 265, nameIndex := 727, descriptorIndex := 728, attributes := #[] }] 49 2 #[] #[{ accessFlags := 25, nameIndex := 507, descriptorIndex := 526, attributes := #[] }, { accessFlags := 25, nameIndex := 399, descriptorIndex := 155, attributes := #[] }, { accessFlags := 25, nameIndex := 396, descriptorIndex := 155, attributes := #[] }, { accessFlags := 10, nameIndex := 525, descriptorIndex := 526, attributes := #[] }, { accessFlags := 26, nameIndex := 674, descriptorIndex := 12, attributes := #[] }, { accessFlags := 26, nameIndex := 677, descriptorIndex := 12, attributes := #[] }, { accessFlags := 10, nameIndex := 11, descriptorIndex := 12, attributes := #[] }, { accessFlags := 74, nameIndex := 175, descriptorIndex := 176, attributes := #[] }, { accessFlags := 10, nameIndex := 491, descriptorIndex := 222, attributes := #[] }, { accessFlags := 74, nameIndex := 29, descriptorIndex := 30, attributes := #[] }, { accessFlags := 74, nameIndex := 154, descriptorIndex := 155, attributes := #[] }, { accessFlags := 10, nameIndex := 217, descriptorIndex := 218, attributes := #[] }, { accessFlags := 10, nameIndex := 221, descriptorIndex := 222, attributes := #[] }, { accessFlags := 8, nameIndex := 562, descriptorIndex := 563, attributes := #[] }])
  fields := #[{ name := "in", type := (.object "java/io/InputStream"), accessFlags := 25, slot := 0, constantValue := 0 }, { name := "out", type := (.object "java/io/PrintStream"), accessFlags := 25, slot := 1, constantValue := 0 }, { name := "err", type := (.object "java/io/PrintStream"), accessFlags := 25, slot := 2, constantValue := 0 }, { name := "initialIn", type := (.object "java/io/InputStream"), accessFlags := 10, slot := 3, constantValue := 0 }, { name := "NEVER", type := .int, accessFlags := 26, slot := 4, constantValue := 0 }, { name := "MAYBE", type := .int, accessFlags := 26, slot := 5, constantValue := 0 }, { name := "allowSecurityManager", type := .int, accessFlags := 10, slot := 6, constantValue := 0 }, { name := "security", type := (.object "java/lang/SecurityManager"), accessFlags := 74, slot := 7, constantValue := 0 }, { name := "notSupportedJnuEncoding", type := (.object "java/lang/String"), accessFlags := 10, slot := 8, constantValue := 0 }, { name := "cons", type := (.object "java/io/Console"), accessFlags := 74, slot := 9, constantValue := 0 }, { name := "initialErrStream", type := (.object "java/io/PrintStream"), accessFlags := 74, slot := 10, constantValue := 0 }, { name := "props", type := (.object "java/util/Properties"), accessFlags := 10, slot := 11, constantValue := 0 }, { name := "lineSeparator", type := (.object "java/lang/String"), accessFlags := 10, slot := 12, constantValue := 0 }, { name := "bootLayer", type := (.object "java/lang/ModuleLayer"), accessFlags := 8, slot := 13, constantValue := 0 }]
  methods := #[k22m0, k22m1]
  instanceTypes := #[]
  staticTypes := #[(.object "java/io/InputStream"), (.object "java/io/PrintStream"), (.object "java/io/PrintStream"), (.object "java/io/InputStream"), .int, .int, .int, (.object "java/lang/SecurityManager"), (.object "java/lang/String"), (.object "java/io/Console"), (.object "java/io/PrintStream"), (.object "java/util/Properties"), (.object "java/lang/String"), (.object "java/lang/ModuleLayer")]
  resolved := Array.replicate 834 none
  statics := none }

def pool23 : Array CpInfo := pool [(2, .class_ 4), (1, u "java/lang/Object"), (0, u "<init>"), (0, u "()V"), (7, .class_ 16), (1, u "java/util/Arrays"), (57, .class_ 76), (1, u "java/util/Arrays$NaturalOrder"), (36, .class_ 115), (1, u "java/util/Arrays$LegacyMergeSort"), (1, u "Z"), (21, u "copyOfRange"), (10, .methodref 151 152), (0, .class_ 153), (0, .nameAndType 154 155), (0, u "java/lang/System"), (0, u "arraycopy"), (0, u "(Ljava/lang/Object;ILjava/lang/Object;II)V"), (146, u "copyOf"), (1, .methodref 305 306), (0, .class_ 307), (0, .nameAndType 308 309), (0, u "java/lang/Math"), (0, u "min"), (0, u "(II)I"), (29, .methodref 14 340), (0, .nameAndType 341 342), (0, u "copyOfRangeByte"), (0, u "([BII)[B"), (0, .methodref 14 344), (0, .nameAndType 345 346), (0, u "checkLength"), (0, u "(II)V"), (28, .class_ 376), (0, u "java/util/Arrays$ArrayList"), (68, u "$assertionsDisabled"), (269, u "MIN_ARRAY_SORT_GRAN"), (0, u "I"), (2, u "INSERTIONSORT_THRESHOLD"), (149, u "([BI)[B"), (105, .class_ 976), (0, u "java/util/Arrays$ArrayItr")] 52

def k23m0 : Method := { name := "<init>", desc := "()V", sig := { parameters := [], returnType := none }, accessFlags := 2, code := none }
def k23c1 : Code := { maxStack := 6, maxLocals := 3, code := jdk_65_method_121_code, exceptionTable := #[], attributes := #[] }
def k23m1 : Method := { name := "copyOf", desc := "([BI)[B", sig := { parameters := [(.array .byte), .int], returnType := some (.array .byte) }, accessFlags := 9, code := some k23c1 }
def k23c2 : Code := { maxStack := 4, maxLocals := 2, code := jdk_65_method_131_code, exceptionTable := #[], attributes := #[] }
def k23m2 : Method := { name := "checkLength", desc := "(II)V", sig := { parameters := [.int, .int], returnType := none }, accessFlags := 10, code := some k23c2 }
def k23c3 : Code := { maxStack := 3, maxLocals := 3, code := jdk_65_method_132_code, exceptionTable := #[], attributes := #[] }
def k23m3 : Method := { name := "copyOfRange", desc := "([BII)[B", sig := { parameters := [(.array .byte), .int, .int], returnType := some (.array .byte) }, accessFlags := 9, code := some k23c3 }
def k23c4 : Code := { maxStack := 6, maxLocals := 5, code := jdk_65_method_133_code, exceptionTable := #[], attributes := #[] }
def k23m4 : Method := { name := "copyOfRangeByte", desc := "([BII)[B", sig := { parameters := [(.array .byte), .int, .int], returnType := some (.array .byte) }, accessFlags := 10, code := some k23c4 }
/-- java/util/Arrays -/
def k23 : Class := { plain "java/util/Arrays" (some 0) with
  accessFlags := 49
  interfaces := #[]
  cf := some (fileOf pool23 14 #[.nestMembers #[975, 375, 113, 74]] #[{ accessFlags := 2, nameIndex := 5, descriptorIndex := 6, attributes := #[] }, { accessFlags := 9, nameIndex := 302, descriptorIndex := 869, attributes := #[] }, { accessFlags := 10, nameIndex := 345, descriptorIndex := 346, attributes := #[] }, { accessFlags := 9, nameIndex := 139, descriptorIndex := 342, attributes := #[] }, { accessFlags := 10, nameIndex := 341, descriptorIndex := 342, attributes := #[] }] 49 2 #[] #[{ accessFlags := 26, nameIndex := 715, descriptorIndex := 716, attributes := #[] }, { accessFlags := 26, nameIndex := 719, descriptorIndex := 716, attributes := #[] }, { accessFlags := 4120, nameIndex := 445, descriptorIndex := 117, attributes := #[] }])
  fields := #[{ name := "MIN_ARRAY_SORT_GRAN", type := .int, accessFlags := 26, slot := 0, constantValue := 0 }, { name := "INSERTIONSORT_THRESHOLD", type := .int, accessFlags := 26, slot := 1, constantValue := 0 }, { name := "$assertionsDisabled", type := .boolean, accessFlags := 4120, slot := 2, constantValue := 0 }]
  methods := #[k23m0, k23m1, k23m2, k23m3, k23m4]
  instanceTypes := #[]
  staticTypes := #[.int, .int, .boolean]
  resolved := Array.replicate 1029 none
  statics := none }

def pool24 : Array CpInfo := pool [(1, .class_ 2), (0, u "java/lang/Math"), (1, .class_ 6), (1, u "java/lang/Object"), (0, u "<init>"), (0, u "()V"), (89, .class_ 100), (1, u "java/lang/Math$RandomNumberGeneratorHolder"), (71, u "negativeZeroFloatBits"), (0, u "J"), (2, u "negativeZeroDoubleBits"), (21, u "max"), (2, u "min"), (43, u "$assertionsDisabled"), (0, u "Z"), (88, u "(II)I"), (2, u "twoToTheDoubleScaleDown"), (0, u "D"), (4, u "twoToTheDoubleScaleUp"), (9, u "E"), (3, u "PI"), (2, u "TAU"), (2, u "DEGREES_TO_RADIANS"), (0, u "RADIANS_TO_DEGREES")] 94

def k24m0 : Method := { name := "<init>", desc := "()V", sig := { parameters := [], returnType := none }, accessFlags := 2, code := none }
def k24c1 : Code := { maxStack := 2, maxLocals := 2, code := jdk_29_method_65_code, exceptionTable := #[], attributes := #[] }
def k24m1 : Method := { name := "max", desc := "(II)I", sig := { parameters := [.int, .int], returnType := some .int }, accessFlags := 9, code := some k24c1 }
def k24c2 : Code := { maxStack := 2, maxLocals := 2, code := jdk_29_method_69_code, exceptionTable := #[], attributes := #[] }
def k24m2 : Method := { name := "min", desc := "(II)I", sig := { parameters := [.int, .int], returnType := some .int }, accessFlags := 9, code := some k24c2 }
/-- java/lang/Math -/
def k24 : Class := { plain "java/lang/Math" (some 0) with
  accessFlags := 49
  interfaces := #[]
  cf := some (fileOf pool24 1 #[.nestMembers #[98]] #[{ accessFlags := 2, nameIndex := 7, descriptorIndex := 8, attributes := #[] }, { accessFlags := 9, nameIndex := 198, descriptorIndex := 335, attributes := #[] }, { accessFlags := 9, nameIndex := 201, descriptorIndex := 335, attributes := #[] }] 49 4 #[] #[{ accessFlags := 25, nameIndex := 354, descriptorIndex := 339, attributes := #[] }, { accessFlags := 25, nameIndex := 358, descriptorIndex := 339, attributes := #[] }, { accessFlags := 25, nameIndex := 361, descriptorIndex := 339, attributes := #[] }, { accessFlags := 26, nameIndex := 364, descriptorIndex := 339, attributes := #[] }, { accessFlags := 26, nameIndex := 365, descriptorIndex := 339, attributes := #[] }, { accessFlags := 26, nameIndex := 172, descriptorIndex := 173, attributes := #[] }, { accessFlags := 26, nameIndex := 176, descriptorIndex := 173, attributes := #[] }, { accessFlags := 8, nameIndex := 344, descriptorIndex := 339, attributes := #[] }, { accessFlags := 8, nameIndex := 338, descriptorIndex := 339, attributes := #[] }, { accessFlags := 4120, nameIndex := 245, descriptorIndex := 246, attributes := #[] }])
  fields := #[{ name := "E", type := .double, accessFlags := 25, slot := 0, constantValue := 0 }, { name := "PI", type := .double, accessFlags := 25, slot := 1, constantValue := 0 }, { name := "TAU", type := .double, accessFlags := 25, slot := 2, constantValue := 0 }, { name := "DEGREES_TO_RADIANS", type := .double, accessFlags := 26, slot := 3, constantValue := 0 }, { name := "RADIANS_TO_DEGREES", type := .double, accessFlags := 26, slot := 4, constantValue := 0 }, { name := "negativeZeroFloatBits", type := .long, accessFlags := 26, slot := 5, constantValue := 0 }, { name := "negativeZeroDoubleBits", type := .long, accessFlags := 26, slot := 6, constantValue := 0 }, { name := "twoToTheDoubleScaleUp", type := .double, accessFlags := 8, slot := 7, constantValue := 0 }, { name := "twoToTheDoubleScaleDown", type := .double, accessFlags := 8, slot := 8, constantValue := 0 }, { name := "$assertionsDisabled", type := .boolean, accessFlags := 4120, slot := 9, constantValue := 0 }]
  methods := #[k24m0, k24m1, k24m2]
  instanceTypes := #[]
  staticTypes := #[.double, .double, .double, .double, .double, .long, .long, .double, .double, .boolean]
  resolved := Array.replicate 460 none
  statics := none }

def pool25 : Array CpInfo := pool [(16, .class_ 18), (1, u "java/util/Iterator"), (0, u "hasNext"), (0, u "()Z"), (2, u "next"), (0, u "()Ljava/lang/Object;"), (6, .class_ 32), (0, u "java/lang/Object")] 20

def k25m0 : Method := { name := "hasNext", desc := "()Z", sig := { parameters := [], returnType := some .boolean }, accessFlags := 1025, code := none }
def k25m1 : Method := { name := "next", desc := "()Ljava/lang/Object;", sig := { parameters := [], returnType := some (.object "java/lang/Object") }, accessFlags := 1025, code := none }
/-- java/util/Iterator -/
def k25 : Class := { plain "java/util/Iterator" (some 0) with
  accessFlags := 1537
  interfaces := #[]
  cf := some (fileOf pool25 16 #[] #[{ accessFlags := 1025, nameIndex := 19, descriptorIndex := 20, attributes := #[] }, { accessFlags := 1025, nameIndex := 23, descriptorIndex := 24, attributes := #[] }] 1537 31 #[] #[])
  fields := #[]
  methods := #[k25m0, k25m1]
  instanceTypes := #[]
  staticTypes := #[]
  resolved := Array.replicate 53 none
  statics := none }

def pool26 : Array CpInfo := pool [(1, .fieldref 2 3), (0, .class_ 4), (0, .nameAndType 5 6), (0, u "java/util/ArrayList$Itr"), (0, u "this$0"), (0, u "Ljava/util/ArrayList;"), (0, .methodref 8 9), (0, .class_ 10), (0, .nameAndType 11 12), (0, u "java/lang/Object"), (0, u "<init>"), (0, u "()V"), (0, .fieldref 2 14), (0, .nameAndType 15 16), (0, u "lastRet"), (0, u "I"), (0, .fieldref 18 19), (0, .class_ 20), (0, .nameAndType 21 16), (0, u "java/util/ArrayList"), (0, u "modCount"), (0, .fieldref 2 23), (0, .nameAndType 24 16), (0, u "expectedModCount"), (0, .fieldref 2 26), (0, .nameAndType 27 16), (0, u "cursor"), (0, .fieldref 18 29), (0, .nameAndType 30 16), (0, u "size"), (0, .methodref 2 32), (0, .nameAndType 33 12), (0, u "checkForComodification"), (3, .fieldref 18 38), (0, .nameAndType 39 40), (0, u "elementData"), (0, u "[Ljava/lang/Object;"), (28, .class_ 70), (0, u "java/util/Iterator"), (0, u "(Ljava/util/ArrayList;)V"), (8, u "hasNext"), (0, u "()Z"), (1, u "next"), (0, u "()Ljava/lang/Object;")] 19

def k26c0 : Code := { maxStack := 2, maxLocals := 2, code := jdk_49_method_1_code, exceptionTable := #[], attributes := #[] }
def k26m0 : Method := { name := "<init>", desc := "(Ljava/util/ArrayList;)V", sig := { parameters := [(.object "java/util/ArrayList")], returnType := none }, accessFlags := 0, code := some k26c0 }
def k26c1 : Code := { maxStack := 2, maxLocals := 1, code := jdk_49_method_2_code, exceptionTable := #[], attributes := #[] }
def k26m1 : Method := { name := "hasNext", desc := "()Z", sig := { parameters := [], returnType := some .boolean }, accessFlags := 1, code := some k26c1 }
def k26c2 : Code := { maxStack := 4, maxLocals := 3, code := jdk_49_method_3_code, exceptionTable := #[], attributes := #[] }
def k26m2 : Method := { name := "next", desc := "()Ljava/lang/Object;", sig := { parameters := [], returnType := some (.object "java/lang/Object") }, accessFlags := 1, code := some k26c2 }
def k26c3 : Code := { maxStack := 2, maxLocals := 1, code := jdk_49_method_6_code, exceptionTable := #[], attributes := #[] }
def k26m3 : Method := { name := "checkForComodification", desc := "()V", sig := { parameters := [], returnType := none }, accessFlags := 16, code := some k26c3 }
/-- java/util/ArrayList$Itr -/
def k26 : Class := { plain "java/util/ArrayList$Itr" (some 0) with
  accessFlags := 32
  interfaces := #[25]
  cf := some (fileOf pool26 2 #[.nestHost 18] #[{ accessFlags := 0, nameIndex := 11, descriptorIndex := 71, attributes := #[] }, { accessFlags := 1, nameIndex := 80, descriptorIndex := 81, attributes := #[] }, { accessFlags := 1, nameIndex := 83, descriptorIndex := 84, attributes := #[] }, { accessFlags := 16, nameIndex := 33, descriptorIndex := 12, attributes := #[] }] 32 8 #[69] #[{ accessFlags := 0, nameIndex := 27, descriptorIndex := 16, attributes := #[] }, { accessFlags := 0, nameIndex := 15, descriptorIndex := 16, attributes := #[] }, { accessFlags := 0, nameIndex := 24, descriptorIndex := 16, attributes := #[] }, { accessFlags := 4112, nameIndex := 5, descriptorIndex := 6, attributes := #[] }])
  fields := #[{ name := "cursor", type := .int, accessFlags := 0, slot := 0, constantValue := 0 }, { name := "lastRet", type := .int, accessFlags := 0, slot := 1, constantValue := 0 }, { name := "expectedModCount", type := .int, accessFlags := 0, slot := 2, constantValue := 0 }, { name := "this$0", type := (.object "java/util/ArrayList"), accessFlags := 4112, slot := 3, constantValue := 0 }]
  methods := #[k26m0, k26m1, k26m2, k26m3]
  instanceTypes := #[.int, .int, .int, (.object "java/util/ArrayList")]
  staticTypes := #[]
  resolved := Array.replicate 104 none
  statics := none }

def pool27 : Array CpInfo := pool [(1, .methodref 2 3), (0, .class_ 4), (0, .nameAndType 5 6), (0, u "java/lang/Object"), (0, u "<init>"), (0, u "()V"), (0, .fieldref 8 9), (0, .class_ 10), (0, .nameAndType 11 12), (0, u "com/example/tiebreak/tiebreak/core/DuplicateRegistration"), (0, u "filterClass"), (0, u "Ljava/lang/String;"), (0, .fieldref 8 14), (0, .nameAndType 15 12), (0, u "kept"), (0, .fieldref 8 17), (0, .nameAndType 18 12), (0, u "dropped"), (0, u "(Ljava/lang/String;Ljava/lang/String;Ljava/lang/String;)V"), (2, u "()Ljava/lang/String;")] 2

def k27c0 : Code := { maxStack := 2, maxLocals := 4, code := prog_4_method_1_code, exceptionTable := #[], attributes := #[] }
def k27m0 : Method := { name := "<init>", desc := "(Ljava/lang/String;Ljava/lang/String;Ljava/lang/String;)V", sig := { parameters := [(.object "java/lang/String"), (.object "java/lang/String"), (.object "java/lang/String")], returnType := none }, accessFlags := 1, code := some k27c0 }
def k27c1 : Code := { maxStack := 1, maxLocals := 1, code := prog_4_method_2_code, exceptionTable := #[], attributes := #[] }
def k27m1 : Method := { name := "filterClass", desc := "()Ljava/lang/String;", sig := { parameters := [], returnType := some (.object "java/lang/String") }, accessFlags := 1, code := some k27c1 }
def k27c2 : Code := { maxStack := 1, maxLocals := 1, code := prog_4_method_3_code, exceptionTable := #[], attributes := #[] }
def k27m2 : Method := { name := "kept", desc := "()Ljava/lang/String;", sig := { parameters := [], returnType := some (.object "java/lang/String") }, accessFlags := 1, code := some k27c2 }
def k27c3 : Code := { maxStack := 1, maxLocals := 1, code := prog_4_method_4_code, exceptionTable := #[], attributes := #[] }
def k27m3 : Method := { name := "dropped", desc := "()Ljava/lang/String;", sig := { parameters := [], returnType := some (.object "java/lang/String") }, accessFlags := 1, code := some k27c3 }
/-- com/example/tiebreak/tiebreak/core/DuplicateRegistration -/
def k27 : Class := { plain "com/example/tiebreak/tiebreak/core/DuplicateRegistration" (some 0) with
  accessFlags := 33
  interfaces := #[]
  cf := some (fileOf pool27 8 #[] #[{ accessFlags := 1, nameIndex := 5, descriptorIndex := 19, attributes := #[] }, { accessFlags := 1, nameIndex := 11, descriptorIndex := 22, attributes := #[] }, { accessFlags := 1, nameIndex := 15, descriptorIndex := 22, attributes := #[] }, { accessFlags := 1, nameIndex := 18, descriptorIndex := 22, attributes := #[] }] 33 2 #[] #[{ accessFlags := 18, nameIndex := 11, descriptorIndex := 12, attributes := #[] }, { accessFlags := 18, nameIndex := 15, descriptorIndex := 12, attributes := #[] }, { accessFlags := 18, nameIndex := 18, descriptorIndex := 12, attributes := #[] }])
  fields := #[{ name := "filterClass", type := (.object "java/lang/String"), accessFlags := 18, slot := 0, constantValue := 0 }, { name := "kept", type := (.object "java/lang/String"), accessFlags := 18, slot := 1, constantValue := 0 }, { name := "dropped", type := (.object "java/lang/String"), accessFlags := 18, slot := 2, constantValue := 0 }]
  methods := #[k27m0, k27m1, k27m2, k27m3]
  instanceTypes := #[(.object "java/lang/String"), (.object "java/lang/String"), (.object "java/lang/String")]
  staticTypes := #[]
  resolved := Array.replicate 25 none
  statics := none }

def pool28 : Array CpInfo := pool [(9, u "<init>"), (6, .class_ 18), (1, u "java/lang/Object"), (0, u "()V"), (1, .class_ 23), (1, u "jdk/internal/util/ArraysSupport"), (0, u "LOG2_ARRAY_LONG_INDEX_SCALE"), (0, u "I"), (2, u "U"), (0, u "Ljdk/internal/misc/Unsafe;"), (8, u "BIG_ENDIAN"), (0, u "Z"), (8, u "LOG2_BYTE_BIT_SIZE"), (4, u "LOG2_ARRAY_INT_INDEX_SCALE"), (54, u "JLA"), (0, u "Ljdk/internal/access/JavaLangAccess;"), (11, u "LOG2_ARRAY_BOOLEAN_INDEX_SCALE"), (9, u "LOG2_ARRAY_BYTE_INDEX_SCALE"), (5, u "LOG2_ARRAY_CHAR_INDEX_SCALE"), (5, u "LOG2_ARRAY_SHORT_INDEX_SCALE"), (18, u "LOG2_ARRAY_FLOAT_INDEX_SCALE"), (24, u "LOG2_ARRAY_DOUBLE_INDEX_SCALE"), (6, .methodref 195 196), (0, .class_ 197), (0, .nameAndType 198 199), (0, u "java/lang/Math"), (0, u "max"), (0, u "(II)I"), (0, .integer 2147483639), (76, u "T_BOOLEAN"), (2, u "T_CHAR"), (1, u "T_FLOAT"), (1, u "T_DOUBLE"), (1, u "T_BYTE"), (1, u "T_SHORT"), (1, u "T_INT"), (1, u "T_LONG"), (1, u "SOFT_MAX_ARRAY_LENGTH"), (56, u "newLength"), (0, u "(III)I")] 25

def k28m0 : Method := { name := "<init>", desc := "()V", sig := { parameters := [], returnType := none }, accessFlags := 2, code := none }
def k28c1 : Code := { maxStack := 3, maxLocals := 4, code := jdk_48_method_27_code, exceptionTable := #[], attributes := #[] }
def k28m1 : Method := { name := "newLength", desc := "(III)I", sig := { parameters := [.int, .int, .int], returnType := some .int }, accessFlags := 9, code := some k28c1 }
/-- jdk/internal/util/ArraysSupport -/
def k28 : Class := { plain "jdk/internal/util/ArraysSupport" (some 0) with
  accessFlags := 33
  interfaces := #[]
  cf := some (fileOf pool28 21 #[] #[{ accessFlags := 2, nameIndex := 9, descriptorIndex := 19, attributes := #[] }, { accessFlags := 9, nameIndex := 351, descriptorIndex := 352, attributes := #[] }] 33 16 #[] #[{ accessFlags := 24, nameIndex := 28, descriptorIndex := 29, attributes := #[] }, { accessFlags := 26, nameIndex := 38, descriptorIndex := 39, attributes := #[] }, { accessFlags := 25, nameIndex := 121, descriptorIndex := 25, attributes := #[] }, { accessFlags := 25, nameIndex := 131, descriptorIndex := 25, attributes := #[] }, { accessFlags := 25, nameIndex := 137, descriptorIndex := 25, attributes := #[] }, { accessFlags := 25, nameIndex := 143, descriptorIndex := 25, attributes := #[] }, { accessFlags := 25, nameIndex := 53, descriptorIndex := 25, attributes := #[] }, { accessFlags := 25, nameIndex := 24, descriptorIndex := 25, attributes := #[] }, { accessFlags := 25, nameIndex := 162, descriptorIndex := 25, attributes := #[] }, { accessFlags := 25, nameIndex := 187, descriptorIndex := 25, attributes := #[] }, { accessFlags := 26, nameIndex := 48, descriptorIndex := 25, attributes := #[] }, { accessFlags := 25, nameIndex := 277, descriptorIndex := 25, attributes := #[] }, { accessFlags := 25, nameIndex := 280, descriptorIndex := 25, attributes := #[] }, { accessFlags := 25, nameIndex := 282, descriptorIndex := 25, attributes := #[] }, { accessFlags := 25, nameIndex := 284, descriptorIndex := 25, attributes := #[] }, { accessFlags := 25, nameIndex := 286, descriptorIndex := 25, attributes := #[] }, { accessFlags := 25, nameIndex := 288, descriptorIndex := 25, attributes := #[] }, { accessFlags := 25, nameIndex := 290, descriptorIndex := 25, attributes := #[] }, { accessFlags := 25, nameIndex := 292, descriptorIndex := 25, attributes := #[] }, { accessFlags := 26, nameIndex := 108, descriptorIndex := 109, attributes := #[] }, { accessFlags := 25, nameIndex := 294, descriptorIndex := 25, attributes := #[] }])
  fields := #[{ name := "U", type := (.object "jdk/internal/misc/Unsafe"), accessFlags := 24, slot := 0, constantValue := 0 }, { name := "BIG_ENDIAN", type := .boolean, accessFlags := 26, slot := 1, constantValue := 0 }, { name := "LOG2_ARRAY_BOOLEAN_INDEX_SCALE", type := .int, accessFlags := 25, slot := 2, constantValue := 0 }, { name := "LOG2_ARRAY_BYTE_INDEX_SCALE", type := .int, accessFlags := 25, slot := 3, constantValue := 0 }, { name := "LOG2_ARRAY_CHAR_INDEX_SCALE", type := .int, accessFlags := 25, slot := 4, constantValue := 0 }, { name := "LOG2_ARRAY_SHORT_INDEX_SCALE", type := .int, accessFlags := 25, slot := 5, constantValue := 0 }, { name := "LOG2_ARRAY_INT_INDEX_SCALE", type := .int, accessFlags := 25, slot := 6, constantValue := 0 }, { name := "LOG2_ARRAY_LONG_INDEX_SCALE", type := .int, accessFlags := 25, slot := 7, constantValue := 0 }, { name := "LOG2_ARRAY_FLOAT_INDEX_SCALE", type := .int, accessFlags := 25, slot := 8, constantValue := 0 }, { name := "LOG2_ARRAY_DOUBLE_INDEX_SCALE", type := .int, accessFlags := 25, slot := 9, constantValue := 0 }, { name := "LOG2_BYTE_BIT_SIZE", type := .int, accessFlags := 26, slot := 10, constantValue := 0 }, { name := "T_BOOLEAN", type := .int, accessFlags := 25, slot := 11, constantValue := 0 }, { name := "T_CHAR", type := .int, accessFlags := 25, slot := 12, constantValue := 0 }, { name := "T_FLOAT", type := .int, accessFlags := 25, slot := 13, constantValue := 0 }, { name := "T_DOUBLE", type := .int, accessFlags := 25, slot := 14, constantValue := 0 }, { name := "T_BYTE", type := .int, accessFlags := 25, slot := 15, constantValue := 0 }, { name := "T_SHORT", type := .int, accessFlags := 25, slot := 16, constantValue := 0 }, { name := "T_INT", type := .int, accessFlags := 25, slot := 17, constantValue := 0 }, { name := "T_LONG", type := .int, accessFlags := 25, slot := 18, constantValue := 0 }, { name := "JLA", type := (.object "jdk/internal/access/JavaLangAccess"), accessFlags := 26, slot := 19, constantValue := 0 }, { name := "SOFT_MAX_ARRAY_LENGTH", type := .int, accessFlags := 25, slot := 20, constantValue := 0 }]
  methods := #[k28m0, k28m1]
  instanceTypes := #[]
  staticTypes := #[(.object "jdk/internal/misc/Unsafe"), .boolean, .int, .int, .int, .int, .int, .int, .int, .int, .int, .int, .int, .int, .int, .int, .int, .int, .int, (.object "jdk/internal/access/JavaLangAccess"), .int]
  resolved := Array.replicate 378 none
  statics := none }

def pool29 : Array CpInfo := pool [(6, .class_ 8), (1, u "java/lang/Object"), (0, u "<init>"), (0, u "()V"), (1, .class_ 14), (1, u "java/lang/StringUTF16"), (31, u "$assertionsDisabled"), (0, u "Z"), (13, u "HI_BYTE_SHIFT"), (0, u "I"), (2, u "LO_BYTE_SHIFT"), (49, .methodref 12 116), (0, .nameAndType 117 118), (0, u "compress"), (0, u "([CI[BII)I"), (3, u "([CII)[B"), (138, u "coderFromArrayLen"), (0, u "([BI)B"), (106, .class_ 371), (1, u "java/lang/StringUTF16$LinesSpliterator"), (58, u "MAX_LENGTH"), (196, .class_ 628), (0, u "java/lang/StringUTF16$CodePointsSpliterator"), (0, .class_ 630), (0, u "java/lang/StringUTF16$CharsSpliterator")] 4

def k29m0 : Method := { name := "<init>", desc := "()V", sig := { parameters := [], returnType := none }, accessFlags := 0, code := none }
def k29c1 : Code := { maxStack := 2, maxLocals := 2, code := jdk_52_method_15_code, exceptionTable := #[], attributes := #[] }
def k29m1 : Method := { name := "coderFromArrayLen", desc := "([BI)B", sig := { parameters := [(.array .byte), .int], returnType := some .byte }, accessFlags := 8, code := some k29c1 }
def k29c2 : Code := { maxStack := 5, maxLocals := 6, code := jdk_52_method_16_code, exceptionTable := #[], attributes := #[] }
def k29m2 : Method := { name := "compress", desc := "([CII)[B", sig := { parameters := [(.array .char), .int, .int], returnType := some (.array .byte) }, accessFlags := 9, code := some k29c2 }
def k29c3 : Code := { maxStack := 3, maxLocals := 7, code := jdk_52_method_21_code, exceptionTable := #[], attributes := #[] }
def k29m3 : Method := { name := "compress", desc := "([CI[BII)I", sig := { parameters := [(.array .char), .int, (.array .byte), .int, .int], returnType := some .int }, accessFlags := 9, code := some k29c3 }
/-- java/lang/StringUTF16 -/
def k29 : Class := { plain "java/lang/StringUTF16" (some 0) with
  accessFlags := 48
  interfaces := #[]
  cf := some (fileOf pool29 12 #[.nestMembers #[627, 629, 369]] #[{ accessFlags := 0, nameIndex := 9, descriptorIndex := 10, attributes := #[] }, { accessFlags := 8, nameIndex := 261, descriptorIndex := 262, attributes := #[] }, { accessFlags := 9, nameIndex := 117, descriptorIndex := 122, attributes := #[] }, { accessFlags := 9, nameIndex := 117, descriptorIndex := 118, attributes := #[] }] 48 6 #[] #[{ accessFlags := 26, nameIndex := 61, descriptorIndex := 62, attributes := #[] }, { accessFlags := 26, nameIndex := 65, descriptorIndex := 62, attributes := #[] }, { accessFlags := 24, nameIndex := 430, descriptorIndex := 62, attributes := #[] }, { accessFlags := 4120, nameIndex := 46, descriptorIndex := 47, attributes := #[] }])
  fields := #[{ name := "HI_BYTE_SHIFT", type := .int, accessFlags := 26, slot := 0, constantValue := 0 }, { name := "LO_BYTE_SHIFT", type := .int, accessFlags := 26, slot := 1, constantValue := 0 }, { name := "MAX_LENGTH", type := .int, accessFlags := 24, slot := 2, constantValue := 0 }, { name := "$assertionsDisabled", type := .boolean, accessFlags := 4120, slot := 3, constantValue := 0 }]
  methods := #[k29m0, k29m1, k29m2, k29m3]
  instanceTypes := #[]
  staticTypes := #[.int, .int, .int, .boolean]
  resolved := Array.replicate 635 none
  statics := none }

def pool30 : Array CpInfo := pool [(2, .class_ 4), (1, u "java/lang/Object"), (0, u "<init>"), (0, u "()V"), (35, .class_ 44), (1, u "java/util/Objects"), (60, .methodref 106 107), (0, .class_ 108), (0, .nameAndType 109 110), (0, u "jdk/internal/util/Preconditions"), (0, u "checkIndex"), (0, u "(IILjava/util/function/BiFunction;)I"), (60, u "(II)I")] 12

def k30m0 : Method := { name := "<init>", desc := "()V", sig := { parameters := [], returnType := none }, accessFlags := 2, code := none }
def k30c1 : Code := { maxStack := 3, maxLocals := 2, code := jdk_31_method_17_code, exceptionTable := #[], attributes := #[] }
def k30m1 : Method := { name := "checkIndex", desc := "(II)I", sig := { parameters := [.int, .int], returnType := some .int }, accessFlags := 9, code := some k30c1 }
/-- java/util/Objects -/
def k30 : Class := { plain "java/util/Objects" (some 0) with
  accessFlags := 49
  interfaces := #[]
  cf := some (fileOf pool30 42 #[] #[{ accessFlags := 2, nameIndex := 5, descriptorIndex := 6, attributes := #[] }, { accessFlags := 9, nameIndex := 109, descriptorIndex := 171, attributes := #[] }] 49 2 #[] #[])
  fields := #[]
  methods := #[k30m0, k30m1]
  instanceTypes := #[]
  staticTypes := #[]
  resolved := Array.replicate 184 none
  statics := none }

def pool31 : Array CpInfo := pool [(2, .class_ 4), (1, u "java/lang/Object"), (0, u "<init>"), (0, u "()V"), (17, .class_ 26), (1, u "jdk/internal/util/Preconditions"), (6, u "checkIndex"), (21, .class_ 56), (0, u "jdk/internal/util/Preconditions$4"), (57, .class_ 115), (0, u "jdk/internal/util/Preconditions$1"), (7, u "SIOOBE_FORMATTER"), (0, u "Ljava/util/function/BiFunction;"), (0, .class_ 126), (0, u "jdk/internal/util/Preconditions$2"), (3, u "AIOOBE_FORMATTER"), (0, .class_ 132), (0, u "jdk/internal/util/Preconditions$3"), (3, u "IOOBE_FORMATTER"), (41, u "(IILjava/util/function/BiFunction;)I")] 15

def k31m0 : Method := { name := "<init>", desc := "()V", sig := { parameters := [], returnType := none }, accessFlags := 1, code := none }
def k31c1 : Code := { maxStack := 3, maxLocals := 3, code := jdk_41_method_11_code, exceptionTable := #[], attributes := #[] }
def k31m1 : Method := { name := "checkIndex", desc := "(IILjava/util/function/BiFunction;)I", sig := { parameters := [.int, .int, (.object "java/util/function/BiFunction")], returnType := some .int }, accessFlags := 9, code := some k31c1 }
/-- jdk/internal/util/Preconditions -/
def k31 : Class := { plain "jdk/internal/util/Preconditions" (some 0) with
  accessFlags := 33
  interfaces := #[]
  cf := some (fileOf pool31 24 #[.nestMembers #[55, 131, 125, 114]] #[{ accessFlags := 1, nameIndex := 5, descriptorIndex := 6, attributes := #[] }, { accessFlags := 9, nameIndex := 33, descriptorIndex := 178, attributes := #[] }] 33 2 #[] #[{ accessFlags := 25, nameIndex := 123, descriptorIndex := 124, attributes := #[] }, { accessFlags := 25, nameIndex := 130, descriptorIndex := 124, attributes := #[] }, { accessFlags := 25, nameIndex := 136, descriptorIndex := 124, attributes := #[] }])
  fields := #[{ name := "SIOOBE_FORMATTER", type := (.object "java/util/function/BiFunction"), accessFlags := 25, slot := 0, constantValue := 0 }, { name := "AIOOBE_FORMATTER", type := (.object "java/util/function/BiFunction"), accessFlags := 25, slot := 1, constantValue := 0 }, { name := "IOOBE_FORMATTER", type := (.object "java/util/function/BiFunction"), accessFlags := 25, slot := 2, constantValue := 0 }]
  methods := #[k31m0, k31m1]
  instanceTypes := #[]
  staticTypes := #[(.object "java/util/function/BiFunction"), (.object "java/util/function/BiFunction"), (.object "java/util/function/BiFunction")]
  resolved := Array.replicate 194 none
  statics := some 2 }

/-- the primitive byte -/
def k32 : Class := { plain "byte" none with kind := .primitive 'B', accessFlags := 0x411 }
/-- [B -/
def k33 : Class := { plain "[B" (some 0) with kind := .array 32 .byte, interfaces := #[16, 2], accessFlags := 1041 }

/-- the primitive char -/
def k34 : Class := { plain "char" none with kind := .primitive 'C', accessFlags := 0x411 }
/-- [C -/
def k35 : Class := { plain "[C" (some 0) with kind := .array 34 .char, interfaces := #[16, 2], accessFlags := 1041 }

/-- the primitive int -/
def k36 : Class := { plain "int" none with kind := .primitive 'I', accessFlags := 0x411 }
/-- [I -/
def k37 : Class := { plain "[I" (some 0) with kind := .array 36 .int, interfaces := #[16, 2], accessFlags := 1041 }

/-- [Ljava/lang/Object; -/
def k38 : Class := { plain "[Ljava/lang/Object;" (some 0) with kind := .array 0 (.object "java/lang/Object"), interfaces := #[16, 2], accessFlags := 1041 }

def heap : Heap := #[{ cls := 7, slots := #[.long 0, .int 1, .null, .int 0, .null, .int 0, .int 0], vm := .statics 7 },
  { cls := 17, slots := #[.long 0, .int 0, .ref 3, .ref 4], vm := .statics 17 },
  { cls := 31, slots := #[.null, .null, .null], vm := .statics 31 },
  { cls := 38, slots := #[], vm := .none },
  { cls := 38, slots := #[], vm := .none }]
def classes : Array Class := #[k0, k1, k2, k3, k4, k5, k6, k7, k8, k9, k10, k11, k12, k13, k14, k15, k16, k17, k18, k19, k20, k21, k22, k23, k24, k25, k26, k27, k28, k29, k30, k31, k32, k33, k34, k35, k36, k37, k38]
def interned : List (Array UInt16 × Addr) := []
def slotsUsed : Nat := 14
def theMethod : MethodId := ⟨1, 2⟩
def args0 : Array Value := #[.int 5, .int 5, .int 5, .int 5]
def aboutOver (below : List Frame) : State where
  vm := { classes := classes, interned := interned.toArray }
  heap := heap
  slotsUsed := slotsUsed
  threads := #[{ frames := .invoking theMethod args0 :: below }]
def below0 : List Frame := [.native { method := ⟨0, 0⟩, args := #[] }]
def about1 : State := aboutOver below0
def p0 : Program := .bare "" "" ""
def e0 : Env := launch0.env 0 0 0
theorem w_frames : about1.frames = Frame.invoking theMethod args0 :: below0 := rfl
set_option maxRecDepth 65536 in
theorem w_args : argsFit about1.vm theMethod args0 = true := by decide +kernel
set_option maxRecDepth 65536 in
theorem w_heap : heapFits about1 = true := by decide +kernel
set_option maxRecDepth 65536 in
theorem w_runnable : about1.curStatus? = some .runnable := by decide +kernel
set_option maxRecDepth 65536 in
theorem w_alone : about1.alone = true := by decide +kernel
set_option maxRecDepth 65536 in
theorem w_named : about1.methodNamed? x = some theMethod := by decide +kernel
set_option maxRecDepth 65536 in
theorem w_hears : about1.hears theMethod below0 = true := by decide +kernel
set_option maxRecDepth 65536 in
theorem w_ripe : about1.ripe theMethod args0 below0 = true := by decide +kernel
theorem w_running : about1.status = .running := rfl
set_option maxRecDepth 65536 in
theorem w_room : about1.hasRoom e0.platform room_1 = true :=
  launch0.hasRoom_least _ room_1 (by decide +kernel) (by decide +kernel) (by decide +kernel) (by decide +kernel) (by decide +kernel) (by decide +kernel)
theorem allAtoms_all (ts : List Jvm.Cond) (a : Array Jvm.Value) (st : Jvm.State) : (allAtoms ts).before a st = ts.all (fun c => c.before a st) := by
  induction ts with
  | nil => rfl
  | cons c t ih =>
    show (Jvm.Cond.and c (allAtoms t)).before a st = _
    rw [Jvm.Cond.before_and, ih, List.all_cons]
def words1 : List Jvm.Cond := Jvm.Cond.code x code maxLocals ret :: tables_1
/-- a 'code' word, met by the world's own term for the bytes: nothing is compared byte by byte -/
theorem code_word {y : MethodName} {bytes : ByteArray} {mx : Nat} {rt : Option FieldType} {a : Array Value} {s : State} {m : MethodId} {meth : Method} {c : Code} (h1 : s.methodNamed? y = some m) (h2 : s.vm.method? m = some meth) (h3 : meth.code = some c) (h4 : c.code = bytes)
    (h5 : (c.maxLocals == mx && c.exceptionTable.isEmpty && decide (c.maxStack ≤ mostOperands) && decide (meth.sig.returnType = rt) && !meth.locks && decide (parseMethodDescriptor y.desc = some meth.sig)) = true) : (Jvm.Cond.code y bytes mx rt).before a s = true := by
  simp only [Bool.and_eq_true, beq_iff_eq, Bool.not_eq_true', decide_eq_true_eq] at h5
  obtain ⟨⟨⟨⟨⟨g1, g2⟩, g3⟩, g4⟩, g5⟩, g6⟩ := h5
  simp [Cond.before, Cond.holds, Cond.value, h1, h2, h3, h4, g1, g2, g3, g4, g5, g6]
def isCode : Jvm.Cond → Bool
  | .code _ _ _ _ => true
  | _ => false
theorem all_split {L : List Jvm.Cond} {P : Jvm.Cond → Bool} (h1 : L.all (fun c => isCode c || P c) = true) (h2 : ∀ c ∈ L.filter isCode, P c = true) : L.all P = true := by
  refine List.all_eq_true.mpr fun c hc => ?_
  have h := List.all_eq_true.mp h1 c hc
  rcases Bool.eq_false_or_eq_true (isCode c) with hi | hi
  · exact h2 c (List.mem_filter.mpr ⟨hc, hi⟩)
  · simpa [hi] using h
set_option maxRecDepth 65536 in
theorem w_c0 : (Jvm.Cond.code x code maxLocals ret).before args0 about1 = true := code_word (m := ⟨1, 2⟩) (meth := k1m2) (c := k1c2) (by decide +kernel) rfl rfl rfl (by decide +kernel)
set_option maxRecDepth 65536 in
theorem w_c1 : (Jvm.Cond.code ({ cls := "java/lang/String", name := "valueOf", desc := "(C)Ljava/lang/String;" } : Jvm.MethodName) jdk_42_method_139_code (1 : Nat) (Option.some (Jvm.ClassFile.FieldType.object "java/lang/String"))).before args0 about1 = true := code_word (m := ⟨7, 5⟩) (meth := k7m5) (c := k7c5) (by decide +kernel) rfl rfl rfl (by decide +kernel)
set_option maxRecDepth 65536 in
theorem w_c2 : (Jvm.Cond.code ({ cls := "java/lang/StringLatin1", name := "canEncode", desc := "(C)Z" } : Jvm.MethodName) jdk_43_method_3_code (1 : Nat) (Option.some Jvm.ClassFile.FieldType.boolean)).before args0 about1 = true := code_word (m := ⟨8, 1⟩) (meth := k8m1) (c := k8c1) (by decide +kernel) rfl rfl rfl (by decide +kernel)
set_option maxRecDepth 65536 in
theorem w_c3 : (Jvm.Cond.code ({ cls := "java/lang/StringLatin1", name := "toBytes", desc := "(C)[B" } : Jvm.MethodName) jdk_43_method_46_code (1 : Nat) (Option.some (Jvm.ClassFile.FieldType.array Jvm.ClassFile.FieldType.byte))).before args0 about1 = true := code_word (m := ⟨8, 3⟩) (meth := k8m3) (c := k8c3) (by decide +kernel) rfl rfl rfl (by decide +kernel)
set_option maxRecDepth 65536 in
theorem w_c4 : (Jvm.Cond.code ({ cls := "java/lang/String", name := "<init>", desc := "([BB)V" } : Jvm.MethodName) jdk_42_method_151_code (3 : Nat) (Option.none : Option Jvm.ClassFile.FieldType)).before args0 about1 = true := code_word (m := ⟨7, 9⟩) (meth := k7m9) (c := k7c9) (by decide +kernel) rfl rfl rfl (by decide +kernel)
set_option maxRecDepth 65536 in
theorem w_c5 : (Jvm.Cond.code ({ cls := "java/lang/Object", name := "<init>", desc := "()V" } : Jvm.MethodName) object_method_1_code (1 : Nat) (Option.none : Option Jvm.ClassFile.FieldType)).before args0 about1 = true := code_word (m := ⟨0, 0⟩) (meth := k0m0) (c := k0c0) (by decide +kernel) rfl rfl rfl (by decide +kernel)
set_option maxRecDepth 65536 in
theorem w_c6 : (Jvm.Cond.code ({ cls := "java/util/ArrayList", name := "<init>", desc := "()V" } : Jvm.MethodName) jdk_38_method_2_code (1 : Nat) (Option.none : Option Jvm.ClassFile.FieldType)).before args0 about1 = true := code_word (m := ⟨17, 0⟩) (meth := k17m0) (c := k17c0) (by decide +kernel) rfl rfl rfl (by decide +kernel)
set_option maxRecDepth 65536 in
theorem w_c7 : (Jvm.Cond.code ({ cls := "java/util/AbstractList", name := "<init>", desc := "()V" } : Jvm.MethodName) jdk_39_method_1_code (1 : Nat) (Option.none : Option Jvm.ClassFile.FieldType)).before args0 about1 = true := code_word (m := ⟨14, 0⟩) (meth := k14m0) (c := k14c0) (by decide +kernel) rfl rfl rfl (by decide +kernel)
set_option maxRecDepth 65536 in
theorem w_c8 : (Jvm.Cond.code ({ cls := "java/util/AbstractCollection", name := "<init>", desc := "()V" } : Jvm.MethodName) jdk_22_method_1_code (1 : Nat) (Option.none : Option Jvm.ClassFile.FieldType)).before args0 about1 = true := code_word (m := ⟨11, 0⟩) (meth := k11m0) (c := k11c0) (by decide +kernel) rfl rfl rfl (by decide +kernel)
set_option maxRecDepth 65536 in
theorem w_c9 : (Jvm.Cond.code ({ cls := "com/example/tiebreak/tiebreak/core/ChainReport", name := "duplicateLines", desc := "(Ljava/lang/String;Ljava/util/List;)Ljava/util/List;" } : Jvm.MethodName) prog_2_method_4_code (6 : Nat) (Option.some (Jvm.ClassFile.FieldType.object "java/util/List"))).before args0 about1 = true := code_word (m := ⟨18, 1⟩) (meth := k18m1) (c := k18c1) (by decide +kernel) rfl rfl rfl (by decide +kernel)
set_option maxRecDepth 65536 in
theorem w_c10 : (Jvm.Cond.code ({ cls := "com/example/tiebreak/tiebreak/core/ChainReport", name := "prefix", desc := "(Ljava/lang/String;)Ljava/lang/String;" } : Jvm.MethodName) prog_2_method_7_code (1 : Nat) (Option.some (Jvm.ClassFile.FieldType.object "java/lang/String"))).before args0 about1 = true := code_word (m := ⟨18, 2⟩) (meth := k18m2) (c := k18c2) (by decide +kernel) rfl rfl rfl (by decide +kernel)
set_option maxRecDepth 65536 in
theorem w_c11 : (Jvm.Cond.code ({ cls := "java/lang/StringBuilder", name := "<init>", desc := "()V" } : Jvm.MethodName) jdk_67_method_1_code (1 : Nat) (Option.none : Option Jvm.ClassFile.FieldType)).before args0 about1 = true := code_word (m := ⟨21, 0⟩) (meth := k21m0) (c := k21c0) (by decide +kernel) rfl rfl rfl (by decide +kernel)
set_option maxRecDepth 65536 in
theorem w_c12 : (Jvm.Cond.code ({ cls := "java/lang/AbstractStringBuilder", name := "<init>", desc := "(I)V" } : Jvm.MethodName) jdk_68_method_2_code (2 : Nat) (Option.none : Option Jvm.ClassFile.FieldType)).before args0 about1 = true := code_word (m := ⟨20, 1⟩) (meth := k20m1) (c := k20c1) (by decide +kernel) rfl rfl rfl (by decide +kernel)
set_option maxRecDepth 65536 in
theorem w_c13 : (Jvm.Cond.code ({ cls := "java/lang/StringBuilder", name := "append", desc := "(Ljava/lang/String;)Ljava/lang/StringBuilder;" } : Jvm.MethodName) jdk_67_method_7_code (2 : Nat) (Option.some (Jvm.ClassFile.FieldType.object "java/lang/StringBuilder"))).before args0 about1 = true := code_word (m := ⟨21, 1⟩) (meth := k21m1) (c := k21c1) (by decide +kernel) rfl rfl rfl (by decide +kernel)
set_option maxRecDepth 65536 in
theorem w_c14 : (Jvm.Cond.code ({ cls := "java/lang/AbstractStringBuilder", name := "append", desc := "(Ljava/lang/String;)Ljava/lang/AbstractStringBuilder;" } : Jvm.MethodName) jdk_68_method_22_code (3 : Nat) (Option.some (Jvm.ClassFile.FieldType.object "java/lang/AbstractStringBuilder"))).before args0 about1 = true := code_word (m := ⟨20, 5⟩) (meth := k20m5) (c := k20c5) (by decide +kernel) rfl rfl rfl (by decide +kernel)
set_option maxRecDepth 65536 in
theorem w_c15 : (Jvm.Cond.code ({ cls := "java/lang/String", name := "length", desc := "()I" } : Jvm.MethodName) jdk_42_method_54_code (1 : Nat) (Option.some Jvm.ClassFile.FieldType.int)).before args0 about1 = true := code_word (m := ⟨7, 3⟩) (meth := k7m3) (c := k7c3) (by decide +kernel) rfl rfl rfl (by decide +kernel)
set_option maxRecDepth 65536 in
theorem w_c16 : (Jvm.Cond.code ({ cls := "java/lang/String", name := "coder", desc := "()B" } : Jvm.MethodName) jdk_42_method_152_code (1 : Nat) (Option.some Jvm.ClassFile.FieldType.byte)).before args0 about1 = true := code_word (m := ⟨7, 10⟩) (meth := k7m10) (c := k7c10) (by decide +kernel) rfl rfl rfl (by decide +kernel)
set_option maxRecDepth 65536 in
theorem w_c17 : (Jvm.Cond.code ({ cls := "java/lang/AbstractStringBuilder", name := "ensureCapacityInternal", desc := "(I)V" } : Jvm.MethodName) jdk_68_method_9_code (3 : Nat) (Option.none : Option Jvm.ClassFile.FieldType)).before args0 about1 = true := code_word (m := ⟨20, 3⟩) (meth := k20m3) (c := k20c3) (by decide +kernel) rfl rfl rfl (by decide +kernel)
set_option maxRecDepth 65536 in
theorem w_c18 : (Jvm.Cond.code ({ cls := "java/lang/AbstractStringBuilder", name := "putStringAt", desc := "(ILjava/lang/String;)V" } : Jvm.MethodName) jdk_68_method_73_code (3 : Nat) (Option.none : Option Jvm.ClassFile.FieldType)).before args0 about1 = true := code_word (m := ⟨20, 9⟩) (meth := k20m9) (c := k20c9) (by decide +kernel) rfl rfl rfl (by decide +kernel)
set_option maxRecDepth 65536 in
theorem w_c19 : (Jvm.Cond.code ({ cls := "java/lang/AbstractStringBuilder", name := "inflateIfNeededFor", desc := "(Ljava/lang/String;)V" } : Jvm.MethodName) jdk_68_method_71_code (2 : Nat) (Option.none : Option Jvm.ClassFile.FieldType)).before args0 about1 = true := code_word (m := ⟨20, 8⟩) (meth := k20m8) (c := k20c8) (by decide +kernel) rfl rfl rfl (by decide +kernel)
set_option maxRecDepth 65536 in
theorem w_c20 : (Jvm.Cond.code ({ cls := "java/lang/String", name := "getBytes", desc := "([BIB)V" } : Jvm.MethodName) jdk_42_method_147_code (4 : Nat) (Option.none : Option Jvm.ClassFile.FieldType)).before args0 about1 = true := code_word (m := ⟨7, 6⟩) (meth := k7m6) (c := k7c6) (by decide +kernel) rfl rfl rfl (by decide +kernel)
set_option maxRecDepth 65536 in
theorem w_c21 : (Jvm.Cond.code ({ cls := "java/lang/StringBuilder", name := "toString", desc := "()Ljava/lang/String;" } : Jvm.MethodName) jdk_67_method_42_code (1 : Nat) (Option.some (Jvm.ClassFile.FieldType.object "java/lang/String"))).before args0 about1 = true := code_word (m := ⟨21, 2⟩) (meth := k21m2) (c := k21c2) (by decide +kernel) rfl rfl rfl (by decide +kernel)
set_option maxRecDepth 65536 in
theorem w_c22 : (Jvm.Cond.code ({ cls := "java/lang/String", name := "<init>", desc := "(Ljava/lang/StringBuilder;)V" } : Jvm.MethodName) jdk_42_method_53_code (2 : Nat) (Option.none : Option Jvm.ClassFile.FieldType)).before args0 about1 = true := code_word (m := ⟨7, 2⟩) (meth := k7m2) (c := k7c2) (by decide +kernel) rfl rfl rfl (by decide +kernel)
set_option maxRecDepth 65536 in
theorem w_c23 : (Jvm.Cond.code ({ cls := "java/lang/String", name := "<init>", desc := "(Ljava/lang/AbstractStringBuilder;Ljava/lang/Void;)V" } : Jvm.MethodName) jdk_42_method_150_code (5 : Nat) (Option.none : Option Jvm.ClassFile.FieldType)).before args0 about1 = true := code_word (m := ⟨7, 8⟩) (meth := k7m8) (c := k7c8) (by decide +kernel) rfl rfl rfl (by decide +kernel)
set_option maxRecDepth 65536 in
theorem w_c24 : (Jvm.Cond.code ({ cls := "java/lang/AbstractStringBuilder", name := "getValue", desc := "()[B" } : Jvm.MethodName) jdk_68_method_64_code (1 : Nat) (Option.some (Jvm.ClassFile.FieldType.array Jvm.ClassFile.FieldType.byte))).before args0 about1 = true := code_word (m := ⟨20, 6⟩) (meth := k20m6) (c := k20c6) (by decide +kernel) rfl rfl rfl (by decide +kernel)
set_option maxRecDepth 65536 in
theorem w_c25 : (Jvm.Cond.code ({ cls := "java/lang/StringBuilder", name := "length", desc := "()I" } : Jvm.MethodName) jdk_67_method_93_code (1 : Nat) (Option.some Jvm.ClassFile.FieldType.int)).before args0 about1 = true := code_word (m := ⟨21, 3⟩) (meth := k21m3) (c := k21c3) (by decide +kernel) rfl rfl rfl (by decide +kernel)
set_option maxRecDepth 65536 in
theorem w_c26 : (Jvm.Cond.code ({ cls := "java/lang/AbstractStringBuilder", name := "length", desc := "()I" } : Jvm.MethodName) jdk_68_method_6_code (1 : Nat) (Option.some Jvm.ClassFile.FieldType.int)).before args0 about1 = true := code_word (m := ⟨20, 2⟩) (meth := k20m2) (c := k20c2) (by decide +kernel) rfl rfl rfl (by decide +kernel)
set_option maxRecDepth 65536 in
theorem w_c27 : (Jvm.Cond.code ({ cls := "java/lang/AbstractStringBuilder", name := "isLatin1", desc := "()Z" } : Jvm.MethodName) jdk_68_method_68_code (1 : Nat) (Option.some Jvm.ClassFile.FieldType.boolean)).before args0 about1 = true := code_word (m := ⟨20, 7⟩) (meth := k20m7) (c := k20c7) (by decide +kernel) rfl rfl rfl (by decide +kernel)
set_option maxRecDepth 65536 in
theorem w_c28 : (Jvm.Cond.code ({ cls := "java/util/Arrays", name := "copyOfRange", desc := "([BII)[B" } : Jvm.MethodName) jdk_65_method_132_code (3 : Nat) (Option.some (Jvm.ClassFile.FieldType.array Jvm.ClassFile.FieldType.byte))).before args0 about1 = true := code_word (m := ⟨23, 3⟩) (meth := k23m3) (c := k23c3) (by decide +kernel) rfl rfl rfl (by decide +kernel)
set_option maxRecDepth 65536 in
theorem w_c29 : (Jvm.Cond.code ({ cls := "java/util/Arrays", name := "copyOfRangeByte", desc := "([BII)[B" } : Jvm.MethodName) jdk_65_method_133_code (5 : Nat) (Option.some (Jvm.ClassFile.FieldType.array Jvm.ClassFile.FieldType.byte))).before args0 about1 = true := code_word (m := ⟨23, 4⟩) (meth := k23m4) (c := k23c4) (by decide +kernel) rfl rfl rfl (by decide +kernel)
set_option maxRecDepth 65536 in
theorem w_c30 : (Jvm.Cond.code ({ cls := "java/util/Arrays", name := "checkLength", desc := "(II)V" } : Jvm.MethodName) jdk_65_method_131_code (2 : Nat) (Option.none : Option Jvm.ClassFile.FieldType)).before args0 about1 = true := code_word (m := ⟨23, 2⟩) (meth := k23m2) (c := k23c2) (by decide +kernel) rfl rfl rfl (by decide +kernel)
set_option maxRecDepth 65536 in
theorem w_c31 : (Jvm.Cond.code ({ cls := "java/lang/Math", name := "min", desc := "(II)I" } : Jvm.MethodName) jdk_29_method_69_code (2 : Nat) (Option.some Jvm.ClassFile.FieldType.int)).before args0 about1 = true := code_word (m := ⟨24, 2⟩) (meth := k24m2) (c := k24c2) (by decide +kernel) rfl rfl rfl (by decide +kernel)
set_option maxRecDepth 65536 in
theorem w_c32 : (Jvm.Cond.code ({ cls := "java/util/ArrayList", name := "iterator", desc := "()Ljava/util/Iterator;" } : Jvm.MethodName) jdk_38_method_55_code (1 : Nat) (Option.some (Jvm.ClassFile.FieldType.object "java/util/Iterator"))).before args0 about1 = true := code_word (m := ⟨17, 8⟩) (meth := k17m8) (c := k17c8) (by decide +kernel) rfl rfl rfl (by decide +kernel)
set_option maxRecDepth 65536 in
theorem w_c33 : (Jvm.Cond.code ({ cls := "java/util/ArrayList$Itr", name := "<init>", desc := "(Ljava/util/ArrayList;)V" } : Jvm.MethodName) jdk_49_method_1_code (2 : Nat) (Option.none : Option Jvm.ClassFile.FieldType)).before args0 about1 = true := code_word (m := ⟨26, 0⟩) (meth := k26m0) (c := k26c0) (by decide +kernel) rfl rfl rfl (by decide +kernel)
set_option maxRecDepth 65536 in
theorem w_c34 : (Jvm.Cond.code ({ cls := "java/util/ArrayList$Itr", name := "hasNext", desc := "()Z" } : Jvm.MethodName) jdk_49_method_2_code (1 : Nat) (Option.some Jvm.ClassFile.FieldType.boolean)).before args0 about1 = true := code_word (m := ⟨26, 1⟩) (meth := k26m1) (c := k26c1) (by decide +kernel) rfl rfl rfl (by decide +kernel)
set_option maxRecDepth 65536 in
theorem w_c35 : (Jvm.Cond.code ({ cls := "java/util/ArrayList", name := "size", desc := "()I" } : Jvm.MethodName) jdk_38_method_8_code (1 : Nat) (Option.some Jvm.ClassFile.FieldType.int)).before args0 about1 = true := code_word (m := ⟨17, 3⟩) (meth := k17m3) (c := k17c3) (by decide +kernel) rfl rfl rfl (by decide +kernel)
set_option maxRecDepth 65536 in
theorem w_c36 : (Jvm.Cond.code ({ cls := "com/example/tiebreak/tiebreak/core/DuplicateRegistration", name := "<init>", desc := "(Ljava/lang/String;Ljava/lang/String;Ljava/lang/String;)V" } : Jvm.MethodName) prog_4_method_1_code (4 : Nat) (Option.none : Option Jvm.ClassFile.FieldType)).before args0 about1 = true := code_word (m := ⟨27, 0⟩) (meth := k27m0) (c := k27c0) (by decide +kernel) rfl rfl rfl (by decide +kernel)
set_option maxRecDepth 65536 in
theorem w_c37 : (Jvm.Cond.code ({ cls := "java/util/ArrayList", name := "add", desc := "(Ljava/lang/Object;)Z" } : Jvm.MethodName) jdk_38_method_25_code (2 : Nat) (Option.some Jvm.ClassFile.FieldType.boolean)).before args0 about1 = true := code_word (m := ⟨17, 7⟩) (meth := k17m7) (c := k17c7) (by decide +kernel) rfl rfl rfl (by decide +kernel)
set_option maxRecDepth 65536 in
theorem w_c38 : (Jvm.Cond.code ({ cls := "java/util/ArrayList", name := "add", desc := "(Ljava/lang/Object;[Ljava/lang/Object;I)V" } : Jvm.MethodName) jdk_38_method_24_code (4 : Nat) (Option.none : Option Jvm.ClassFile.FieldType)).before args0 about1 = true := code_word (m := ⟨17, 6⟩) (meth := k17m6) (c := k17c6) (by decide +kernel) rfl rfl rfl (by decide +kernel)
set_option maxRecDepth 65536 in
theorem w_c39 : (Jvm.Cond.code ({ cls := "java/util/ArrayList", name := "grow", desc := "()[Ljava/lang/Object;" } : Jvm.MethodName) jdk_38_method_7_code (1 : Nat) (Option.some (Jvm.ClassFile.FieldType.array (Jvm.ClassFile.FieldType.object "java/lang/Object")))).before args0 about1 = true := code_word (m := ⟨17, 2⟩) (meth := k17m2) (c := k17c2) (by decide +kernel) rfl rfl rfl (by decide +kernel)
set_option maxRecDepth 65536 in
theorem w_c40 : (Jvm.Cond.code ({ cls := "java/util/ArrayList", name := "grow", desc := "(I)[Ljava/lang/Object;" } : Jvm.MethodName) jdk_38_method_6_code (4 : Nat) (Option.some (Jvm.ClassFile.FieldType.array (Jvm.ClassFile.FieldType.object "java/lang/Object")))).before args0 about1 = true := code_word (m := ⟨17, 1⟩) (meth := k17m1) (c := k17c1) (by decide +kernel) rfl rfl rfl (by decide +kernel)
set_option maxRecDepth 65536 in
theorem w_c41 : (Jvm.Cond.code ({ cls := "java/lang/Math", name := "max", desc := "(II)I" } : Jvm.MethodName) jdk_29_method_65_code (2 : Nat) (Option.some Jvm.ClassFile.FieldType.int)).before args0 about1 = true := code_word (m := ⟨24, 1⟩) (meth := k24m1) (c := k24c1) (by decide +kernel) rfl rfl rfl (by decide +kernel)
set_option maxRecDepth 65536 in
theorem w_c42 : (Jvm.Cond.code ({ cls := "java/util/ArrayList$Itr", name := "next", desc := "()Ljava/lang/Object;" } : Jvm.MethodName) jdk_49_method_3_code (3 : Nat) (Option.some (Jvm.ClassFile.FieldType.object "java/lang/Object"))).before args0 about1 = true := code_word (m := ⟨26, 2⟩) (meth := k26m2) (c := k26c2) (by decide +kernel) rfl rfl rfl (by decide +kernel)
set_option maxRecDepth 65536 in
theorem w_c43 : (Jvm.Cond.code ({ cls := "java/util/ArrayList$Itr", name := "checkForComodification", desc := "()V" } : Jvm.MethodName) jdk_49_method_6_code (1 : Nat) (Option.none : Option Jvm.ClassFile.FieldType)).before args0 about1 = true := code_word (m := ⟨26, 3⟩) (meth := k26m3) (c := k26c3) (by decide +kernel) rfl rfl rfl (by decide +kernel)
set_option maxRecDepth 65536 in
theorem w_c44 : (Jvm.Cond.code ({ cls := "java/lang/AbstractStringBuilder", name := "newCapacity", desc := "(I)I" } : Jvm.MethodName) jdk_68_method_10_code (6 : Nat) (Option.some Jvm.ClassFile.FieldType.int)).before args0 about1 = true := code_word (m := ⟨20, 4⟩) (meth := k20m4) (c := k20c4) (by decide +kernel) rfl rfl rfl (by decide +kernel)
set_option maxRecDepth 65536 in
theorem w_c45 : (Jvm.Cond.code ({ cls := "jdk/internal/util/ArraysSupport", name := "newLength", desc := "(III)I" } : Jvm.MethodName) jdk_48_method_27_code (4 : Nat) (Option.some Jvm.ClassFile.FieldType.int)).before args0 about1 = true := code_word (m := ⟨28, 1⟩) (meth := k28m1) (c := k28c1) (by decide +kernel) rfl rfl rfl (by decide +kernel)
set_option maxRecDepth 65536 in
theorem w_c46 : (Jvm.Cond.code ({ cls := "java/util/Arrays", name := "copyOf", desc := "([BI)[B" } : Jvm.MethodName) jdk_65_method_121_code (3 : Nat) (Option.some (Jvm.ClassFile.FieldType.array Jvm.ClassFile.FieldType.byte))).before args0 about1 = true := code_word (m := ⟨23, 1⟩) (meth := k23m1) (c := k23c1) (by decide +kernel) rfl rfl rfl (by decide +kernel)
set_option maxRecDepth 65536 in
theorem w_c47 : (Jvm.Cond.code ({ cls := "com/example/tiebreak/tiebreak/core/DuplicateRegistration", name := "filterClass", desc := "()Ljava/lang/String;" } : Jvm.MethodName) prog_4_method_2_code (1 : Nat) (Option.some (Jvm.ClassFile.FieldType.object "java/lang/String"))).before args0 about1 = true := code_word (m := ⟨27, 1⟩) (meth := k27m1) (c := k27c1) (by decide +kernel) rfl rfl rfl (by decide +kernel)
set_option maxRecDepth 65536 in
theorem w_c48 : (Jvm.Cond.code ({ cls := "com/example/tiebreak/tiebreak/core/DuplicateRegistration", name := "kept", desc := "()Ljava/lang/String;" } : Jvm.MethodName) prog_4_method_3_code (1 : Nat) (Option.some (Jvm.ClassFile.FieldType.object "java/lang/String"))).before args0 about1 = true := code_word (m := ⟨27, 2⟩) (meth := k27m2) (c := k27c2) (by decide +kernel) rfl rfl rfl (by decide +kernel)
set_option maxRecDepth 65536 in
theorem w_c49 : (Jvm.Cond.code ({ cls := "com/example/tiebreak/tiebreak/core/DuplicateRegistration", name := "dropped", desc := "()Ljava/lang/String;" } : Jvm.MethodName) prog_4_method_4_code (1 : Nat) (Option.some (Jvm.ClassFile.FieldType.object "java/lang/String"))).before args0 about1 = true := code_word (m := ⟨27, 3⟩) (meth := k27m3) (c := k27c3) (by decide +kernel) rfl rfl rfl (by decide +kernel)
set_option maxRecDepth 65536 in
theorem w_c50 : (Jvm.Cond.code ({ cls := "com/example/tiebreak/tiebreak/core/ChainReportDuplicateLinesPinLaw", name := "expected", desc := "(CCCC)Ljava/lang/String;" } : Jvm.MethodName) method_2_code (5 : Nat) (Option.some (Jvm.ClassFile.FieldType.object "java/lang/String"))).before args0 about1 = true := code_word (m := ⟨1, 1⟩) (meth := k1m1) (c := k1c1) (by decide +kernel) rfl rfl rfl (by decide +kernel)
set_option maxRecDepth 65536 in
theorem w_c51 : (Jvm.Cond.code ({ cls := "java/lang/String", name := "<init>", desc := "([C)V" } : Jvm.MethodName) jdk_42_method_3_code (2 : Nat) (Option.none : Option Jvm.ClassFile.FieldType)).before args0 about1 = true := code_word (m := ⟨7, 1⟩) (meth := k7m1) (c := k7c1) (by decide +kernel) rfl rfl rfl (by decide +kernel)
set_option maxRecDepth 65536 in
theorem w_c52 : (Jvm.Cond.code ({ cls := "java/lang/String", name := "<init>", desc := "([CIILjava/lang/Void;)V" } : Jvm.MethodName) jdk_42_method_149_code (6 : Nat) (Option.none : Option Jvm.ClassFile.FieldType)).before args0 about1 = true := code_word (m := ⟨7, 7⟩) (meth := k7m7) (c := k7c7) (by decide +kernel) rfl rfl rfl (by decide +kernel)
set_option maxRecDepth 65536 in
theorem w_c53 : (Jvm.Cond.code ({ cls := "java/lang/StringUTF16", name := "compress", desc := "([CII)[B" } : Jvm.MethodName) jdk_52_method_16_code (6 : Nat) (Option.some (Jvm.ClassFile.FieldType.array Jvm.ClassFile.FieldType.byte))).before args0 about1 = true := code_word (m := ⟨29, 2⟩) (meth := k29m2) (c := k29c2) (by decide +kernel) rfl rfl rfl (by decide +kernel)
set_option maxRecDepth 65536 in
theorem w_c54 : (Jvm.Cond.code ({ cls := "java/lang/StringUTF16", name := "compress", desc := "([CI[BII)I" } : Jvm.MethodName) jdk_52_method_21_code (7 : Nat) (Option.some Jvm.ClassFile.FieldType.int)).before args0 about1 = true := code_word (m := ⟨29, 3⟩) (meth := k29m3) (c := k29c3) (by decide +kernel) rfl rfl rfl (by decide +kernel)
set_option maxRecDepth 65536 in
theorem w_c55 : (Jvm.Cond.code ({ cls := "java/lang/StringUTF16", name := "coderFromArrayLen", desc := "([BI)B" } : Jvm.MethodName) jdk_52_method_15_code (2 : Nat) (Option.some Jvm.ClassFile.FieldType.byte)).before args0 about1 = true := code_word (m := ⟨29, 1⟩) (meth := k29m1) (c := k29c1) (by decide +kernel) rfl rfl rfl (by decide +kernel)
set_option maxRecDepth 65536 in
theorem w_c56 : (Jvm.Cond.code ({ cls := "java/util/ArrayList", name := "get", desc := "(I)Ljava/lang/Object;" } : Jvm.MethodName) jdk_38_method_20_code (2 : Nat) (Option.some (Jvm.ClassFile.FieldType.object "java/lang/Object"))).before args0 about1 = true := code_word (m := ⟨17, 5⟩) (meth := k17m5) (c := k17c5) (by decide +kernel) rfl rfl rfl (by decide +kernel)
set_option maxRecDepth 65536 in
theorem w_c57 : (Jvm.Cond.code ({ cls := "java/util/Objects", name := "checkIndex", desc := "(II)I" } : Jvm.MethodName) jdk_31_method_17_code (2 : Nat) (Option.some Jvm.ClassFile.FieldType.int)).before args0 about1 = true := code_word (m := ⟨30, 1⟩) (meth := k30m1) (c := k30c1) (by decide +kernel) rfl rfl rfl (by decide +kernel)
set_option maxRecDepth 65536 in
theorem w_c58 : (Jvm.Cond.code ({ cls := "jdk/internal/util/Preconditions", name := "checkIndex", desc := "(IILjava/util/function/BiFunction;)I" } : Jvm.MethodName) jdk_41_method_11_code (3 : Nat) (Option.some Jvm.ClassFile.FieldType.int)).before args0 about1 = true := code_word (m := ⟨31, 1⟩) (meth := k31m1) (c := k31c1) (by decide +kernel) rfl rfl rfl (by decide +kernel)
set_option maxRecDepth 65536 in
theorem w_c59 : (Jvm.Cond.code ({ cls := "java/util/ArrayList", name := "elementData", desc := "(I)Ljava/lang/Object;" } : Jvm.MethodName) jdk_38_method_18_code (2 : Nat) (Option.some (Jvm.ClassFile.FieldType.object "java/lang/Object"))).before args0 about1 = true := code_word (m := ⟨17, 4⟩) (meth := k17m4) (c := k17c4) (by decide +kernel) rfl rfl rfl (by decide +kernel)
set_option maxRecDepth 65536 in
theorem w_c60 : (Jvm.Cond.code ({ cls := "java/lang/String", name := "equals", desc := "(Ljava/lang/Object;)Z" } : Jvm.MethodName) jdk_42_method_66_code (3 : Nat) (Option.some Jvm.ClassFile.FieldType.boolean)).before args0 about1 = true := code_word (m := ⟨7, 4⟩) (meth := k7m4) (c := k7c4) (by decide +kernel) rfl rfl rfl (by decide +kernel)
set_option maxRecDepth 65536 in
theorem w_c61 : (Jvm.Cond.code ({ cls := "java/lang/StringLatin1", name := "equals", desc := "([B[B)Z" } : Jvm.MethodName) jdk_43_method_13_code (3 : Nat) (Option.some Jvm.ClassFile.FieldType.boolean)).before args0 about1 = true := code_word (m := ⟨8, 2⟩) (meth := k8m2) (c := k8c2) (by decide +kernel) rfl rfl rfl (by decide +kernel)
def codes1 : List Jvm.Cond := [Jvm.Cond.code x code maxLocals ret, Jvm.Cond.code ({ cls := "java/lang/String", name := "valueOf", desc := "(C)Ljava/lang/String;" } : Jvm.MethodName) jdk_42_method_139_code (1 : Nat) (Option.some (Jvm.ClassFile.FieldType.object "java/lang/String")), Jvm.Cond.code ({ cls := "java/lang/StringLatin1", name := "canEncode", desc := "(C)Z" } : Jvm.MethodName) jdk_43_method_3_code (1 : Nat) (Option.some Jvm.ClassFile.FieldType.boolean), Jvm.Cond.code ({ cls := "java/lang/StringLatin1", name := "toBytes", desc := "(C)[B" } : Jvm.MethodName) jdk_43_method_46_code (1 : Nat) (Option.some (Jvm.ClassFile.FieldType.array Jvm.ClassFile.FieldType.byte)), Jvm.Cond.code ({ cls := "java/lang/String", name := "<init>", desc := "([BB)V" } : Jvm.MethodName) jdk_42_method_151_code (3 : Nat) (Option.none : Option Jvm.ClassFile.FieldType), Jvm.Cond.code ({ cls := "java/lang/Object", name := "<init>", desc := "()V" } : Jvm.MethodName) object_method_1_code (1 : Nat) (Option.none : Option Jvm.ClassFile.FieldType), Jvm.Cond.code ({ cls := "java/util/ArrayList", name := "<init>", desc := "()V" } : Jvm.MethodName) jdk_38_method_2_code (1 : Nat) (Option.none : Option Jvm.ClassFile.FieldType), Jvm.Cond.code ({ cls := "java/util/AbstractList", name := "<init>", desc := "()V" } : Jvm.MethodName) jdk_39_method_1_code (1 : Nat) (Option.none : Option Jvm.ClassFile.FieldType), Jvm.Cond.code ({ cls := "java/util/AbstractCollection", name := "<init>", desc := "()V" } : Jvm.MethodName) jdk_22_method_1_code (1 : Nat) (Option.none : Option Jvm.ClassFile.FieldType), Jvm.Cond.code ({ cls := "com/example/tiebreak/tiebreak/core/ChainReport", name := "duplicateLines", desc := "(Ljava/lang/String;Ljava/util/List;)Ljava/util/List;" } : Jvm.MethodName) prog_2_method_4_code (6 : Nat) (Option.some (Jvm.ClassFile.FieldType.object "java/util/List")), Jvm.Cond.code ({ cls := "com/example/tiebreak/tiebreak/core/ChainReport", name := "prefix", desc := "(Ljava/lang/String;)Ljava/lang/String;" } : Jvm.MethodName) prog_2_method_7_code (1 : Nat) (Option.some (Jvm.ClassFile.FieldType.object "java/lang/String")), Jvm.Cond.code ({ cls := "java/lang/StringBuilder", name := "<init>", desc := "()V" } : Jvm.MethodName) jdk_67_method_1_code (1 : Nat) (Option.none : Option Jvm.ClassFile.FieldType), Jvm.Cond.code ({ cls := "java/lang/AbstractStringBuilder", name := "<init>", desc := "(I)V" } : Jvm.MethodName) jdk_68_method_2_code (2 : Nat) (Option.none : Option Jvm.ClassFile.FieldType), Jvm.Cond.code ({ cls := "java/lang/StringBuilder", name := "append", desc := "(Ljava/lang/String;)Ljava/lang/StringBuilder;" } : Jvm.MethodName) jdk_67_method_7_code (2 : Nat) (Option.some (Jvm.ClassFile.FieldType.object "java/lang/StringBuilder")), Jvm.Cond.code ({ cls := "java/lang/AbstractStringBuilder", name := "append", desc := "(Ljava/lang/String;)Ljava/lang/AbstractStringBuilder;" } : Jvm.MethodName) jdk_68_method_22_code (3 : Nat) (Option.some (Jvm.ClassFile.FieldType.object "java/lang/AbstractStringBuilder")), Jvm.Cond.code ({ cls := "java/lang/String", name := "length", desc := "()I" } : Jvm.MethodName) jdk_42_method_54_code (1 : Nat) (Option.some Jvm.ClassFile.FieldType.int), Jvm.Cond.code ({ cls := "java/lang/String", name := "coder", desc := "()B" } : Jvm.MethodName) jdk_42_method_152_code (1 : Nat) (Option.some Jvm.ClassFile.FieldType.byte), Jvm.Cond.code ({ cls := "java/lang/AbstractStringBuilder", name := "ensureCapacityInternal", desc := "(I)V" } : Jvm.MethodName) jdk_68_method_9_code (3 : Nat) (Option.none : Option Jvm.ClassFile.FieldType), Jvm.Cond.code ({ cls := "java/lang/AbstractStringBuilder", name := "putStringAt", desc := "(ILjava/lang/String;)V" } : Jvm.MethodName) jdk_68_method_73_code (3 : Nat) (Option.none : Option Jvm.ClassFile.FieldType), Jvm.Cond.code ({ cls := "java/lang/AbstractStringBuilder", name := "inflateIfNeededFor", desc := "(Ljava/lang/String;)V" } : Jvm.MethodName) jdk_68_method_71_code (2 : Nat) (Option.none : Option Jvm.ClassFile.FieldType), Jvm.Cond.code ({ cls := "java/lang/String", name := "getBytes", desc := "([BIB)V" } : Jvm.MethodName) jdk_42_method_147_code (4 : Nat) (Option.none : Option Jvm.ClassFile.FieldType), Jvm.Cond.code ({ cls := "java/lang/StringBuilder", name := "toString", desc := "()Ljava/lang/String;" } : Jvm.MethodName) jdk_67_method_42_code (1 : Nat) (Option.some (Jvm.ClassFile.FieldType.object "java/lang/String")), Jvm.Cond.code ({ cls := "java/lang/String", name := "<init>", desc := "(Ljava/lang/StringBuilder;)V" } : Jvm.MethodName) jdk_42_method_53_code (2 : Nat) (Option.none : Option Jvm.ClassFile.FieldType), Jvm.Cond.code ({ cls := "java/lang/String", name := "<init>", desc := "(Ljava/lang/AbstractStringBuilder;Ljava/lang/Void;)V" } : Jvm.MethodName) jdk_42_method_150_code (5 : Nat) (Option.none : Option Jvm.ClassFile.FieldType), Jvm.Cond.code ({ cls := "java/lang/AbstractStringBuilder", name := "getValue", desc := "()[B" } : Jvm.MethodName) jdk_68_method_64_code (1 : Nat) (Option.some (Jvm.ClassFile.FieldType.array Jvm.ClassFile.FieldType.byte)), Jvm.Cond.code ({ cls := "java/lang/StringBuilder", name := "length", desc := "()I" } : Jvm.MethodName) jdk_67_method_93_code (1 : Nat) (Option.some Jvm.ClassFile.FieldType.int), Jvm.Cond.code ({ cls := "java/lang/AbstractStringBuilder", name := "length", desc := "()I" } : Jvm.MethodName) jdk_68_method_6_code (1 : Nat) (Option.some Jvm.ClassFile.FieldType.int), Jvm.Cond.code ({ cls := "java/lang/AbstractStringBuilder", name := "isLatin1", desc := "()Z" } : Jvm.MethodName) jdk_68_method_68_code (1 : Nat) (Option.some Jvm.ClassFile.FieldType.boolean), Jvm.Cond.code ({ cls := "java/util/Arrays", name := "copyOfRange", desc := "([BII)[B" } : Jvm.MethodName) jdk_65_method_132_code (3 : Nat) (Option.some (Jvm.ClassFile.FieldType.array Jvm.ClassFile.FieldType.byte)), Jvm.Cond.code ({ cls := "java/util/Arrays", name := "copyOfRangeByte", desc := "([BII)[B" } : Jvm.MethodName) jdk_65_method_133_code (5 : Nat) (Option.some (Jvm.ClassFile.FieldType.array Jvm.ClassFile.FieldType.byte)), Jvm.Cond.code ({ cls := "java/util/Arrays", name := "checkLength", desc := "(II)V" } : Jvm.MethodName) jdk_65_method_131_code (2 : Nat) (Option.none : Option Jvm.ClassFile.FieldType), Jvm.Cond.code ({ cls := "java/lang/Math", name := "min", desc := "(II)I" } : Jvm.MethodName) jdk_29_method_69_code (2 : Nat) (Option.some Jvm.ClassFile.FieldType.int), Jvm.Cond.code ({ cls := "java/util/ArrayList", name := "iterator", desc := "()Ljava/util/Iterator;" } : Jvm.MethodName) jdk_38_method_55_code (1 : Nat) (Option.some (Jvm.ClassFile.FieldType.object "java/util/Iterator")), Jvm.Cond.code ({ cls := "java/util/ArrayList$Itr", name := "<init>", desc := "(Ljava/util/ArrayList;)V" } : Jvm.MethodName) jdk_49_method_1_code (2 : Nat) (Option.none : Option Jvm.ClassFile.FieldType), Jvm.Cond.code ({ cls := "java/util/ArrayList$Itr", name := "hasNext", desc := "()Z" } : Jvm.MethodName) jdk_49_method_2_code (1 : Nat) (Option.some Jvm.ClassFile.FieldType.boolean), Jvm.Cond.code ({ cls := "java/util/ArrayList", name := "size", desc := "()I" } : Jvm.MethodName) jdk_38_method_8_code (1 : Nat) (Option.some Jvm.ClassFile.FieldType.int), Jvm.Cond.code ({ cls := "com/example/tiebreak/tiebreak/core/DuplicateRegistration", name := "<init>", desc := "(Ljava/lang/String;Ljava/lang/String;Ljava/lang/String;)V" } : Jvm.MethodName) prog_4_method_1_code (4 : Nat) (Option.none : Option Jvm.ClassFile.FieldType), Jvm.Cond.code ({ cls := "java/util/ArrayList", name := "add", desc := "(Ljava/lang/Object;)Z" } : Jvm.MethodName) jdk_38_method_25_code (2 : Nat) (Option.some Jvm.ClassFile.FieldType.boolean), Jvm.Cond.code ({ cls := "java/util/ArrayList", name := "add", desc := "(Ljava/lang/Object;[Ljava/lang/Object;I)V" } : Jvm.MethodName) jdk_38_method_24_code (4 : Nat) (Option.none : Option Jvm.ClassFile.FieldType), Jvm.Cond.code ({ cls := "java/util/ArrayList", name := "grow", desc := "()[Ljava/lang/Object;" } : Jvm.MethodName) jdk_38_method_7_code (1 : Nat) (Option.some (Jvm.ClassFile.FieldType.array (Jvm.ClassFile.FieldType.object "java/lang/Object"))), Jvm.Cond.code ({ cls := "java/util/ArrayList", name := "grow", desc := "(I)[Ljava/lang/Object;" } : Jvm.MethodName) jdk_38_method_6_code (4 : Nat) (Option.some (Jvm.ClassFile.FieldType.array (Jvm.ClassFile.FieldType.object "java/lang/Object"))), Jvm.Cond.code ({ cls := "java/lang/Math", name := "max", desc := "(II)I" } : Jvm.MethodName) jdk_29_method_65_code (2 : Nat) (Option.some Jvm.ClassFile.FieldType.int), Jvm.Cond.code ({ cls := "java/util/ArrayList$Itr", name := "next", desc := "()Ljava/lang/Object;" } : Jvm.MethodName) jdk_49_method_3_code (3 : Nat) (Option.some (Jvm.ClassFile.FieldType.object "java/lang/Object")), Jvm.Cond.code ({ cls := "java/util/ArrayList$Itr", name := "checkForComodification", desc := "()V" } : Jvm.MethodName) jdk_49_method_6_code (1 : Nat) (Option.none : Option Jvm.ClassFile.FieldType), Jvm.Cond.code ({ cls := "java/lang/AbstractStringBuilder", name := "newCapacity", desc := "(I)I" } : Jvm.MethodName) jdk_68_method_10_code (6 : Nat) (Option.some Jvm.ClassFile.FieldType.int), Jvm.Cond.code ({ cls := "jdk/internal/util/ArraysSupport", name := "newLength", desc := "(III)I" } : Jvm.MethodName) jdk_48_method_27_code (4 : Nat) (Option.some Jvm.ClassFile.FieldType.int), Jvm.Cond.code ({ cls := "java/util/Arrays", name := "copyOf", desc := "([BI)[B" } : Jvm.MethodName) jdk_65_method_121_code (3 : Nat) (Option.some (Jvm.ClassFile.FieldType.array Jvm.ClassFile.FieldType.byte)), Jvm.Cond.code ({ cls := "com/example/tiebreak/tiebreak/core/DuplicateRegistration", name := "filterClass", desc := "()Ljava/lang/String;" } : Jvm.MethodName) prog_4_method_2_code (1 : Nat) (Option.some (Jvm.ClassFile.FieldType.object "java/lang/String")), Jvm.Cond.code ({ cls := "com/example/tiebreak/tiebreak/core/DuplicateRegistration", name := "kept", desc := "()Ljava/lang/String;" } : Jvm.MethodName) prog_4_method_3_code (1 : Nat) (Option.some (Jvm.ClassFile.FieldType.object "java/lang/String")), Jvm.Cond.code ({ cls := "com/example/tiebreak/tiebreak/core/DuplicateRegistration", name := "dropped", desc := "()Ljava/lang/String;" } : Jvm.MethodName) prog_4_method_4_code (1 : Nat) (Option.some (Jvm.ClassFile.FieldType.object "java/lang/String")), Jvm.Cond.code ({ cls := "com/example/tiebreak/tiebreak/core/ChainReportDuplicateLinesPinLaw", name := "expected", desc := "(CCCC)Ljava/lang/String;" } : Jvm.MethodName) method_2_code (5 : Nat) (Option.some (Jvm.ClassFile.FieldType.object "java/lang/String")), Jvm.Cond.code ({ cls := "java/lang/String", name := "<init>", desc := "([C)V" } : Jvm.MethodName) jdk_42_method_3_code (2 : Nat) (Option.none : Option Jvm.ClassFile.FieldType), Jvm.Cond.code ({ cls := "java/lang/String", name := "<init>", desc := "([CIILjava/lang/Void;)V" } : Jvm.MethodName) jdk_42_method_149_code (6 : Nat) (Option.none : Option Jvm.ClassFile.FieldType), Jvm.Cond.code ({ cls := "java/lang/StringUTF16", name := "compress", desc := "([CII)[B" } : Jvm.MethodName) jdk_52_method_16_code (6 : Nat) (Option.some (Jvm.ClassFile.FieldType.array Jvm.ClassFile.FieldType.byte)), Jvm.Cond.code ({ cls := "java/lang/StringUTF16", name := "compress", desc := "([CI[BII)I" } : Jvm.MethodName) jdk_52_method_21_code (7 : Nat) (Option.some Jvm.ClassFile.FieldType.int), Jvm.Cond.code ({ cls := "java/lang/StringUTF16", name := "coderFromArrayLen", desc := "([BI)B" } : Jvm.MethodName) jdk_52_method_15_code (2 : Nat) (Option.some Jvm.ClassFile.FieldType.byte), Jvm.Cond.code ({ cls := "java/util/ArrayList", name := "get", desc := "(I)Ljava/lang/Object;" } : Jvm.MethodName) jdk_38_method_20_code (2 : Nat) (Option.some (Jvm.ClassFile.FieldType.object "java/lang/Object")), Jvm.Cond.code ({ cls := "java/util/Objects", name := "checkIndex", desc := "(II)I" } : Jvm.MethodName) jdk_31_method_17_code (2 : Nat) (Option.some Jvm.ClassFile.FieldType.int), Jvm.Cond.code ({ cls := "jdk/internal/util/Preconditions", name := "checkIndex", desc := "(IILjava/util/function/BiFunction;)I" } : Jvm.MethodName) jdk_41_method_11_code (3 : Nat) (Option.some Jvm.ClassFile.FieldType.int), Jvm.Cond.code ({ cls := "java/util/ArrayList", name := "elementData", desc := "(I)Ljava/lang/Object;" } : Jvm.MethodName) jdk_38_method_18_code (2 : Nat) (Option.some (Jvm.ClassFile.FieldType.object "java/lang/Object")), Jvm.Cond.code ({ cls := "java/lang/String", name := "equals", desc := "(Ljava/lang/Object;)Z" } : Jvm.MethodName) jdk_42_method_66_code (3 : Nat) (Option.some Jvm.ClassFile.FieldType.boolean), Jvm.Cond.code ({ cls := "java/lang/StringLatin1", name := "equals", desc := "([B[B)Z" } : Jvm.MethodName) jdk_43_method_13_code (3 : Nat) (Option.some Jvm.ClassFile.FieldType.boolean)]
set_option maxRecDepth 65536 in
theorem codes_eq : words1.filter isCode = codes1 := rfl
theorem w_codes : ∀ c ∈ words1.filter isCode, c.before args0 about1 = true := by
  rw [codes_eq]
  intro c hc
  simp only [codes1, List.mem_cons, List.not_mem_nil, or_false] at hc
  rcases hc with rfl | rfl | rfl | rfl | rfl | rfl | rfl | rfl | rfl | rfl | rfl | rfl | rfl | rfl | rfl | rfl | rfl | rfl | rfl | rfl | rfl | rfl | rfl | rfl | rfl | rfl | rfl | rfl | rfl | rfl | rfl | rfl | rfl | rfl | rfl | rfl | rfl | rfl | rfl | rfl | rfl | rfl | rfl | rfl | rfl | rfl | rfl | rfl | rfl | rfl | rfl | rfl | rfl | rfl | rfl | rfl | rfl | rfl | rfl | rfl | rfl | rfl
  · exact w_c0
  · exact w_c1
  · exact w_c2
  · exact w_c3
  · exact w_c4
  · exact w_c5
  · exact w_c6
  · exact w_c7
  · exact w_c8
  · exact w_c9
  · exact w_c10
  · exact w_c11
  · exact w_c12
  · exact w_c13
  · exact w_c14
  · exact w_c15
  · exact w_c16
  · exact w_c17
  · exact w_c18
  · exact w_c19
  · exact w_c20
  · exact w_c21
  · exact w_c22
  · exact w_c23
  · exact w_c24
  · exact w_c25
  · exact w_c26
  · exact w_c27
  · exact w_c28
  · exact w_c29
  · exact w_c30
  · exact w_c31
  · exact w_c32
  · exact w_c33
  · exact w_c34
  · exact w_c35
  · exact w_c36
  · exact w_c37
  · exact w_c38
  · exact w_c39
  · exact w_c40
  · exact w_c41
  · exact w_c42
  · exact w_c43
  · exact w_c44
  · exact w_c45
  · exact w_c46
  · exact w_c47
  · exact w_c48
  · exact w_c49
  · exact w_c50
  · exact w_c51
  · exact w_c52
  · exact w_c53
  · exact w_c54
  · exact w_c55
  · exact w_c56
  · exact w_c57
  · exact w_c58
  · exact w_c59
  · exact w_c60
  · exact w_c61
set_option maxRecDepth 65536 in
theorem w_t1 : (words1.take 24).all (fun c => isCode c || c.before args0 about1) = true := by decide +kernel
set_option maxRecDepth 65536 in
theorem w_t2 : ((words1.drop 24).take 24).all (fun c => isCode c || c.before args0 about1) = true := by decide +kernel
set_option maxRecDepth 65536 in
theorem w_t3 : (((words1.drop 24).drop 24).take 24).all (fun c => isCode c || c.before args0 about1) = true := by decide +kernel
set_option maxRecDepth 65536 in
theorem w_t4 : ((((words1.drop 24).drop 24).drop 24).take 24).all (fun c => isCode c || c.before args0 about1) = true := by decide +kernel
set_option maxRecDepth 65536 in
theorem w_t5 : (((((words1.drop 24).drop 24).drop 24).drop 24).take 24).all (fun c => isCode c || c.before args0 about1) = true := by decide +kernel
set_option maxRecDepth 65536 in
theorem w_t6 : ((((((words1.drop 24).drop 24).drop 24).drop 24).drop 24).take 24).all (fun c => isCode c || c.before args0 about1) = true := by decide +kernel
set_option maxRecDepth 65536 in
theorem w_t7 : (((((((words1.drop 24).drop 24).drop 24).drop 24).drop 24).drop 24).take 24).all (fun c => isCode c || c.before args0 about1) = true := by decide +kernel
set_option maxRecDepth 65536 in
theorem w_t8 : ((((((((words1.drop 24).drop 24).drop 24).drop 24).drop 24).drop 24).drop 24).take 24).all (fun c => isCode c || c.before args0 about1) = true := by decide +kernel
set_option maxRecDepth 65536 in
theorem w_t9 : (((((((((words1.drop 24).drop 24).drop 24).drop 24).drop 24).drop 24).drop 24).drop 24).take 24).all (fun c => isCode c || c.before args0 about1) = true := by decide +kernel
set_option maxRecDepth 65536 in
theorem w_t10 : ((((((((((words1.drop 24).drop 24).drop 24).drop 24).drop 24).drop 24).drop 24).drop 24).drop 24).take 24).all (fun c => isCode c || c.before args0 about1) = true := by decide +kernel
set_option maxRecDepth 65536 in
theorem w_t11 : (((((((((((words1.drop 24).drop 24).drop 24).drop 24).drop 24).drop 24).drop 24).drop 24).drop 24).drop 24).take 24).all (fun c => isCode c || c.before args0 about1) = true := by decide +kernel
set_option maxRecDepth 65536 in
theorem w_t12 : ((((((((((((words1.drop 24).drop 24).drop 24).drop 24).drop 24).drop 24).drop 24).drop 24).drop 24).drop 24).drop 24).take 24).all (fun c => isCode c || c.before args0 about1) = true := by decide +kernel
set_option maxRecDepth 65536 in
theorem w_t13 : (((((((((((((words1.drop 24).drop 24).drop 24).drop 24).drop 24).drop 24).drop 24).drop 24).drop 24).drop 24).drop 24).drop 24).take 24).all (fun c => isCode c || c.before args0 about1) = true := by decide +kernel
set_option maxRecDepth 65536 in
theorem w_t14 : ((((((((((((((words1.drop 24).drop 24).drop 24).drop 24).drop 24).drop 24).drop 24).drop 24).drop 24).drop 24).drop 24).drop 24).drop 24).take 24).all (fun c => isCode c || c.before args0 about1) = true := by decide +kernel
set_option maxRecDepth 65536 in
theorem w_t15 : (((((((((((((((words1.drop 24).drop 24).drop 24).drop 24).drop 24).drop 24).drop 24).drop 24).drop 24).drop 24).drop 24).drop 24).drop 24).drop 24).take 24).all (fun c => isCode c || c.before args0 about1) = true := by decide +kernel
set_option maxRecDepth 65536 in
theorem w_t16 : (((((((((((((((words1.drop 24).drop 24).drop 24).drop 24).drop 24).drop 24).drop 24).drop 24).drop 24).drop 24).drop 24).drop 24).drop 24).drop 24).drop 24).all (fun c => isCode c || c.before args0 about1) = true := by decide +kernel
theorem w_tables : (allAtoms (Jvm.Cond.code x code maxLocals ret :: tables_1)).before args0 about1 = true := by
  rw [allAtoms_all]
  show words1.all (fun c => c.before args0 about1) = true
  refine all_split ?_ w_codes
  rw [← List.take_append_drop 24 words1, List.all_append, w_t1, ← List.take_append_drop 24 (words1.drop 24), List.all_append, w_t2, ← List.take_append_drop 24 ((words1.drop 24).drop 24), List.all_append, w_t3, ← List.take_append_drop 24 (((words1.drop 24).drop 24).drop 24), List.all_append, w_t4, ← List.take_append_drop 24 ((((words1.drop 24).drop 24).drop 24).drop 24), List.all_append, w_t5, ← List.take_append_drop 24 (((((words1.drop 24).drop 24).drop 24).drop 24).drop 24), List.all_append, w_t6, ← List.take_append_drop 24 ((((((words1.drop 24).drop 24).drop 24).drop 24).drop 24).drop 24), List.all_append, w_t7, ← List.take_append_drop 24 (((((((words1.drop 24).drop 24).drop 24).drop 24).drop 24).drop 24).drop 24), List.all_append, w_t8, ← List.take_append_drop 24 ((((((((words1.drop 24).drop 24).drop 24).drop 24).drop 24).drop 24).drop 24).drop 24), List.all_append, w_t9, ← List.take_append_drop 24 (((((((((words1.drop 24).drop 24).drop 24).drop 24).drop 24).drop 24).drop 24).drop 24).drop 24), List.all_append, w_t10, ← List.take_append_drop 24 ((((((((((words1.drop 24).drop 24).drop 24).drop 24).drop 24).drop 24).drop 24).drop 24).drop 24).drop 24), List.all_append, w_t11, ← List.take_append_drop 24 (((((((((((words1.drop 24).drop 24).drop 24).drop 24).drop 24).drop 24).drop 24).drop 24).drop 24).drop 24).drop 24), List.all_append, w_t12, ← List.take_append_drop 24 ((((((((((((words1.drop 24).drop 24).drop 24).drop 24).drop 24).drop 24).drop 24).drop 24).drop 24).drop 24).drop 24).drop 24), List.all_append, w_t13, ← List.take_append_drop 24 (((((((((((((words1.drop 24).drop 24).drop 24).drop 24).drop 24).drop 24).drop 24).drop 24).drop 24).drop 24).drop 24).drop 24).drop 24), List.all_append, w_t14, ← List.take_append_drop 24 ((((((((((((((words1.drop 24).drop 24).drop 24).drop 24).drop 24).drop 24).drop 24).drop 24).drop 24).drop 24).drop 24).drop 24).drop 24).drop 24), List.all_append, w_t15, w_t16]
  rfl
set_option maxRecDepth 65536 in
theorem w_rest : rest_1_c.before args0 about1 = true := by decide +kernel
set_option maxRecDepth 65536 in
theorem w_case : (Jvm.Cond.and given_1 narrow_1).before args0 about1 = true := by decide +kernel
set_option maxRecDepth 65536 in
theorem w_consts : constsHeld consts_1 about1 := Jvm.Lit.constsHeldB_iff.mp (by decide +kernel)
theorem w_applies : (headSpec (Jvm.Cond.code x code maxLocals ret :: tables_1) room_1).applies x e0.platform about1 = true :=
  (Spec.applies_iff w_frames).mpr ⟨w_running, w_runnable, w_alone, w_named, w_hears, w_ripe, w_room, w_tables⟩
theorem atStart : AtStart classFile x code maxLocals ret World_1 tables_1 room_1 Calls_1 rest_1 Pre_1 launch0 p0 e0 about1 theMethod args0 below0 :=
  ⟨lists_1, trivial, launch0.admits_env _ _ _, launch0.least_env, fairChoices_fair.cas, fairChoices_fair.clock, w_frames, w_args, w_heap, w_applies, ⟨w_consts, trivial⟩, w_rest, w_case⟩
end start1
theorem witness_1 : WitnessClaimed_1 := ⟨start1.p0, start1.e0, start1.about1, start1.theMethod, start1.args0, start1.below0, start1.atStart⟩
end Jvm.Pilot.@@N@@
