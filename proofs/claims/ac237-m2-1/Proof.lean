import JvmDerived
import JvmDerived.Pilot.@@N@@Statement
import JvmDerived.Pilot.@@N@@Code
set_option linter.unusedVariables false
set_option linter.unusedSimpArgs false
namespace Jvm.Pilot.@@N@@
open Jvm Jvm.ClassFile Sem Op Lib Jvm.Free Jvm.Stand Jvm.LawKit Jvm.RoadKit Bundle Jvm.Pilot.@@N@@.Jvm.D
section Own
variable {p : Program} {l : Launch} {e : Env} {R : Room} {s : State} {m : MethodId} {args : Array Value} {below : List Frame} {meth : Method} {c : Code} {Z : State} {a0 : Array Value} {y : MethodName} {bytes : ByteArray} {maxL : Nat} {ret : Option FieldType} {Q : Option Value → Heap → Prop} {P : Option Value → State → Prop} {n0 : Nat} {h : Heap} {k n : Nat} {f f' : JFrame} {pc pc' pt : Nat} {Ls : Array Slot} {S : List Value}
/-- what a walk knows of its own method -/
def Cx (p : Program) (s : State) (m : MethodId) (meth : Method) (c : Code) (Z : State) (y : MethodName) (bytes : ByteArray) (maxL : Nat) (ret : Option FieldType) : Prop :=
  p.tables.exec = Jvm.exec ∧ Z.Warmed39 s.vm ∧ c.code = bytes ∧ c.maxLocals = maxL ∧ s.vm.findClass y.cls = some m.cls ∧ meth.name = y.name ∧ meth.sig.returnType = ret ∧ meth.locks = false
/-- the run from U returns, and what it leaves is as P says -/
def Go (p : Program) (e : Env) (below : List Frame) (P : Option Value → State → Prop) (U : State) : Prop :=
  ∃ s₂ v, Steps p.tables e below U s₂ ∧ s₂.status = .running ∧ Ended s₂ below (.returned v) ∧ P v s₂
/-- as Q says, within the room, seen from the state s -/
def Wst (s : State) (R : Room) (n0 : Nat) (Q : Option Value → Heap → Prop) : Option Value → State → Prop := fun v s₂ => Q v s₂.heap ∧ ∃ L, Fr n0 L ∧ FrameEnd s (.returned v) s₂ L R.cells R.slots
/-- from wherever the walk stands with the heap h, k cells and n slots made, the frame f on top: it ends as P says -/
def G (p : Program) (l : Launch) (e : Env) (R : Room) (s : State) (m : MethodId) (args : Array Value) (below : List Frame) (meth : Method) (c : Code) (n0 : Nat) (P : Option Value → State → Prop) (h : Heap) (k n : Nat) (f : JFrame) : Prop :=
  ∀ T locs, Stand p l e R s m args below meth c T locs k n → T.heap = h → Fr n0 locs → Go p e below P (T.setTop f)
/-- a method's contract at the heap h with the arguments av -/
def Con (l : Launch) (Z : State) (y : MethodName) (bytes : ByteArray) (maxL : Nat) (ret : Option FieldType) (R : Room) (av : Array Value) (h : Heap) (n0 : Nat) (Q : Option Value → Heap → Prop) : Prop :=
  ∀ ws : List Jvm.Cond, MetFree l y (head1 (Jvm.Cond.code y bytes maxL ret :: ws) R) (fun a U => a = av ∧ Z.Warmed39 U.vm ∧ U.heap = h) (fun _ _ _ _ _ => True) (fun _ U o U' => ∃ v L, o = .returned v ∧ (Q v U'.heap ∧ Fr n0 L) ∧ FrameEnd U o U' L R.cells R.slots)
theorem Con.of {av : Array Value} (hy : plainFor y = true) (ef : ∀ m, entryFrame m av maxL = mkF m 0 Ls [])
    (body : ∀ p e s m below meth c, Cx p s m meth c Z y bytes maxL ret → G p l e R s m av below meth c n0 (Wst s R n0 Q) h 0 0 (mkF m 0 Ls [])) : Con l Z y bytes maxL ret R av h n0 Q := by
  intro ws
  refine MetFree.of_bodySF hy hisR ?_
  intro p e s m args below meth c s₁ Bd hml0 hP hK
  obtain ⟨rfl, hZ, hh⟩ := hP
  have X0 : Stand p l e R s m _ below meth c s₁ [] 0 0 := Stand.of_body Bd
  have e0 : s₁.heap = h := by rw [← hh, Bd.state]; rfl
  obtain ⟨s₂, v, h1, h2, h3, h4, L, h5, h6⟩ := body p e s m below meth c ⟨Bd.exec, hZ, Bd.bytes, hml0, findClass_of_methodNamed Bd.named, (name_of_methodNamed Bd.named Bd.method).1, Bd.returns, Bd.notSynchronized⟩ s₁ [] X0 e0 (Fr.nil n0)
  exact ⟨s₂, _, castTop (ef m) h1, h2, h3, v, L, rfl, ⟨h4, h5⟩, h6⟩
theorem Con.imp {av : Array Value} {Q' : Option Value → Heap → Prop} (K : Con l Z y bytes maxL ret R av h n0 Q) (hq : ∀ v h', Q v h' → Q' v h') : Con l Z y bytes maxL ret R av h n0 Q' := by
  intro ws p e ha hc hk s m args below hf happ hP hK
  obtain ⟨n, o, h1, h2, h3, v, L, h4, h5, h6⟩ := K ws p e ha hc hk s m args below hf happ hP hK
  exact ⟨n, o, h1, h2, h3, v, L, h4, ⟨hq _ _ h5.1, h5.2⟩, h6⟩
theorem G.pl (st : ∀ T locs, Stand p l e R s m args below meth c T locs k n → T.heap = h → ∀ t, Steps p.tables e below (T.setTop f') t → Steps p.tables e below (T.setTop f) t) (nx : G p l e R s m args below meth c n0 P h k n f') : G p l e R s m args below meth c n0 P h k n f := fun T locs X eT N => by
  obtain ⟨s₂, o, h1, r⟩ := nx T locs X eT N
  exact ⟨s₂, o, st T locs X eT _ h1, r⟩
/-- a step that hands back another state, the heap as it was -/
theorem G.mv (st : ∀ T locs, Stand p l e R s m args below meth c T locs k n → T.heap = h → ∃ T', Stand p l e R s m args below meth c T' locs k n ∧ T'.heap = h ∧ ∀ t, Steps p.tables e below (T'.setTop f') t → Steps p.tables e below (T.setTop f) t) (nx : G p l e R s m args below meth c n0 P h k n f') : G p l e R s m args below meth c n0 P h k n f := fun T locs X eT N => by
  obtain ⟨T', X', e', q⟩ := st T locs X eT
  obtain ⟨s₂, o, h1, r⟩ := nx T' locs X' e' N
  exact ⟨s₂, o, q _ h1, r⟩
theorem G.mono {k' n' : Nat} (hk : k ≤ k') (hn : n ≤ n') (nx : G p l e R s m args below meth c n0 P h k' n' f) : G p l e R s m args below meth c n0 P h k n f := fun T locs X eT N =>
  nx T locs ⟨X.admits, X.cas, X.clock, X.frames, X.room, X.hears, X.method, X.code, X.here, X.tail, X.warmed, X.limits, X.bytes, X.same.mono hk hn⟩ eT N
theorem G.imp {P' : Option Value → State → Prop} (nx : G p l e R s m args below meth c n0 P h k n f) (hp : ∀ v s₂, P v s₂ → P' v s₂) : G p l e R s m args below meth c n0 P' h k n f := fun T locs X eT N => by
  obtain ⟨s₂, v, h1, h2, h3, h4⟩ := nx T locs X eT N
  exact ⟨s₂, v, h1, h2, h3, hp _ _ h4⟩
theorem twd {d : Jvm.Cond} {L : List Jvm.Cond} (hw : ∀ d ∈ L, d.before a0 Z = true) (i : Nat) (h : L[i]? = some d) : d.before a0 Z = true := hw _ (List.mem_of_getElem? h)
theorem G.iloadN (C : Cx p s m meth c Z y bytes maxL ret) {j : Fin 4} {v : Int32} (hd : decode bytes pc = .ok (.iload_n j, 1)) (hl : Ls[j.val]? = some (.val (.int v))) (hp : pc + 1 = pc') (nx : G p l e R s m args below meth c n0 P h k n (mkF m pc' Ls (.int v :: S))) : G p l e R s m args below meth c n0 P h k n (mkF m pc Ls S) := by
  subst hp; exact G.pl (fun T locs X eT t q => XS.iloadN X.here C.1 rfl (hb C.2.2.1 hd) hl q) nx
theorem G.iload (C : Cx p s m meth c Z y bytes maxL ret) {j : Nat} {v : Int32} (hd : decode bytes pc = .ok (.iload j, 2)) (hl : Ls[j]? = some (.val (.int v))) (hp : pc + 2 = pc') (nx : G p l e R s m args below meth c n0 P h k n (mkF m pc' Ls (.int v :: S))) : G p l e R s m args below meth c n0 P h k n (mkF m pc Ls S) := by
  subst hp; exact G.pl (fun T locs X eT t q => XS.iload X.here C.1 rfl (hb C.2.2.1 hd) hl q) nx
theorem G.lloadN (C : Cx p s m meth c Z y bytes maxL ret) {j : Fin 4} {v : Int64} (hd : decode bytes pc = .ok (.lload_n j, 1)) (hl : Ls[j.val]? = some (.val (.long v))) (hp : pc + 1 = pc') (nx : G p l e R s m args below meth c n0 P h k n (mkF m pc' Ls (.long v :: S))) : G p l e R s m args below meth c n0 P h k n (mkF m pc Ls S) := by
  subst hp; exact G.pl (fun T locs X eT t q => XS.lloadN X.here C.1 rfl (hb C.2.2.1 hd) hl q) nx
theorem G.lload (C : Cx p s m meth c Z y bytes maxL ret) {j : Nat} {v : Int64} (hd : decode bytes pc = .ok (.lload j, 2)) (hl : Ls[j]? = some (.val (.long v))) (hp : pc + 2 = pc') (nx : G p l e R s m args below meth c n0 P h k n (mkF m pc' Ls (.long v :: S))) : G p l e R s m args below meth c n0 P h k n (mkF m pc Ls S) := by
  subst hp; exact G.pl (fun T locs X eT t q => XS.lload X.here C.1 rfl (hb C.2.2.1 hd) hl q) nx
theorem G.aloadN (C : Cx p s m meth c Z y bytes maxL ret) {j : Fin 4} {v : Value} (hd : decode bytes pc = .ok (.aload_n j, 1)) (hl : Ls[j.val]? = some (.val v)) (hv : v.isRef = true) (hp : pc + 1 = pc') (nx : G p l e R s m args below meth c n0 P h k n (mkF m pc' Ls (v :: S))) : G p l e R s m args below meth c n0 P h k n (mkF m pc Ls S) := by
  subst hp; exact G.pl (fun T locs X eT t q => XS.aloadN X.here C.1 rfl (hb C.2.2.1 hd) hl hv q) nx
theorem G.aload (C : Cx p s m meth c Z y bytes maxL ret) {j : Nat} {v : Value} (hd : decode bytes pc = .ok (.aload j, 2)) (hl : Ls[j]? = some (.val v)) (hv : v.isRef = true) (hp : pc + 2 = pc') (nx : G p l e R s m args below meth c n0 P h k n (mkF m pc' Ls (v :: S))) : G p l e R s m args below meth c n0 P h k n (mkF m pc Ls S) := by
  subst hp; exact G.pl (fun T locs X eT t q => XS.aload X.here C.1 rfl (hb C.2.2.1 hd) hl hv q) nx
theorem G.istoreN (C : Cx p s m meth c Z y bytes maxL ret) {j : Fin 4} {v : Int32} {Ls' : Array Slot} (hd : decode bytes pc = .ok (.istore_n j, 1)) (hl : storeLocals Ls j.val (.int v) = some Ls') (hp : pc + 1 = pc') (nx : G p l e R s m args below meth c n0 P h k n (mkF m pc' Ls' S)) : G p l e R s m args below meth c n0 P h k n (mkF m pc Ls (.int v :: S)) := by
  subst hp; exact G.pl (fun T locs X eT t q => XS.istoreN X.here C.1 rfl (hb C.2.2.1 hd) rfl hl q) nx
theorem G.istore (C : Cx p s m meth c Z y bytes maxL ret) {j : Nat} {v : Int32} {Ls' : Array Slot} (hd : decode bytes pc = .ok (.istore j, 2)) (hl : storeLocals Ls j (.int v) = some Ls') (hp : pc + 2 = pc') (nx : G p l e R s m args below meth c n0 P h k n (mkF m pc' Ls' S)) : G p l e R s m args below meth c n0 P h k n (mkF m pc Ls (.int v :: S)) := by
  subst hp; exact G.pl (fun T locs X eT t q => XS.istore X.here C.1 rfl (hb C.2.2.1 hd) rfl hl q) nx
theorem G.lstoreN (C : Cx p s m meth c Z y bytes maxL ret) {j : Fin 4} {v : Int64} {Ls' : Array Slot} (hd : decode bytes pc = .ok (.lstore_n j, 1)) (hl : storeLocals Ls j.val (.long v) = some Ls') (hp : pc + 1 = pc') (nx : G p l e R s m args below meth c n0 P h k n (mkF m pc' Ls' S)) : G p l e R s m args below meth c n0 P h k n (mkF m pc Ls (.long v :: S)) := by
  subst hp; exact G.pl (fun T locs X eT t q => XS.lstoreN X.here C.1 rfl (hb C.2.2.1 hd) rfl hl q) nx
theorem G.lstore (C : Cx p s m meth c Z y bytes maxL ret) {j : Nat} {v : Int64} {Ls' : Array Slot} (hd : decode bytes pc = .ok (.lstore j, 2)) (hl : storeLocals Ls j (.long v) = some Ls') (hp : pc + 2 = pc') (nx : G p l e R s m args below meth c n0 P h k n (mkF m pc' Ls' S)) : G p l e R s m args below meth c n0 P h k n (mkF m pc Ls (.long v :: S)) := by
  subst hp; exact G.pl (fun T locs X eT t q => XS.lstore X.here C.1 rfl (hb C.2.2.1 hd) rfl hl q) nx
theorem G.astoreN (C : Cx p s m meth c Z y bytes maxL ret) {j : Fin 4} {v : Value} {Ls' : Array Slot} (hd : decode bytes pc = .ok (.astore_n j, 1)) (hv : v.isRef = true) (hl : storeLocals Ls j.val v = some Ls') (hp : pc + 1 = pc') (nx : G p l e R s m args below meth c n0 P h k n (mkF m pc' Ls' S)) : G p l e R s m args below meth c n0 P h k n (mkF m pc Ls (v :: S)) := by
  subst hp; exact G.pl (fun T locs X eT t q => XS.astoreN X.here C.1 rfl (hb C.2.2.1 hd) rfl hv hl q) nx
theorem G.astore (C : Cx p s m meth c Z y bytes maxL ret) {j : Nat} {v : Value} {Ls' : Array Slot} (hd : decode bytes pc = .ok (.astore j, 2)) (hv : v.isRef = true) (hl : storeLocals Ls j v = some Ls') (hp : pc + 2 = pc') (nx : G p l e R s m args below meth c n0 P h k n (mkF m pc' Ls' S)) : G p l e R s m args below meth c n0 P h k n (mkF m pc Ls (v :: S)) := by
  subst hp; exact G.pl (fun T locs X eT t q => XS.astore X.here C.1 rfl (hb C.2.2.1 hd) rfl hv hl q) nx
theorem G.iconst (C : Cx p s m meth c Z y bytes maxL ret) {i : Int} {v : Int32} (hd : decode bytes pc = .ok (.iconst i, 1)) (hv : Int32.ofInt i = v) (hp : pc + 1 = pc') (nx : G p l e R s m args below meth c n0 P h k n (mkF m pc' Ls (.int v :: S))) : G p l e R s m args below meth c n0 P h k n (mkF m pc Ls S) := by
  subst hp hv; exact G.pl (fun T locs X eT t q => XS.iconst X.here C.1 rfl (hb C.2.2.1 hd) q) nx
theorem G.bipush (C : Cx p s m meth c Z y bytes maxL ret) {i : Int} {v : Int32} (hd : decode bytes pc = .ok (.bipush i, 2)) (hv : (Int8.ofInt i).toInt32 = v) (hp : pc + 2 = pc') (nx : G p l e R s m args below meth c n0 P h k n (mkF m pc' Ls (.int v :: S))) : G p l e R s m args below meth c n0 P h k n (mkF m pc Ls S) := by
  subst hp hv; exact G.pl (fun T locs X eT t q => XS.bipush X.here C.1 rfl (hb C.2.2.1 hd) q) nx
theorem G.sipush (C : Cx p s m meth c Z y bytes maxL ret) {i : Int} {v : Int32} (hd : decode bytes pc = .ok (.sipush i, 3)) (hv : (Int16.ofInt i).toInt32 = v) (hp : pc + 3 = pc') (nx : G p l e R s m args below meth c n0 P h k n (mkF m pc' Ls (.int v :: S))) : G p l e R s m args below meth c n0 P h k n (mkF m pc Ls S) := by
  subst hp hv; exact G.pl (fun T locs X eT t q => XS.sipush X.here C.1 rfl (hb C.2.2.1 hd) q) nx
theorem G.lconst (C : Cx p s m meth c Z y bytes maxL ret) {j : Fin 2} {v : Int64} (hd : decode bytes pc = .ok (.lconst j, 1)) (hv : Int64.ofNat j = v) (hp : pc + 1 = pc') (nx : G p l e R s m args below meth c n0 P h k n (mkF m pc' Ls (.long v :: S))) : G p l e R s m args below meth c n0 P h k n (mkF m pc Ls S) := by
  subst hp hv; exact G.pl (fun T locs X eT t q => XS.lconst X.here C.1 rfl (hb C.2.2.1 hd) q) nx
theorem G.aconst_null (C : Cx p s m meth c Z y bytes maxL ret) (hd : decode bytes pc = .ok (.aconst_null, 1)) (hp : pc + 1 = pc') (nx : G p l e R s m args below meth c n0 P h k n (mkF m pc' Ls (.null :: S))) : G p l e R s m args below meth c n0 P h k n (mkF m pc Ls S) := by
  subst hp; exact G.pl (fun T locs X eT t q => XS.aconstNull X.here C.1 rfl (hb C.2.2.1 hd) q) nx
theorem G.ldcI (C : Cx p s m meth c Z y bytes maxL ret) {ix : Nat} {v : Int32} (w : (Jvm.Cond.constant y.cls ix v).before a0 Z = true) (hd : decode bytes pc = .ok (.ldc ix, 2)) (hp : pc + 2 = pc') (nx : G p l e R s m args below meth c n0 P h k n (mkF m pc' Ls (.int v :: S))) : G p l e R s m args below meth c n0 P h k n (mkF m pc Ls S) := by
  subst hp; exact G.pl (fun T locs X eT t q => X.ldcInt C.1 C.2.2.2.2.1 (mvT C.2.1 w) (g := mkF m pc Ls S) rfl (hb C.2.2.1 hd) t q) nx
theorem G.ldcW (C : Cx p s m meth c Z y bytes maxL ret) {ix : Nat} {v : Int32} (w : (Jvm.Cond.constant y.cls ix v).before a0 Z = true) (hd : decode bytes pc = .ok (.ldc_w ix, 3)) (hp : pc + 3 = pc') (nx : G p l e R s m args below meth c n0 P h k n (mkF m pc' Ls (.int v :: S))) : G p l e R s m args below meth c n0 P h k n (mkF m pc Ls S) := by
  subst hp; exact G.pl (fun T locs X eT t q => X.ldcwInt C.1 C.2.2.2.2.1 (mvT C.2.1 w) (g := mkF m pc Ls S) rfl (hb C.2.2.1 hd) t q) nx
theorem G.ldcJ (C : Cx p s m meth c Z y bytes maxL ret) {ix : Nat} {v : Int64} (w : (Jvm.Cond.constantLong y.cls ix v).before a0 Z = true) (hd : decode bytes pc = .ok (.ldc2_w ix, 3)) (hp : pc + 3 = pc') (nx : G p l e R s m args below meth c n0 P h k n (mkF m pc' Ls (.long v :: S))) : G p l e R s m args below meth c n0 P h k n (mkF m pc Ls S) := by
  subst hp; exact G.pl (fun T locs X eT t q => X.ldc2Long C.1 C.2.2.2.2.1 (mvT C.2.1 w) (g := mkF m pc Ls S) rfl (hb C.2.2.1 hd) t q) nx
theorem G.iadd (C : Cx p s m meth c Z y bytes maxL ret) {x z : Int32} (hd : decode bytes pc = .ok (.iadd, 1))  (hp : pc + 1 = pc') (nx : G p l e R s m args below meth c n0 P h k n (mkF m pc' Ls (.int (x + z) :: S))) : G p l e R s m args below meth c n0 P h k n (mkF m pc Ls (.int z :: .int x :: S)) := by
  subst hp; exact G.pl (fun T locs X eT t q => XS.iadd X.here C.1 rfl (hb C.2.2.1 hd) rfl q) nx
theorem G.ladd (C : Cx p s m meth c Z y bytes maxL ret) {x z : Int64} (hd : decode bytes pc = .ok (.ladd, 1))  (hp : pc + 1 = pc') (nx : G p l e R s m args below meth c n0 P h k n (mkF m pc' Ls (.long (x + z) :: S))) : G p l e R s m args below meth c n0 P h k n (mkF m pc Ls (.long z :: .long x :: S)) := by
  subst hp; exact G.pl (fun T locs X eT t q => XS.ladd X.here C.1 rfl (hb C.2.2.1 hd) rfl q) nx
theorem G.isub (C : Cx p s m meth c Z y bytes maxL ret) {x z : Int32} (hd : decode bytes pc = .ok (.isub, 1))  (hp : pc + 1 = pc') (nx : G p l e R s m args below meth c n0 P h k n (mkF m pc' Ls (.int (x - z) :: S))) : G p l e R s m args below meth c n0 P h k n (mkF m pc Ls (.int z :: .int x :: S)) := by
  subst hp; exact G.pl (fun T locs X eT t q => XS.isub X.here C.1 rfl (hb C.2.2.1 hd) rfl q) nx
theorem G.lsub (C : Cx p s m meth c Z y bytes maxL ret) {x z : Int64} (hd : decode bytes pc = .ok (.lsub, 1))  (hp : pc + 1 = pc') (nx : G p l e R s m args below meth c n0 P h k n (mkF m pc' Ls (.long (x - z) :: S))) : G p l e R s m args below meth c n0 P h k n (mkF m pc Ls (.long z :: .long x :: S)) := by
  subst hp; exact G.pl (fun T locs X eT t q => XS.lsub X.here C.1 rfl (hb C.2.2.1 hd) rfl q) nx
theorem G.imul (C : Cx p s m meth c Z y bytes maxL ret) {x z : Int32} (hd : decode bytes pc = .ok (.imul, 1))  (hp : pc + 1 = pc') (nx : G p l e R s m args below meth c n0 P h k n (mkF m pc' Ls (.int (x * z) :: S))) : G p l e R s m args below meth c n0 P h k n (mkF m pc Ls (.int z :: .int x :: S)) := by
  subst hp; exact G.pl (fun T locs X eT t q => XS.imul X.here C.1 rfl (hb C.2.2.1 hd) rfl q) nx
theorem G.lmul (C : Cx p s m meth c Z y bytes maxL ret) {x z : Int64} (hd : decode bytes pc = .ok (.lmul, 1))  (hp : pc + 1 = pc') (nx : G p l e R s m args below meth c n0 P h k n (mkF m pc' Ls (.long (x * z) :: S))) : G p l e R s m args below meth c n0 P h k n (mkF m pc Ls (.long z :: .long x :: S)) := by
  subst hp; exact G.pl (fun T locs X eT t q => XS.lmul X.here C.1 rfl (hb C.2.2.1 hd) rfl q) nx
theorem G.iand (C : Cx p s m meth c Z y bytes maxL ret) {x z : Int32} (hd : decode bytes pc = .ok (.iand, 1))  (hp : pc + 1 = pc') (nx : G p l e R s m args below meth c n0 P h k n (mkF m pc' Ls (.int (x &&& z) :: S))) : G p l e R s m args below meth c n0 P h k n (mkF m pc Ls (.int z :: .int x :: S)) := by
  subst hp; exact G.pl (fun T locs X eT t q => XS.iand X.here C.1 rfl (hb C.2.2.1 hd) rfl q) nx
theorem G.land (C : Cx p s m meth c Z y bytes maxL ret) {x z : Int64} (hd : decode bytes pc = .ok (.land, 1))  (hp : pc + 1 = pc') (nx : G p l e R s m args below meth c n0 P h k n (mkF m pc' Ls (.long (x &&& z) :: S))) : G p l e R s m args below meth c n0 P h k n (mkF m pc Ls (.long z :: .long x :: S)) := by
  subst hp; exact G.pl (fun T locs X eT t q => XS.land X.here C.1 rfl (hb C.2.2.1 hd) rfl q) nx
theorem G.ior (C : Cx p s m meth c Z y bytes maxL ret) {x z : Int32} (hd : decode bytes pc = .ok (.ior, 1))  (hp : pc + 1 = pc') (nx : G p l e R s m args below meth c n0 P h k n (mkF m pc' Ls (.int (x ||| z) :: S))) : G p l e R s m args below meth c n0 P h k n (mkF m pc Ls (.int z :: .int x :: S)) := by
  subst hp; exact G.pl (fun T locs X eT t q => XS.ior X.here C.1 rfl (hb C.2.2.1 hd) rfl q) nx
theorem G.lor (C : Cx p s m meth c Z y bytes maxL ret) {x z : Int64} (hd : decode bytes pc = .ok (.lor, 1))  (hp : pc + 1 = pc') (nx : G p l e R s m args below meth c n0 P h k n (mkF m pc' Ls (.long (x ||| z) :: S))) : G p l e R s m args below meth c n0 P h k n (mkF m pc Ls (.long z :: .long x :: S)) := by
  subst hp; exact G.pl (fun T locs X eT t q => XS.lor X.here C.1 rfl (hb C.2.2.1 hd) rfl q) nx
theorem G.ixor (C : Cx p s m meth c Z y bytes maxL ret) {x z : Int32} (hd : decode bytes pc = .ok (.ixor, 1))  (hp : pc + 1 = pc') (nx : G p l e R s m args below meth c n0 P h k n (mkF m pc' Ls (.int (x ^^^ z) :: S))) : G p l e R s m args below meth c n0 P h k n (mkF m pc Ls (.int z :: .int x :: S)) := by
  subst hp; exact G.pl (fun T locs X eT t q => XS.ixor X.here C.1 rfl (hb C.2.2.1 hd) rfl q) nx
theorem G.lxor (C : Cx p s m meth c Z y bytes maxL ret) {x z : Int64} (hd : decode bytes pc = .ok (.lxor, 1))  (hp : pc + 1 = pc') (nx : G p l e R s m args below meth c n0 P h k n (mkF m pc' Ls (.long (x ^^^ z) :: S))) : G p l e R s m args below meth c n0 P h k n (mkF m pc Ls (.long z :: .long x :: S)) := by
  subst hp; exact G.pl (fun T locs X eT t q => XS.lxor X.here C.1 rfl (hb C.2.2.1 hd) rfl q) nx
theorem G.idiv (C : Cx p s m meth c Z y bytes maxL ret) {x z : Int32} (hd : decode bytes pc = .ok (.idiv, 1)) (hz : z ≠ 0) (hp : pc + 1 = pc') (nx : G p l e R s m args below meth c n0 P h k n (mkF m pc' Ls (.int (x / z) :: S))) : G p l e R s m args below meth c n0 P h k n (mkF m pc Ls (.int z :: .int x :: S)) := by
  subst hp; exact G.pl (fun T locs X eT t q => XS.idiv X.here C.1 rfl (hb C.2.2.1 hd) rfl hz q) nx
theorem G.irem (C : Cx p s m meth c Z y bytes maxL ret) {x z : Int32} (hd : decode bytes pc = .ok (.irem, 1)) (hz : z ≠ 0) (hp : pc + 1 = pc') (nx : G p l e R s m args below meth c n0 P h k n (mkF m pc' Ls (.int (x % z) :: S))) : G p l e R s m args below meth c n0 P h k n (mkF m pc Ls (.int z :: .int x :: S)) := by
  subst hp; exact G.pl (fun T locs X eT t q => iremM X C.1 rfl (hb C.2.2.1 hd) rfl hz q) nx
theorem G.ldiv (C : Cx p s m meth c Z y bytes maxL ret) {x z : Int64} (hd : decode bytes pc = .ok (.ldiv, 1)) (hz : z ≠ 0) (hp : pc + 1 = pc') (nx : G p l e R s m args below meth c n0 P h k n (mkF m pc' Ls (.long (x / z) :: S))) : G p l e R s m args below meth c n0 P h k n (mkF m pc Ls (.long z :: .long x :: S)) := by
  subst hp; exact G.pl (fun T locs X eT t q => XS.ldiv X.here C.1 rfl (hb C.2.2.1 hd) rfl hz q) nx
theorem G.lrem (C : Cx p s m meth c Z y bytes maxL ret) {x z : Int64} (hd : decode bytes pc = .ok (.lrem, 1)) (hz : z ≠ 0) (hp : pc + 1 = pc') (nx : G p l e R s m args below meth c n0 P h k n (mkF m pc' Ls (.long (x % z) :: S))) : G p l e R s m args below meth c n0 P h k n (mkF m pc Ls (.long z :: .long x :: S)) := by
  subst hp; exact G.pl (fun T locs X eT t q => XS.lrem X.here C.1 rfl (hb C.2.2.1 hd) rfl hz (by rw [lrem_mod]; exact q)) nx
theorem G.ineg (C : Cx p s m meth c Z y bytes maxL ret) {x : Int32} (hd : decode bytes pc = .ok (.ineg, 1))  (hp : pc + 1 = pc') (nx : G p l e R s m args below meth c n0 P h k n (mkF m pc' Ls (.int (-x) :: S))) : G p l e R s m args below meth c n0 P h k n (mkF m pc Ls (.int x :: S)) := by
  subst hp; exact G.pl (fun T locs X eT t q => XS.ineg X.here C.1 rfl (hb C.2.2.1 hd) rfl q) nx
theorem G.lneg (C : Cx p s m meth c Z y bytes maxL ret) {x : Int64} (hd : decode bytes pc = .ok (.lneg, 1))  (hp : pc + 1 = pc') (nx : G p l e R s m args below meth c n0 P h k n (mkF m pc' Ls (.long (-x) :: S))) : G p l e R s m args below meth c n0 P h k n (mkF m pc Ls (.long x :: S)) := by
  subst hp; exact G.pl (fun T locs X eT t q => XS.lneg X.here C.1 rfl (hb C.2.2.1 hd) rfl q) nx
theorem G.i2l (C : Cx p s m meth c Z y bytes maxL ret) {x : Int32} (hd : decode bytes pc = .ok (.i2l, 1))  (hp : pc + 1 = pc') (nx : G p l e R s m args below meth c n0 P h k n (mkF m pc' Ls (.long (x.toInt64) :: S))) : G p l e R s m args below meth c n0 P h k n (mkF m pc Ls (.int x :: S)) := by
  subst hp; exact G.pl (fun T locs X eT t q => XS.i2l X.here C.1 rfl (hb C.2.2.1 hd) rfl q) nx
theorem G.l2i (C : Cx p s m meth c Z y bytes maxL ret) {x : Int64} (hd : decode bytes pc = .ok (.l2i, 1))  (hp : pc + 1 = pc') (nx : G p l e R s m args below meth c n0 P h k n (mkF m pc' Ls (.int (x.toInt32) :: S))) : G p l e R s m args below meth c n0 P h k n (mkF m pc Ls (.long x :: S)) := by
  subst hp; exact G.pl (fun T locs X eT t q => XS.l2i X.here C.1 rfl (hb C.2.2.1 hd) rfl q) nx
theorem G.i2b (C : Cx p s m meth c Z y bytes maxL ret) {x : Int32} (hd : decode bytes pc = .ok (.i2b, 1))  (hp : pc + 1 = pc') (nx : G p l e R s m args below meth c n0 P h k n (mkF m pc' Ls (.int (x.toInt8.toInt32) :: S))) : G p l e R s m args below meth c n0 P h k n (mkF m pc Ls (.int x :: S)) := by
  subst hp; exact G.pl (fun T locs X eT t q => XS.i2b X.here C.1 rfl (hb C.2.2.1 hd) rfl q) nx
theorem G.i2c (C : Cx p s m meth c Z y bytes maxL ret) {x : Int32} (hd : decode bytes pc = .ok (.i2c, 1))  (hp : pc + 1 = pc') (nx : G p l e R s m args below meth c n0 P h k n (mkF m pc' Ls (.int (x.toUInt32.toUInt16.toUInt32.toInt32) :: S))) : G p l e R s m args below meth c n0 P h k n (mkF m pc Ls (.int x :: S)) := by
  subst hp; exact G.pl (fun T locs X eT t q => XS.i2c X.here C.1 rfl (hb C.2.2.1 hd) rfl q) nx
theorem G.i2s (C : Cx p s m meth c Z y bytes maxL ret) {x : Int32} (hd : decode bytes pc = .ok (.i2s, 1))  (hp : pc + 1 = pc') (nx : G p l e R s m args below meth c n0 P h k n (mkF m pc' Ls (.int (x.toInt16.toInt32) :: S))) : G p l e R s m args below meth c n0 P h k n (mkF m pc Ls (.int x :: S)) := by
  subst hp; exact G.pl (fun T locs X eT t q => XS.i2s X.here C.1 rfl (hb C.2.2.1 hd) rfl q) nx
theorem G.ishl (C : Cx p s m meth c Z y bytes maxL ret) {x z : Int32} (hd : decode bytes pc = .ok (.ishl, 1))  (hp : pc + 1 = pc') (nx : G p l e R s m args below meth c n0 P h k n (mkF m pc' Ls (.int (x <<< (z &&& 31)) :: S))) : G p l e R s m args below meth c n0 P h k n (mkF m pc Ls (.int z :: .int x :: S)) := by
  subst hp; exact G.pl (fun T locs X eT t q => XS.ishl X.here C.1 rfl (hb C.2.2.1 hd) rfl q) nx
theorem G.ishr (C : Cx p s m meth c Z y bytes maxL ret) {x z : Int32} (hd : decode bytes pc = .ok (.ishr, 1))  (hp : pc + 1 = pc') (nx : G p l e R s m args below meth c n0 P h k n (mkF m pc' Ls (.int (x >>> (z &&& 31)) :: S))) : G p l e R s m args below meth c n0 P h k n (mkF m pc Ls (.int z :: .int x :: S)) := by
  subst hp; exact G.pl (fun T locs X eT t q => XS.ishr X.here C.1 rfl (hb C.2.2.1 hd) rfl q) nx
theorem G.iushr (C : Cx p s m meth c Z y bytes maxL ret) {x z : Int32} (hd : decode bytes pc = .ok (.iushr, 1))  (hp : pc + 1 = pc') (nx : G p l e R s m args below meth c n0 P h k n (mkF m pc' Ls (.int ((x.toUInt32 >>> (z &&& 31).toUInt32).toInt32) :: S))) : G p l e R s m args below meth c n0 P h k n (mkF m pc Ls (.int z :: .int x :: S)) := by
  subst hp; exact G.pl (fun T locs X eT t q => XS.iushr X.here C.1 rfl (hb C.2.2.1 hd) rfl q) nx
theorem G.lshl (C : Cx p s m meth c Z y bytes maxL ret) {x : Int64} {z : Int32} (hd : decode bytes pc = .ok (.lshl, 1))  (hp : pc + 1 = pc') (nx : G p l e R s m args below meth c n0 P h k n (mkF m pc' Ls (.long (x <<< (z &&& 0x3f).toInt64) :: S))) : G p l e R s m args below meth c n0 P h k n (mkF m pc Ls (.int z :: .long x :: S)) := by
  subst hp; exact G.pl (fun T locs X eT t q => XS.lshl X.here C.1 rfl (hb C.2.2.1 hd) rfl q) nx
theorem G.lshr (C : Cx p s m meth c Z y bytes maxL ret) {x : Int64} {z : Int32} (hd : decode bytes pc = .ok (.lshr, 1))  (hp : pc + 1 = pc') (nx : G p l e R s m args below meth c n0 P h k n (mkF m pc' Ls (.long (x >>> (z &&& 0x3f).toInt64) :: S))) : G p l e R s m args below meth c n0 P h k n (mkF m pc Ls (.int z :: .long x :: S)) := by
  subst hp; exact G.pl (fun T locs X eT t q => XS.lshr X.here C.1 rfl (hb C.2.2.1 hd) rfl q) nx
theorem G.lushr (C : Cx p s m meth c Z y bytes maxL ret) {x : Int64} {z : Int32} (hd : decode bytes pc = .ok (.lushr, 1))  (hp : pc + 1 = pc') (nx : G p l e R s m args below meth c n0 P h k n (mkF m pc' Ls (.long ((x.toUInt64 >>> (z &&& 0x3f).toInt64.toUInt64).toInt64) :: S))) : G p l e R s m args below meth c n0 P h k n (mkF m pc Ls (.int z :: .long x :: S)) := by
  subst hp; exact G.pl (fun T locs X eT t q => XS.lushr X.here C.1 rfl (hb C.2.2.1 hd) rfl q) nx
theorem G.lcmp (C : Cx p s m meth c Z y bytes maxL ret) {x z : Int64} (hd : decode bytes pc = .ok (.lcmp, 1))  (hp : pc + 1 = pc') (nx : G p l e R s m args below meth c n0 P h k n (mkF m pc' Ls (.int (lcmpW x z) :: S))) : G p l e R s m args below meth c n0 P h k n (mkF m pc Ls (.long z :: .long x :: S)) := by
  subst hp; exact G.pl (fun T locs X eT t q => XS.lcmp X.here C.1 rfl (hb C.2.2.1 hd) rfl q) nx
theorem G.dup (C : Cx p s m meth c Z y bytes maxL ret) {v : Value} (hd : decode bytes pc = .ok (.dup, 1)) (hv : v.category = 1) (hp : pc + 1 = pc') (nx : G p l e R s m args below meth c n0 P h k n (mkF m pc' Ls (v :: v :: S))) : G p l e R s m args below meth c n0 P h k n (mkF m pc Ls (v :: S)) := by
  subst hp; exact G.pl (fun T locs X eT t q => XS.dup X.here C.1 rfl (hb C.2.2.1 hd) rfl hv q) nx
theorem G.pop (C : Cx p s m meth c Z y bytes maxL ret) {v : Value} (hd : decode bytes pc = .ok (.pop, 1)) (hv : v.category = 1) (hp : pc + 1 = pc') (nx : G p l e R s m args below meth c n0 P h k n (mkF m pc' Ls S)) : G p l e R s m args below meth c n0 P h k n (mkF m pc Ls (v :: S)) := by
  subst hp; exact G.pl (fun T locs X eT t q => XS.pop X.here C.1 rfl (hb C.2.2.1 hd) rfl hv q) nx
theorem G.dupX1 (C : Cx p s m meth c Z y bytes maxL ret) {v u : Value} (hd : decode bytes pc = .ok (.dup_x1, 1)) (hv : v.category = 1) (hu : u.category = 1) (hp : pc + 1 = pc') (nx : G p l e R s m args below meth c n0 P h k n (mkF m pc' Ls (v :: u :: v :: S))) : G p l e R s m args below meth c n0 P h k n (mkF m pc Ls (v :: u :: S)) := by
  subst hp; exact G.pl (fun T locs X eT t q => XS.dupX1 X.here C.1 rfl (hb C.2.2.1 hd) rfl hv hu q) nx
theorem G.iinc (C : Cx p s m meth c Z y bytes maxL ret) {j : Nat} {i : Int} {v z : Int32} {Ls' : Array Slot} (hd : decode bytes pc = .ok (.iinc j i, 3)) (hl : Ls[j]? = some (.val (.int v))) (hz : Int32.ofInt i = z) (hl' : storeLocals Ls j (.int (v + z)) = some Ls') (hp : pc + 3 = pc') (nx : G p l e R s m args below meth c n0 P h k n (mkF m pc' Ls' S)) : G p l e R s m args below meth c n0 P h k n (mkF m pc Ls S) := by
  subst hp hz; exact G.pl (fun T locs X eT t q => XS.iinc X.here C.1 rfl (hb C.2.2.1 hd) hl hl' q) nx
theorem G.goto (C : Cx p s m meth c Z y bytes maxL ret) {o : Int} (hd : decode bytes pc = .ok (.goto o, 3)) (ho : 0 ≤ (pc : Int) + o) (hp : ((pc : Int) + o).toNat = pc') (nx : G p l e R s m args below meth c n0 P h k n (mkF m pc' Ls S)) : G p l e R s m args below meth c n0 P h k n (mkF m pc Ls S) :=
  G.pl (fun T locs X eT t q => XS.goto X.here C.1 rfl (pc0 := pc) (pc' := pc') rfl (hb C.2.2.1 hd) ho hp q) nx
theorem G.ifc (C : Cx p s m meth c Z y bytes maxL ret) {cd : ClassFile.Cond} {o : Int} {x : Int32} (hd : decode bytes pc = .ok (.ifCond cd o, 3)) (ho : 0 ≤ (pc : Int) + o) (ht : ((pc : Int) + o).toNat = pt) (hp : pc + 3 = pc') (yes : if_icmp.holds cd x 0 = true → G p l e R s m args below meth c n0 P h k n (mkF m pt Ls S)) (no : if_icmp.holds cd x 0 = false → G p l e R s m args below meth c n0 P h k n (mkF m pc' Ls S)) : G p l e R s m args below meth c n0 P h k n (mkF m pc Ls (.int x :: S)) := by
  subst hp
  cases hc : if_icmp.holds cd x 0 with
  | true => exact G.pl (fun T locs X eT t q => XS.ifYes X.here C.1 rfl (pc0 := pc) (pc' := pt) rfl (hb C.2.2.1 hd) rfl ((if0 _ _).trans hc) ho ht q) (yes hc)
  | false => exact G.pl (fun T locs X eT t q => XS.ifNo X.here C.1 rfl (hb C.2.2.1 hd) rfl ((if0 _ _).trans hc) q) (no hc)
theorem G.icmp (C : Cx p s m meth c Z y bytes maxL ret) {cd : ClassFile.Cond} {o : Int} {x z : Int32} (hd : decode bytes pc = .ok (.if_icmp cd o, 3)) (ho : 0 ≤ (pc : Int) + o) (ht : ((pc : Int) + o).toNat = pt) (hp : pc + 3 = pc') (yes : if_icmp.holds cd x z = true → G p l e R s m args below meth c n0 P h k n (mkF m pt Ls S)) (no : if_icmp.holds cd x z = false → G p l e R s m args below meth c n0 P h k n (mkF m pc' Ls S)) : G p l e R s m args below meth c n0 P h k n (mkF m pc Ls (.int z :: .int x :: S)) := by
  subst hp
  cases hc : if_icmp.holds cd x z with
  | true => exact G.pl (fun T locs X eT t q => XS.icmpYes X.here C.1 rfl (pc0 := pc) (pc' := pt) rfl (hb C.2.2.1 hd) rfl hc ho ht q) (yes hc)
  | false => exact G.pl (fun T locs X eT t q => XS.icmpNo X.here C.1 rfl (hb C.2.2.1 hd) rfl hc q) (no hc)
theorem G.ifeq (C : Cx p s m meth c Z y bytes maxL ret) {o : Int} {x : Int32} (hd : decode bytes pc = .ok (.ifCond .eq o, 3)) (ho : 0 ≤ (pc : Int) + o) (ht : ((pc : Int) + o).toNat = pt) (hp : pc + 3 = pc') (yes : x = 0 → G p l e R s m args below meth c n0 P h k n (mkF m pt Ls S)) (no : ¬ (x = 0) → G p l e R s m args below meth c n0 P h k n (mkF m pc' Ls S)) : G p l e R s m args below meth c n0 P h k n (mkF m pc Ls (.int x :: S)) :=
  G.ifc C hd ho ht hp (fun q => yes (by simpa [if_icmp.holds] using q)) (fun q => no (by simpa [if_icmp.holds] using q))
theorem G.iceq (C : Cx p s m meth c Z y bytes maxL ret) {o : Int} {x z : Int32} (hd : decode bytes pc = .ok (.if_icmp .eq o, 3)) (ho : 0 ≤ (pc : Int) + o) (ht : ((pc : Int) + o).toNat = pt) (hp : pc + 3 = pc') (yes : x = z → G p l e R s m args below meth c n0 P h k n (mkF m pt Ls S)) (no : ¬ (x = z) → G p l e R s m args below meth c n0 P h k n (mkF m pc' Ls S)) : G p l e R s m args below meth c n0 P h k n (mkF m pc Ls (.int z :: .int x :: S)) :=
  G.icmp C hd ho ht hp (fun q => yes (by simpa [if_icmp.holds] using q)) (fun q => no (by simpa [if_icmp.holds] using q))
theorem G.lfeq (C : Cx p s m meth c Z y bytes maxL ret) {o : Int} {x z : Int64} (hd : decode bytes pc = .ok (.ifCond .eq o, 3)) (ho : 0 ≤ (pc : Int) + o) (ht : ((pc : Int) + o).toNat = pt) (hp : pc + 3 = pc') (yes : x = z → G p l e R s m args below meth c n0 P h k n (mkF m pt Ls S)) (no : ¬ (x = z) → G p l e R s m args below meth c n0 P h k n (mkF m pc' Ls S)) : G p l e R s m args below meth c n0 P h k n (mkF m pc Ls (.int (lcmpW x z) :: S)) :=
  G.ifeq C hd ho ht hp (fun q => yes ((lw_eq x z).mp q)) (fun q => no (fun r => q ((lw_eq x z).mpr r)))
theorem G.ifne (C : Cx p s m meth c Z y bytes maxL ret) {o : Int} {x : Int32} (hd : decode bytes pc = .ok (.ifCond .ne o, 3)) (ho : 0 ≤ (pc : Int) + o) (ht : ((pc : Int) + o).toNat = pt) (hp : pc + 3 = pc') (yes : ¬ (x = 0) → G p l e R s m args below meth c n0 P h k n (mkF m pt Ls S)) (no : x = 0 → G p l e R s m args below meth c n0 P h k n (mkF m pc' Ls S)) : G p l e R s m args below meth c n0 P h k n (mkF m pc Ls (.int x :: S)) :=
  G.ifc C hd ho ht hp (fun q => yes (by simpa [if_icmp.holds] using q)) (fun q => no (by simpa [if_icmp.holds] using q))
theorem G.icne (C : Cx p s m meth c Z y bytes maxL ret) {o : Int} {x z : Int32} (hd : decode bytes pc = .ok (.if_icmp .ne o, 3)) (ho : 0 ≤ (pc : Int) + o) (ht : ((pc : Int) + o).toNat = pt) (hp : pc + 3 = pc') (yes : ¬ (x = z) → G p l e R s m args below meth c n0 P h k n (mkF m pt Ls S)) (no : x = z → G p l e R s m args below meth c n0 P h k n (mkF m pc' Ls S)) : G p l e R s m args below meth c n0 P h k n (mkF m pc Ls (.int z :: .int x :: S)) :=
  G.icmp C hd ho ht hp (fun q => yes (by simpa [if_icmp.holds] using q)) (fun q => no (by simpa [if_icmp.holds] using q))
theorem G.lfne (C : Cx p s m meth c Z y bytes maxL ret) {o : Int} {x z : Int64} (hd : decode bytes pc = .ok (.ifCond .ne o, 3)) (ho : 0 ≤ (pc : Int) + o) (ht : ((pc : Int) + o).toNat = pt) (hp : pc + 3 = pc') (yes : ¬ (x = z) → G p l e R s m args below meth c n0 P h k n (mkF m pt Ls S)) (no : x = z → G p l e R s m args below meth c n0 P h k n (mkF m pc' Ls S)) : G p l e R s m args below meth c n0 P h k n (mkF m pc Ls (.int (lcmpW x z) :: S)) :=
  G.ifne C hd ho ht hp (fun q => yes (fun r => q ((lw_eq x z).mpr r))) (fun q => no ((lw_eq x z).mp q))
theorem G.iflt (C : Cx p s m meth c Z y bytes maxL ret) {o : Int} {x : Int32} (hd : decode bytes pc = .ok (.ifCond .lt o, 3)) (ho : 0 ≤ (pc : Int) + o) (ht : ((pc : Int) + o).toNat = pt) (hp : pc + 3 = pc') (yes : x < 0 → G p l e R s m args below meth c n0 P h k n (mkF m pt Ls S)) (no : ¬ (x < 0) → G p l e R s m args below meth c n0 P h k n (mkF m pc' Ls S)) : G p l e R s m args below meth c n0 P h k n (mkF m pc Ls (.int x :: S)) :=
  G.ifc C hd ho ht hp (fun q => yes (by simpa [if_icmp.holds] using q)) (fun q => no (by simpa [if_icmp.holds] using q))
theorem G.iclt (C : Cx p s m meth c Z y bytes maxL ret) {o : Int} {x z : Int32} (hd : decode bytes pc = .ok (.if_icmp .lt o, 3)) (ho : 0 ≤ (pc : Int) + o) (ht : ((pc : Int) + o).toNat = pt) (hp : pc + 3 = pc') (yes : x < z → G p l e R s m args below meth c n0 P h k n (mkF m pt Ls S)) (no : ¬ (x < z) → G p l e R s m args below meth c n0 P h k n (mkF m pc' Ls S)) : G p l e R s m args below meth c n0 P h k n (mkF m pc Ls (.int z :: .int x :: S)) :=
  G.icmp C hd ho ht hp (fun q => yes (by simpa [if_icmp.holds] using q)) (fun q => no (by simpa [if_icmp.holds] using q))
theorem G.lflt (C : Cx p s m meth c Z y bytes maxL ret) {o : Int} {x z : Int64} (hd : decode bytes pc = .ok (.ifCond .lt o, 3)) (ho : 0 ≤ (pc : Int) + o) (ht : ((pc : Int) + o).toNat = pt) (hp : pc + 3 = pc') (yes : x < z → G p l e R s m args below meth c n0 P h k n (mkF m pt Ls S)) (no : ¬ (x < z) → G p l e R s m args below meth c n0 P h k n (mkF m pc' Ls S)) : G p l e R s m args below meth c n0 P h k n (mkF m pc Ls (.int (lcmpW x z) :: S)) :=
  G.iflt C hd ho ht hp (fun q => yes ((lw_lt x z).mp q)) (fun q => no (fun r => q ((lw_lt x z).mpr r)))
theorem G.ifge (C : Cx p s m meth c Z y bytes maxL ret) {o : Int} {x : Int32} (hd : decode bytes pc = .ok (.ifCond .ge o, 3)) (ho : 0 ≤ (pc : Int) + o) (ht : ((pc : Int) + o).toNat = pt) (hp : pc + 3 = pc') (yes : ¬ (x < 0) → G p l e R s m args below meth c n0 P h k n (mkF m pt Ls S)) (no : x < 0 → G p l e R s m args below meth c n0 P h k n (mkF m pc' Ls S)) : G p l e R s m args below meth c n0 P h k n (mkF m pc Ls (.int x :: S)) :=
  G.ifc C hd ho ht hp (fun q => yes (by simpa [if_icmp.holds] using q)) (fun q => no (by simpa [if_icmp.holds] using q))
theorem G.icge (C : Cx p s m meth c Z y bytes maxL ret) {o : Int} {x z : Int32} (hd : decode bytes pc = .ok (.if_icmp .ge o, 3)) (ho : 0 ≤ (pc : Int) + o) (ht : ((pc : Int) + o).toNat = pt) (hp : pc + 3 = pc') (yes : ¬ (x < z) → G p l e R s m args below meth c n0 P h k n (mkF m pt Ls S)) (no : x < z → G p l e R s m args below meth c n0 P h k n (mkF m pc' Ls S)) : G p l e R s m args below meth c n0 P h k n (mkF m pc Ls (.int z :: .int x :: S)) :=
  G.icmp C hd ho ht hp (fun q => yes (by simpa [if_icmp.holds] using q)) (fun q => no (by simpa [if_icmp.holds] using q))
theorem G.lfge (C : Cx p s m meth c Z y bytes maxL ret) {o : Int} {x z : Int64} (hd : decode bytes pc = .ok (.ifCond .ge o, 3)) (ho : 0 ≤ (pc : Int) + o) (ht : ((pc : Int) + o).toNat = pt) (hp : pc + 3 = pc') (yes : ¬ (x < z) → G p l e R s m args below meth c n0 P h k n (mkF m pt Ls S)) (no : x < z → G p l e R s m args below meth c n0 P h k n (mkF m pc' Ls S)) : G p l e R s m args below meth c n0 P h k n (mkF m pc Ls (.int (lcmpW x z) :: S)) :=
  G.ifge C hd ho ht hp (fun q => yes (fun r => q ((lw_lt x z).mpr r))) (fun q => no ((lw_lt x z).mp q))
theorem G.ifgt (C : Cx p s m meth c Z y bytes maxL ret) {o : Int} {x : Int32} (hd : decode bytes pc = .ok (.ifCond .gt o, 3)) (ho : 0 ≤ (pc : Int) + o) (ht : ((pc : Int) + o).toNat = pt) (hp : pc + 3 = pc') (yes : 0 < x → G p l e R s m args below meth c n0 P h k n (mkF m pt Ls S)) (no : ¬ (0 < x) → G p l e R s m args below meth c n0 P h k n (mkF m pc' Ls S)) : G p l e R s m args below meth c n0 P h k n (mkF m pc Ls (.int x :: S)) :=
  G.ifc C hd ho ht hp (fun q => yes (by simpa [if_icmp.holds] using q)) (fun q => no (by simpa [if_icmp.holds] using q))
theorem G.icgt (C : Cx p s m meth c Z y bytes maxL ret) {o : Int} {x z : Int32} (hd : decode bytes pc = .ok (.if_icmp .gt o, 3)) (ho : 0 ≤ (pc : Int) + o) (ht : ((pc : Int) + o).toNat = pt) (hp : pc + 3 = pc') (yes : z < x → G p l e R s m args below meth c n0 P h k n (mkF m pt Ls S)) (no : ¬ (z < x) → G p l e R s m args below meth c n0 P h k n (mkF m pc' Ls S)) : G p l e R s m args below meth c n0 P h k n (mkF m pc Ls (.int z :: .int x :: S)) :=
  G.icmp C hd ho ht hp (fun q => yes (by simpa [if_icmp.holds] using q)) (fun q => no (by simpa [if_icmp.holds] using q))
theorem G.lfgt (C : Cx p s m meth c Z y bytes maxL ret) {o : Int} {x z : Int64} (hd : decode bytes pc = .ok (.ifCond .gt o, 3)) (ho : 0 ≤ (pc : Int) + o) (ht : ((pc : Int) + o).toNat = pt) (hp : pc + 3 = pc') (yes : z < x → G p l e R s m args below meth c n0 P h k n (mkF m pt Ls S)) (no : ¬ (z < x) → G p l e R s m args below meth c n0 P h k n (mkF m pc' Ls S)) : G p l e R s m args below meth c n0 P h k n (mkF m pc Ls (.int (lcmpW x z) :: S)) :=
  G.ifgt C hd ho ht hp (fun q => yes ((lw_gt x z).mp q)) (fun q => no (fun r => q ((lw_gt x z).mpr r)))
theorem G.ifle (C : Cx p s m meth c Z y bytes maxL ret) {o : Int} {x : Int32} (hd : decode bytes pc = .ok (.ifCond .le o, 3)) (ho : 0 ≤ (pc : Int) + o) (ht : ((pc : Int) + o).toNat = pt) (hp : pc + 3 = pc') (yes : ¬ (0 < x) → G p l e R s m args below meth c n0 P h k n (mkF m pt Ls S)) (no : 0 < x → G p l e R s m args below meth c n0 P h k n (mkF m pc' Ls S)) : G p l e R s m args below meth c n0 P h k n (mkF m pc Ls (.int x :: S)) :=
  G.ifc C hd ho ht hp (fun q => yes (by simpa [if_icmp.holds] using q)) (fun q => no (by simpa [if_icmp.holds] using q))
theorem G.icle (C : Cx p s m meth c Z y bytes maxL ret) {o : Int} {x z : Int32} (hd : decode bytes pc = .ok (.if_icmp .le o, 3)) (ho : 0 ≤ (pc : Int) + o) (ht : ((pc : Int) + o).toNat = pt) (hp : pc + 3 = pc') (yes : ¬ (z < x) → G p l e R s m args below meth c n0 P h k n (mkF m pt Ls S)) (no : z < x → G p l e R s m args below meth c n0 P h k n (mkF m pc' Ls S)) : G p l e R s m args below meth c n0 P h k n (mkF m pc Ls (.int z :: .int x :: S)) :=
  G.icmp C hd ho ht hp (fun q => yes (by simpa [if_icmp.holds] using q)) (fun q => no (by simpa [if_icmp.holds] using q))
theorem G.lfle (C : Cx p s m meth c Z y bytes maxL ret) {o : Int} {x z : Int64} (hd : decode bytes pc = .ok (.ifCond .le o, 3)) (ho : 0 ≤ (pc : Int) + o) (ht : ((pc : Int) + o).toNat = pt) (hp : pc + 3 = pc') (yes : ¬ (z < x) → G p l e R s m args below meth c n0 P h k n (mkF m pt Ls S)) (no : z < x → G p l e R s m args below meth c n0 P h k n (mkF m pc' Ls S)) : G p l e R s m args below meth c n0 P h k n (mkF m pc Ls (.int (lcmpW x z) :: S)) :=
  G.ifle C hd ho ht hp (fun q => yes (fun r => q ((lw_gt x z).mpr r))) (fun q => no ((lw_gt x z).mp q))
/-- a Bool as the machine's int -/
def bi (b : Bool) : Int32 := if b then 1 else 0
theorem bi_t : bi true = 1 := rfl
theorem bi_f : bi false = 0 := rfl
theorem bi_inj {a b : Bool} : bi a = bi b ↔ a = b := by cases a <;> cases b <;> decide
theorem bi_zero {b : Bool} : bi b = 0 ↔ b = false := by cases b <;> decide
theorem bi_one {b : Bool} : bi b = 1 ↔ b = true := by cases b <;> decide
theorem bi_fit (b : Bool) : fits .boolean (.int (bi b)) = true := by cases b <;> rfl
theorem bi_nar (b : Bool) : narrow .boolean (.int (bi b)) = .int (bi b) := by cases b <;> rfl
theorem G.bfeq (C : Cx p s m meth c Z y bytes maxL ret) {o : Int} {b : Bool} (hd : decode bytes pc = .ok (.ifCond .eq o, 3)) (ho : 0 ≤ (pc : Int) + o) (ht : ((pc : Int) + o).toNat = pt) (hp : pc + 3 = pc') (yes : b = false → G p l e R s m args below meth c n0 P h k n (mkF m pt Ls S)) (no : b = true → G p l e R s m args below meth c n0 P h k n (mkF m pc' Ls S)) : G p l e R s m args below meth c n0 P h k n (mkF m pc Ls (.int (bi b) :: S)) :=
  G.ifeq C hd ho ht hp (fun q => yes (bi_zero.mp q)) (fun q => no (by cases b; exact absurd rfl q; rfl))
theorem G.bfne (C : Cx p s m meth c Z y bytes maxL ret) {o : Int} {b : Bool} (hd : decode bytes pc = .ok (.ifCond .ne o, 3)) (ho : 0 ≤ (pc : Int) + o) (ht : ((pc : Int) + o).toNat = pt) (hp : pc + 3 = pc') (yes : b = true → G p l e R s m args below meth c n0 P h k n (mkF m pt Ls S)) (no : b = false → G p l e R s m args below meth c n0 P h k n (mkF m pc' Ls S)) : G p l e R s m args below meth c n0 P h k n (mkF m pc Ls (.int (bi b) :: S)) :=
  G.ifne C hd ho ht hp (fun q => yes (by cases b; exact absurd rfl q; rfl)) (fun q => no (bi_zero.mp q))
theorem G.out {v : Option Value} (C : Cx p s m meth c Z y bytes maxL ret) (hv : ret = none → v = none) (hq : Q v h) (hk : k ≤ R.cells) (hn : n ≤ R.slots)
    (st : ∀ T locs fs, Stand p l e R s m args below meth c T locs k n → (∀ (f : JFrame) (acts : List Action), f.method = m → f.locked = none → f.entered = [] → (doReturn e (T.setTop f) acts v).1 = T.setFrames fs) → Steps p.tables e below (T.setTop f) (T.setFrames fs)) : G p l e R s m args below meth c n0 (Wst s R n0 Q) h k n f := fun T locs X eT N => by
  have hlk : meth.locks = false := C.2.2.2.2.2.2.2
  obtain ⟨fs, hr, hrun, hended, hW, hsame⟩ := X.leave (v := v) (fun q => hv (C.2.2.2.2.2.2.1.symm.trans q)) hlk
  exact ⟨_, _, st T locs fs X hr, hrun, hended, eT ▸ hq, locs, N, ⟨_, rfl⟩, hW, hsame.mono hk hn⟩
theorem G.retI (C : Cx p s m meth c Z y bytes maxL (some .int)) {z : Int32} (hd : decode bytes pc = .ok (.ireturn, 1)) (hk : k ≤ R.cells) (hn : n ≤ R.slots) (hq : Q (some (.int z)) h) : G p l e R s m args below meth c n0 (Wst s R n0 Q) h k n (mkF m pc Ls (.int z :: S)) :=
  G.out C (fun q => by cases q) hq hk hn fun T locs fs X hr => retOut X C.1 C.2.2.2.2.2.2.1 rfl (Or.inl ⟨rfl, Or.inl rfl, z, rfl⟩) (hb C.2.2.1 hd) hr
theorem G.retZ (C : Cx p s m meth c Z y bytes maxL (some .boolean)) {z : Int32} (hd : decode bytes pc = .ok (.ireturn, 1)) (hk : k ≤ R.cells) (hn : n ≤ R.slots) (hz : narrow .boolean (.int z) = .int z) (hq : Q (some (.int z)) h) : G p l e R s m args below meth c n0 (Wst s R n0 Q) h k n (mkF m pc Ls (.int z :: S)) :=
  G.out C (fun q => by cases q) hq hk hn fun T locs fs X hr => retOut X C.1 C.2.2.2.2.2.2.1 hz (Or.inl ⟨rfl, Or.inr (Or.inl rfl), z, rfl⟩) (hb C.2.2.1 hd) hr
theorem G.retB (C : Cx p s m meth c Z y bytes maxL (some .byte)) {z : Int32} (hd : decode bytes pc = .ok (.ireturn, 1)) (hk : k ≤ R.cells) (hn : n ≤ R.slots) (hz : narrow .byte (.int z) = .int z) (hq : Q (some (.int z)) h) : G p l e R s m args below meth c n0 (Wst s R n0 Q) h k n (mkF m pc Ls (.int z :: S)) :=
  G.out C (fun q => by cases q) hq hk hn fun T locs fs X hr => retOut X C.1 C.2.2.2.2.2.2.1 hz (Or.inl ⟨rfl, Or.inr (Or.inr (Or.inl rfl)), z, rfl⟩) (hb C.2.2.1 hd) hr
theorem G.retC (C : Cx p s m meth c Z y bytes maxL (some .char)) {z : Int32} (hd : decode bytes pc = .ok (.ireturn, 1)) (hk : k ≤ R.cells) (hn : n ≤ R.slots) (hz : narrow .char (.int z) = .int z) (hq : Q (some (.int z)) h) : G p l e R s m args below meth c n0 (Wst s R n0 Q) h k n (mkF m pc Ls (.int z :: S)) :=
  G.out C (fun q => by cases q) hq hk hn fun T locs fs X hr => retOut X C.1 C.2.2.2.2.2.2.1 hz (Or.inl ⟨rfl, Or.inr (Or.inr (Or.inr (Or.inl rfl))), z, rfl⟩) (hb C.2.2.1 hd) hr
theorem G.retL (C : Cx p s m meth c Z y bytes maxL (some .long)) {z : Int64} (hd : decode bytes pc = .ok (.lreturn, 1)) (hk : k ≤ R.cells) (hn : n ≤ R.slots) (hq : Q (some (.long z)) h) : G p l e R s m args below meth c n0 (Wst s R n0 Q) h k n (mkF m pc Ls (.long z :: S)) :=
  G.out C (fun q => by cases q) hq hk hn fun T locs fs X hr => retOut X C.1 C.2.2.2.2.2.2.1 rfl (Or.inr (Or.inl ⟨rfl, rfl, z, rfl⟩)) (hb C.2.2.1 hd) hr
theorem G.retA {t : FieldType} (C : Cx p s m meth c Z y bytes maxL (some t)) {v : Value} (ht : t.isReference = true) (hv : v.isRef = true) (hd : decode bytes pc = .ok (.areturn, 1)) (hk : k ≤ R.cells) (hn : n ≤ R.slots) (hz : narrow t v = v) (hq : Q (some v) h) : G p l e R s m args below meth c n0 (Wst s R n0 Q) h k n (mkF m pc Ls (v :: S)) :=
  G.out C (fun q => by cases q) hq hk hn fun T locs fs X hr => retOut X C.1 C.2.2.2.2.2.2.1 hz (Or.inr (Or.inr (Or.inr (Or.inr ⟨rfl, ht, hv⟩)))) (hb C.2.2.1 hd) hr
theorem G.retV (C : Cx p s m meth c Z y bytes maxL none) (hd : decode bytes pc = .ok (.return_, 1)) (hk : k ≤ R.cells) (hn : n ≤ R.slots) (hq : Q none h) : G p l e R s m args below meth c n0 (Wst s R n0 Q) h k n (mkF m pc Ls []) :=
  G.out C (fun _ => rfl) hq hk hn fun T locs fs X hr => X.returnOut C.1 C.2.2.2.2.2.2.1 (hb C.2.2.1 hd) hr
theorem cat_sum {S : List Value} {W : Nat} (h : (S.map fun v => v.category).sum ≤ W) : 2 * 0 + (S.map fun v => v.category).sum ≤ W := by omega
theorem G.callS (C : Cx p s m meth c Z y bytes maxL ret) {z : MethodName} {zb : ByteArray} {zl : Nat} {zr : Option FieldType} {Rz : Room} {av : List Value} {Qz : Option Value → Heap → Prop} {ix W : Nat} {ps : List FieldType} {r : Option FieldType} {St : List Value}
    (w1 : (Jvm.Cond.methodLink y.cls ix z).before a0 Z = true) (w2 : (Jvm.Cond.static z).before a0 Z = true) (w3 : (Jvm.Cond.initialized z.cls).before a0 Z = true) (w4 : (Jvm.Cond.code z zb zl zr).before a0 Z = true)
    (hz : z.cls ≠ "java/lang/invoke/MethodHandle" ∧ z.cls ≠ "java/lang/invoke/VarHandle") (K : Con l Z z zb zl zr Rz av.toArray h n0 Qz) (hps : parseMethodDescriptor z.desc = some ⟨ps, r⟩) (hlen : av.length = ps.length) (hls : Ls.size = maxL)
    (hd : decode bytes pc = .ok (.invokestatic ix, 3)) (hst : St = av.reverse ++ S) (hW : (S.map fun v => v.category).sum ≤ W) (hf : Rz.frames + 1 ≤ R.frames) (hl : W + (zl + 11) + Rz.locals ≤ R.locals) (hk : k + Rz.cells ≤ R.cells) (hn : n + Rz.slots ≤ R.slots) (hp : pc + 3 = pc')
    (nx : ∀ v h', Qz v h' → G p l e R s m args below meth c n0 P h' (k + Rz.cells) (n + Rz.slots) (mkF m pc' Ls (v.toList ++ S))) : G p l e R s m args below meth c n0 P h k n (mkF m pc Ls St) := fun T locs X eT N => by
  subst hp hst
  obtain ⟨v, _, ⟨T', L', k', n'⟩, -, X', ⟨Lc, hQ, l1, l2, l3⟩, st⟩ := Jvm.LawKit.callS X C.1 (y := z) C.2.2.2.2.1 (mvT C.2.1 w1) (mvT C.2.1 w2) (mvT C.2.1 w3) (mvT C.2.1 w4) hz (backOf (Q := fun v z L => Qz v z ∧ Fr n0 L) (W := W) (K []) C.2.1 w4 w3 hf hl) (g := mkF m pc Ls (av.reverse ++ S)) rfl (by rw [C.2.2.2.1]; exact hls) (argsL := av) (rest := S) (lenOf hps hlen) rfl (cat_sum hW) (hb C.2.2.1 hd) (fun _ _ => ⟨rfl, eT, hk, hn⟩)
  dsimp only [Pt.U, Pt.locs, Pt.cells, Pt.slots] at X' l1 l2 l3 st hQ
  subst l1 l2 l3
  obtain ⟨s₂, o, h1, rr⟩ := nx v T'.heap hQ.1 T' _ X' rfl (Fr.app N hQ.2)
  exact ⟨s₂, o, st _ h1, rr⟩
theorem G.callI (C : Cx p s m meth c Z y bytes maxL ret) {z : MethodName} {zb : ByteArray} {zl : Nat} {Rz : Room} {a : Addr} {av : List Value} {Qz : Option Value → Heap → Prop} {ix W : Nat} {ps : List FieldType} {r : Option FieldType} {St : List Value} (hz1 : z.name = "<init>")
    (w1 : (Jvm.Cond.methodLink y.cls ix z).before a0 Z = true) (w2 : (Jvm.Cond.instanceMethod z).before a0 Z = true) (w3 : (Jvm.Cond.initialized z.cls).before a0 Z = true) (w4 : (Jvm.Cond.code z zb zl none).before a0 Z = true)
    (hz : z.cls ≠ "java/lang/invoke/MethodHandle" ∧ z.cls ≠ "java/lang/invoke/VarHandle") (K : Con l Z z zb zl none Rz (.ref a :: av).toArray h n0 Qz) (hps : parseMethodDescriptor z.desc = some ⟨ps, r⟩) (hlen : av.length = ps.length) (hls : Ls.size = maxL)
    (hd : decode bytes pc = .ok (.invokespecial ix, 3)) (hst : St = av.reverse ++ .ref a :: S) (hW : (S.map fun v => v.category).sum ≤ W) (hf : Rz.frames + 1 ≤ R.frames) (hl : W + (zl + 11) + Rz.locals ≤ R.locals) (hk : k + Rz.cells ≤ R.cells) (hn : n + Rz.slots ≤ R.slots) (hp : pc + 3 = pc')
    (nx : ∀ v h', Qz v h' → G p l e R s m args below meth c n0 P h' (k + Rz.cells) (n + Rz.slots) (mkF m pc' Ls (v.toList ++ S))) : G p l e R s m args below meth c n0 P h k n (mkF m pc Ls St) := fun T locs X eT N => by
  subst hp hst
  obtain ⟨v, _, ⟨T', L', k', n'⟩, -, X', ⟨Lc, hQ, l1, l2, l3⟩, st⟩ := X.specialBack C.1 (y := z) hz1 C.2.2.2.2.1 (mvT C.2.1 w1) (mvT C.2.1 w2) (mvT C.2.1 w4) hz (backOf (Q := fun v z L => Qz v z ∧ Fr n0 L) (W := W) (K []) C.2.1 w4 w3 hf hl) (g := mkF m pc Ls (av.reverse ++ .ref a :: S)) rfl (by rw [C.2.2.2.1]; exact hls) (Steps.refl _) (a := a) (argsL := av) (rest := S) (lenOf hps hlen) rfl (cat_sum hW) (hb C.2.2.1 hd) (fun _ _ => ⟨rfl, eT, hk, hn⟩)
  dsimp only [Pt.U, Pt.locs, Pt.cells, Pt.slots] at X' l1 l2 l3 st hQ
  subst l1 l2 l3
  obtain ⟨s₂, o, h1, rr⟩ := nx v T'.heap hQ.1 T' _ X' rfl (Fr.app N hQ.2)
  exact ⟨s₂, o, st.trans h1, rr⟩
theorem G.callV (C : Cx p s m meth c Z y bytes maxL ret) {z : MethodName} {zb : ByteArray} {zl : Nat} {zr : Option FieldType} {Rz : Room} {a : Addr} {av : List Value} {Qz : Option Value → Heap → Prop} {ix W : Nat} {ps : List FieldType} {r : Option FieldType} {St : List Value} {D : String}
    (w1 : (Jvm.Cond.methodLink y.cls ix z).before a0 Z = true) (w2 : (Jvm.Cond.instanceMethod z).before a0 Z = true) (w3 : (Jvm.Cond.initialized z.cls).before a0 Z = true) (w4 : (Jvm.Cond.code z zb zl zr).before a0 Z = true) (w5 : (Jvm.Cond.declares z).before a0 Z = true) (w6 : (Jvm.Cond.selects D z z).before a0 Z = true) (E : Exa Z h a D)
    (hz : z.cls ≠ "java/lang/invoke/MethodHandle" ∧ z.cls ≠ "java/lang/invoke/VarHandle") (K : Con l Z z zb zl zr Rz (.ref a :: av).toArray h n0 Qz) (hps : parseMethodDescriptor z.desc = some ⟨ps, r⟩) (hlen : av.length = ps.length) (hls : Ls.size = maxL)
    (hd : decode bytes pc = .ok (.invokevirtual ix, 3)) (hst : St = av.reverse ++ .ref a :: S) (hW : (S.map fun v => v.category).sum ≤ W) (hf : Rz.frames + 1 ≤ R.frames) (hl : W + (zl + 11) + Rz.locals ≤ R.locals) (hk : k + Rz.cells ≤ R.cells) (hn : n + Rz.slots ≤ R.slots) (hp : pc + 3 = pc')
    (nx : ∀ v h', Qz v h' → G p l e R s m args below meth c n0 P h' (k + Rz.cells) (n + Rz.slots) (mkF m pc' Ls (v.toList ++ S))) : G p l e R s m args below meth c n0 P h k n (mkF m pc Ls St) := fun T locs X eT N => by
  subst hp hst
  obtain ⟨cq, kq, qa, qb, qc⟩ := isOf C.2.1 eT E
  obtain ⟨v, _, ⟨T', L', k', n'⟩, -, X', ⟨Lc, hQ, l1, l2, l3⟩, st⟩ := X.virtualBack C.1 (y := z) (z := z) C.2.2.2.2.1 (mvT C.2.1 w1) (mvT C.2.1 w5) (notFace_of_selects (args := #[]) (mvT C.2.1 w6)) (mvT C.2.1 w6) (mvT C.2.1 w2) hz (backOf (Q := fun v z L => Qz v z ∧ Fr n0 L) (W := W) (K []) C.2.1 w4 w3 hf hl) qa qc (g := mkF m pc Ls (av.reverse ++ .ref a :: S)) rfl (by rw [C.2.2.2.1]; exact hls) (Steps.refl _) (argsL := av) (rest := S) (lenOf hps hlen) rfl (cat_sum hW) (hb C.2.2.1 hd) (fun _ _ => ⟨rfl, eT, hk, hn⟩)
  dsimp only [Pt.U, Pt.locs, Pt.cells, Pt.slots] at X' l1 l2 l3 st hQ
  subst l1 l2 l3
  obtain ⟨s₂, o, h1, rr⟩ := nx v T'.heap hQ.1 T' _ X' rfl (Fr.app N hQ.2)
  exact ⟨s₂, o, st.trans h1, rr⟩
def Pn (h : Heap) : Option Value → Heap → Prop := fun v h' => v = none ∧ h' = h
/-- a value is handed back, the heap as it was -/
def Pv (u : Value) (h : Heap) : Option Value → Heap → Prop := fun v h' => v = some u ∧ h' = h
theorem G.callSP (C : Cx p s m meth c Z y bytes maxL ret) {z : MethodName} {zb : ByteArray} {zl : Nat} {zr : Option FieldType} {Rz : Room} {av : List Value} {u : Value} {ix W : Nat} {ps : List FieldType} {r : Option FieldType} {St : List Value}
    (w1 : (Jvm.Cond.methodLink y.cls ix z).before a0 Z = true) (w2 : (Jvm.Cond.static z).before a0 Z = true) (w3 : (Jvm.Cond.initialized z.cls).before a0 Z = true) (w4 : (Jvm.Cond.code z zb zl zr).before a0 Z = true)
    (hz : z.cls ≠ "java/lang/invoke/MethodHandle" ∧ z.cls ≠ "java/lang/invoke/VarHandle") (K : Con l Z z zb zl zr Rz av.toArray h n0 (Pv u h)) (hps : parseMethodDescriptor z.desc = some ⟨ps, r⟩) (hlen : av.length = ps.length) (hls : Ls.size = maxL)
    (hd : decode bytes pc = .ok (.invokestatic ix, 3)) (hst : St = av.reverse ++ S) (hW : (S.map fun v => v.category).sum ≤ W) (hf : Rz.frames + 1 ≤ R.frames) (hl : W + (zl + 11) + Rz.locals ≤ R.locals) (h0 : Rz.cells = 0) (h1 : Rz.slots = 0) (hk : k ≤ R.cells) (hn : n ≤ R.slots) (hp : pc + 3 = pc')
    (nx : G p l e R s m args below meth c n0 P h k n (mkF m pc' Ls (u :: S))) : G p l e R s m args below meth c n0 P h k n (mkF m pc Ls St) :=
  G.callS C w1 w2 w3 w4 hz K hps hlen hls hd hst hW hf hl (by rw [h0]; exact hk) (by rw [h1]; exact hn) hp fun v h' hq => by
    obtain ⟨rfl, rfl⟩ := hq; rw [h0, h1]; exact nx
theorem G.callVP (C : Cx p s m meth c Z y bytes maxL ret) {z : MethodName} {zb : ByteArray} {zl : Nat} {zr : Option FieldType} {Rz : Room} {a : Addr} {av : List Value} {u : Value} {ix W : Nat} {ps : List FieldType} {r : Option FieldType} {St : List Value} {D : String}
    (w1 : (Jvm.Cond.methodLink y.cls ix z).before a0 Z = true) (w2 : (Jvm.Cond.instanceMethod z).before a0 Z = true) (w3 : (Jvm.Cond.initialized z.cls).before a0 Z = true) (w4 : (Jvm.Cond.code z zb zl zr).before a0 Z = true) (w5 : (Jvm.Cond.declares z).before a0 Z = true) (w6 : (Jvm.Cond.selects D z z).before a0 Z = true) (E : Exa Z h a D)
    (hz : z.cls ≠ "java/lang/invoke/MethodHandle" ∧ z.cls ≠ "java/lang/invoke/VarHandle") (K : Con l Z z zb zl zr Rz (.ref a :: av).toArray h n0 (Pv u h)) (hps : parseMethodDescriptor z.desc = some ⟨ps, r⟩) (hlen : av.length = ps.length) (hls : Ls.size = maxL)
    (hd : decode bytes pc = .ok (.invokevirtual ix, 3)) (hst : St = av.reverse ++ .ref a :: S) (hW : (S.map fun v => v.category).sum ≤ W) (hf : Rz.frames + 1 ≤ R.frames) (hl : W + (zl + 11) + Rz.locals ≤ R.locals) (h0 : Rz.cells = 0) (h1 : Rz.slots = 0) (hk : k ≤ R.cells) (hn : n ≤ R.slots) (hp : pc + 3 = pc')
    (nx : G p l e R s m args below meth c n0 P h k n (mkF m pc' Ls (u :: S))) : G p l e R s m args below meth c n0 P h k n (mkF m pc Ls St) :=
  G.callV C w1 w2 w3 w4 w5 w6 E hz K hps hlen hls hd hst hW hf hl (by rw [h0]; exact hk) (by rw [h1]; exact hn) hp fun v h' hq => by
    obtain ⟨rfl, rfl⟩ := hq; rw [h0, h1]; exact nx
/-- Keep, and the cells of statics as they were -/
def Kp (h h' : Heap) (ws : List Addr) : Prop := Keep h h' ws ∧ ∀ (x : Addr) (c : Cell), h[x]? = some c → c.vm.isStatics = true → h'[x]? = some c
theorem Kp.refl (h : Heap) (ws : List Addr) : Kp h h ws := ⟨Keep.refl _ _, fun _ _ q _ => q⟩
theorem Kp.ext {h1 h2 : Heap} {ws : List Addr} (K : Kp h h1 ws) (E : Ext h1 h2) : Kp h h2 ws := ⟨K.1.ext E, fun x c q r => E.2 x c (K.2 x c q r)⟩
theorem Kp.wr {h1 h2 : Heap} {ws : List Addr} {a : Addr} {sl : Nat} {v : Value} (K : Kp h h1 ws) (W : Wr h1 h2 a sl v) (q : a ∈ ws ∨ h.size ≤ a) : Kp h h2 ws := ⟨K.1.wr W q, fun x c q r => by
  have h1x := K.2 x c q r
  obtain ⟨cb, w1, w2, -⟩ := id W
  obtain ⟨cb', e1, -, -, -, e5, -⟩ := wr_at W h1x
  by_cases z : x = a
  · subst z; cases h1x.symm.trans w1; rw [r] at w2; cases w2
  · rw [e1, e5 z]⟩
theorem Kp.trans {h1 h2 : Heap} {ws ws' : List Addr} (K : Kp h h1 ws) (K' : Kp h1 h2 ws') (q : ∀ x ∈ ws', x ∈ ws ∨ h.size ≤ x) : Kp h h2 ws := ⟨K.1.trans K'.1 q, fun x c r z => K'.2 x c (K.2 x c r z) z⟩
theorem Sta.kp {h1 : Heap} {O nm d : String} {v : Value} {ws : List Addr} (K : Kp h h1 ws) (F : Sta Z h O nm d v) : Sta Z h1 O nm d v := by
  obtain ⟨cf, i, k, f, st, cell, q1, q2, q3, q4, q5, q6, q7⟩ := F
  exact ⟨cf, i, k, f, st, cell, q1, q2, q3, q4, K.2 _ _ q5 q6, q6, q7⟩
theorem G.acmpne (C : Cx p s m meth c Z y bytes maxL ret) {o : Int} {a b : Addr} (hd : decode bytes pc = .ok (.if_acmp .ne o, 3)) (ho : 0 ≤ (pc : Int) + o) (ht : ((pc : Int) + o).toNat = pt) (hp : pc + 3 = pc') (yes : ¬ (a = b) → G p l e R s m args below meth c n0 P h k n (mkF m pt Ls S)) (no : a = b → G p l e R s m args below meth c n0 P h k n (mkF m pc' Ls S)) : G p l e R s m args below meth c n0 P h k n (mkF m pc Ls (.ref b :: .ref a :: S)) := by
  by_cases q : a = b
  · exact G.pl (fun T locs X eT t k => Jvm.RoadKit.acmp (g := mkF m pc Ls (.ref b :: .ref a :: S)) X C.1 rfl rfl rfl (pc0 := pc) (pc' := pc') (same := true) rfl (hb C.2.2.1 hd) rfl (decide_eq_true (congrArg Value.ref q)) ho hp.symm k) (no q)
  · exact G.pl (fun T locs X eT t k => Jvm.RoadKit.acmp (g := mkF m pc Ls (.ref b :: .ref a :: S)) X C.1 rfl rfl rfl (pc0 := pc) (pc' := pt) (same := false) rfl (hb C.2.2.1 hd) rfl (decide_eq_false fun r => q (Value.ref.inj r)) ho ht.symm k) (yes q)
theorem G.acmpeq (C : Cx p s m meth c Z y bytes maxL ret) {o : Int} {a b : Addr} (hd : decode bytes pc = .ok (.if_acmp .eq o, 3)) (ho : 0 ≤ (pc : Int) + o) (ht : ((pc : Int) + o).toNat = pt) (hp : pc + 3 = pc') (yes : a = b → G p l e R s m args below meth c n0 P h k n (mkF m pt Ls S)) (no : ¬ (a = b) → G p l e R s m args below meth c n0 P h k n (mkF m pc' Ls S)) : G p l e R s m args below meth c n0 P h k n (mkF m pc Ls (.ref b :: .ref a :: S)) := by
  by_cases q : a = b
  · exact G.pl (fun T locs X eT t k => Jvm.RoadKit.acmp (g := mkF m pc Ls (.ref b :: .ref a :: S)) X C.1 rfl rfl rfl (pc0 := pc) (pc' := pt) (same := true) rfl (hb C.2.2.1 hd) rfl (decide_eq_true (congrArg Value.ref q)) ho ht.symm k) (yes q)
  · exact G.pl (fun T locs X eT t k => Jvm.RoadKit.acmp (g := mkF m pc Ls (.ref b :: .ref a :: S)) X C.1 rfl rfl rfl (pc0 := pc) (pc' := pc') (same := false) rfl (hb C.2.2.1 hd) rfl (decide_eq_false fun r => q (Value.ref.inj r)) ho hp.symm k) (no q)
theorem own_eqi {args : Array Value} {first s : State} {o : Option Outcome} {idx : List Nat} {t : Term} {z : Int32} (h : (Jvm.Cond.eq t (.int z)).value args first o s idx = some true) : t.eval args first o idx s = some (.int z) := by
  simp only [Cond.value] at h
  cases ht : t.eval args first o idx s with
  | none => simp [ht] at h
  | some x => cases x <;> simp [ht, Term.eval] at h ⊢; exact h
theorem own_sta_keep {O nm d : String} {v : Value} {h' : Heap} {ws : List Addr} (K : Keep h h' ws) (F : Sta Z h O nm d v) (hs : ∀ x ∈ ws, ∀ cell : Cell, h[x]? = some cell → cell.vm.isStatics = false) : Sta Z h' O nm d v := by
  obtain ⟨cf, i, k, f, st, cell, h1, h2, h3, h4, h5, h6, h7⟩ := F
  refine ⟨cf, i, k, f, st, cell, h1, h2, h3, h4, K.2.1 _ _ h5 (fun q => ?_), h6, h7⟩
  rw [hs st q cell h5] at h6; cases h6
theorem G.getF (C : Cx p s m meth c Z y bytes maxL ret) {ix : Nat} {O nm d : String} {a : Addr} {v : Value} (w : (Jvm.Cond.fieldLink y.cls ix O nm d).before a0 Z = true) (F : Fld Z h a O nm d v) (hd : decode bytes pc = .ok (.getfield ix, 3)) (hp : pc + 3 = pc') (nx : G p l e R s m args below meth c n0 P h k n (mkF m pc' Ls (v :: S))) : G p l e R s m args below meth c n0 P h k n (mkF m pc Ls (.ref a :: S)) := by
  subst hp; exact G.mv (fun T locs X eT => Jvm.RoadKit.getF X C.1 C.2.1 C.2.2.2.2.1 (host := "") (Or.inl w) Via.refl eT F (g := mkF m pc Ls (.ref a :: S)) rfl rfl (hb C.2.2.1 hd)) nx
theorem G.getS (C : Cx p s m meth c Z y bytes maxL ret) {ix : Nat} {O nm d : String} {v : Value} (w : (Jvm.Cond.fieldLink y.cls ix O nm d).before a0 Z = true) (F : Sta Z h O nm d v) (hd : decode bytes pc = .ok (.getstatic ix, 3)) (hp : pc + 3 = pc') (nx : G p l e R s m args below meth c n0 P h k n (mkF m pc' Ls (v :: S))) : G p l e R s m args below meth c n0 P h k n (mkF m pc Ls S) := by
  subst hp; exact G.mv (fun T locs X eT => Jvm.RoadKit.getS2 X C.1 C.2.1 C.2.2.2.2.1 (host := "") (Or.inl w) Via.refl eT F (g := mkF m pc Ls S) rfl (hb C.2.2.1 hd)) nx
theorem G.putF (C : Cx p s m meth c Z y bytes maxL ret) {ix kk : Nat} {O nm d D : String} {ty : FieldType} {a : Addr} {v old : Value} (w : (Jvm.Cond.fieldLink y.cls ix O nm d).before a0 Z = true) (F : Fld Z h a O nm d old) (E : Exa Z h a D) (La : (Jvm.Cond.lays D O nm d).before a0 Z = true ∨ ((Jvm.Cond.laysFinal D O nm d).before a0 Z = true ∧ y.cls = O ∧ y.name = "<init>")) (wi : (Jvm.Cond.instantiable D kk).before a0 Z = true)
    (hty : parseFieldDescriptor d = some ty) (hn : narrow ty v = v) (hf : fits ty v = true) (ha : n0 ≤ a) (hd : decode bytes pc = .ok (.putfield ix, 3)) (hp : pc + 3 = pc') (nx : ∀ h', Wr h h' a (Jvm.RoadKit.slotOf Z O nm d) v → G p l e R s m args below meth c n0 P h' k n (mkF m pc' Ls S)) : G p l e R s m args below meth c n0 P h k n (mkF m pc Ls (v :: .ref a :: S)) := fun T locs X eT N => by
  subst hp
  obtain ⟨T', h', X', e', W, st⟩ := Jvm.RoadKit.putF X C.1 C.2.1 C.2.2.2.2.1 (host := "") (Or.inl w) Via.refl eT F E (La.imp id fun q => ⟨q.1, q.2.1, C.2.2.2.2.2.1.trans q.2.2⟩) wi hty hn hf (g := mkF m pc Ls (v :: .ref a :: S)) rfl rfl (hb C.2.2.1 hd)
  obtain ⟨s₂, o, h1, rr⟩ := nx h' W T' _ X' e' (Fr.snoc X' N ha)
  exact ⟨s₂, o, st _ h1, rr⟩
theorem G.newO (C : Cx p s m meth c Z y bytes maxL ret) {ix sl : Nat} {D : String} (w : (Jvm.Cond.classLink y.cls ix D).before a0 Z = true) (wi : (Jvm.Cond.instantiable D sl).before a0 Z = true) (wz : (Jvm.Cond.initialized D).before a0 Z = true) (hd : decode bytes pc = .ok (.new ix, 3)) (hk : k + 1 ≤ R.cells) (hn : n + sl ≤ R.slots) (hp : pc + 3 = pc')
    (nx : ∀ h' a, a = h.size → Ext h h' → Exa Z h' a D → (∀ {O nm d : String} {ty : FieldType}, Laid Z a0 D O nm d → parseFieldDescriptor d = some ty → Fld Z h' a O nm d (defaultValue ty)) → G p l e R s m args below meth c n0 P h' (k + 1) (n + sl) (mkF m pc' Ls (.ref a :: S))) : G p l e R s m args below meth c n0 P h k n (mkF m pc Ls S) := fun T locs X eT N => by
  subst hp
  obtain ⟨T', h', X', e', E, A, D', -, st⟩ := Jvm.RoadKit.newO X C.1 C.2.1 C.2.2.2.2.1 w wi wz eT (g := mkF m pc Ls S) rfl (hb C.2.2.1 hd) hk hn
  obtain ⟨s₂, o, h1, rr⟩ := nx h' _ rfl E A D' T' _ X' e' N
  exact ⟨s₂, o, st _ h1, rr⟩
theorem G.initO (C : Cx p s m meth c Z y bytes maxL ret) {ix W : Nat} {a : Addr} (w1 : (Jvm.Cond.methodLink y.cls ix Lib.objectInit).before a0 Z = true) (w2 : (Jvm.Cond.instanceMethod Lib.objectInit).before a0 Z = true) (w3 : (Jvm.Cond.code Lib.objectInit ⟨#[0xb1]⟩ 1 none).before a0 Z = true) (hls : Ls.size = maxL) (hd : decode bytes pc = .ok (.invokespecial ix, 3)) (hf : 1 ≤ R.frames) (hW : (S.map fun v => v.category).sum ≤ W) (hl : W + 12 ≤ R.locals) (hp : pc + 3 = pc')
    (nx : G p l e R s m args below meth c n0 P h k n (mkF m pc' Ls S)) : G p l e R s m args below meth c n0 P h k n (mkF m pc Ls (.ref a :: S)) := by
  subst hp; exact G.mv (fun T locs X eT => Jvm.RoadKit.initO X C.1 C.2.1 C.2.2.2.2.1 w1 w2 w3 eT (g := mkF m pc Ls (.ref a :: S)) rfl (by rw [C.2.2.2.1]; exact hls) rfl (hb C.2.2.1 hd) hf (cat_sum hW) hl) nx
theorem G.ifnull (C : Cx p s m meth c Z y bytes maxL ret) {o : Int} (hd : decode bytes pc = .ok (.ifnull o, 3)) (ho : 0 ≤ (pc : Int) + o) (ht : ((pc : Int) + o).toNat = pt) (nx : G p l e R s m args below meth c n0 P h k n (mkF m pt Ls S)) : G p l e R s m args below meth c n0 P h k n (mkF m pc Ls (.null :: S)) :=
  G.pl (fun T locs X eT t q => XS.ifnullYes X.here C.1 rfl (pc0 := pc) (pc' := pt) rfl (hb C.2.2.1 hd) rfl ho ht q) nx
theorem G.ifnullR (C : Cx p s m meth c Z y bytes maxL ret) {o : Int} {a : Addr} (hd : decode bytes pc = .ok (.ifnull o, 3)) (hp : pc + 3 = pc') (nx : G p l e R s m args below meth c n0 P h k n (mkF m pc' Ls S)) : G p l e R s m args below meth c n0 P h k n (mkF m pc Ls (.ref a :: S)) := by
  subst hp; exact G.pl (fun T locs X eT t q => XS.ifnullNo X.here C.1 rfl (hb C.2.2.1 hd) rfl q) nx
theorem G.ifnonnull (C : Cx p s m meth c Z y bytes maxL ret) {o : Int} (hd : decode bytes pc = .ok (.ifnonnull o, 3)) (hp : pc + 3 = pc') (nx : G p l e R s m args below meth c n0 P h k n (mkF m pc' Ls S)) : G p l e R s m args below meth c n0 P h k n (mkF m pc Ls (.null :: S)) := by
  subst hp; exact G.pl (fun T locs X eT t q => XS.ifnonnullNo X.here C.1 rfl (hb C.2.2.1 hd) rfl q) nx
theorem G.ifnonnullR (C : Cx p s m meth c Z y bytes maxL ret) {o : Int} {a : Addr} (hd : decode bytes pc = .ok (.ifnonnull o, 3)) (ho : 0 ≤ (pc : Int) + o) (ht : ((pc : Int) + o).toNat = pt) (nx : G p l e R s m args below meth c n0 P h k n (mkF m pt Ls S)) : G p l e R s m args below meth c n0 P h k n (mkF m pc Ls (.ref a :: S)) :=
  G.pl (fun T locs X eT t q => XS.ifnonnullYes X.here C.1 rfl (pc0 := pc) (pc' := pt) rfl (hb C.2.2.1 hd) rfl ho ht q) nx
theorem own_mvS {q : Jvm.Cond} (hZ : Z.Warmed39 s.vm) (h : q.before a0 Z = true) (hq : q ∈ Bundle.stringAtoms) : q.before args s = true := by
  simp only [Bundle.stringAtoms, List.mem_cons, List.not_mem_nil, or_false] at hq
  rcases hq with rfl | rfl | rfl | rfl | rfl | rfl | rfl
  · exact mvT hZ h
  · exact mvT hZ h
  · exact Jvm.RoadKit.mvA hZ h
  · exact mvT hZ h
  · exact mvT hZ h
  · exact mvT hZ h
  · exact mvT hZ h
/-- as Q says, within the room, seen from the state s; constants may have been interned -/
def Ww (s : State) (R : Room) (n0 : Nat) (Q : Option Value → Heap → Prop) : Option Value → State → Prop := fun v t => Q v t.heap ∧ ∃ L, Fr n0 L ∧ ReturnedEndW s (.returned v) t L R.cells R.slots
theorem Ww.of {v : Option Value} {t : State} (h : Wst s R n0 Q v t) : Ww s R n0 Q v t := by
  obtain ⟨h1, L, h2, h3⟩ := h
  exact ⟨h1, L, h2, ReturnedEndW.of_narrow h3.1 h3.2.1 h3.2.2⟩
theorem G.narrow (nx : G p l e R s m args below meth c n0 (Wst s R n0 Q) h k n f) : G p l e R s m args below meth c n0 (Ww s R n0 Q) h k n f := G.imp nx fun _ _ q => Ww.of q
/-- the contract of a law whose road may intern -/
def ConW (l : Launch) (Z : State) (y : MethodName) (bytes : ByteArray) (maxL : Nat) (ret : Option FieldType) (R : Room) (av : Array Value) (h : Heap) (n0 : Nat) (Q : Option Value → Heap → Prop) : Prop :=
  ∀ ws : List Jvm.Cond, MetFree l y (head1 (Jvm.Cond.code y bytes maxL ret :: ws) R) (fun a U => a = av ∧ Z.Warmed39 U.vm ∧ U.heap = h) (fun _ _ _ _ _ => True) (fun _ U o U' => ∃ v L, o = .returned v ∧ (Q v U'.heap ∧ Fr n0 L) ∧ ReturnedEndW U o U' L R.cells R.slots)
theorem ConW.of {av : Array Value} (hy : plainFor y = true) (ef : ∀ m, entryFrame m av maxL = mkF m 0 Ls [])
    (body : ∀ p e s m below meth c, Cx p s m meth c Z y bytes maxL ret → G p l e R s m av below meth c n0 (Ww s R n0 Q) h 0 0 (mkF m 0 Ls [])) : ConW l Z y bytes maxL ret R av h n0 Q := by
  intro ws
  refine MetFree.of_bodySF hy hisR ?_
  intro p e s m args below meth c s₁ Bd hml0 hP hK
  obtain ⟨rfl, hZ, hh⟩ := hP
  have X0 : Stand p l e R s m _ below meth c s₁ [] 0 0 := Stand.of_body Bd
  have e0 : s₁.heap = h := by rw [← hh, Bd.state]; rfl
  obtain ⟨s₂, v, h1, h2, h3, h4, L, h5, h6⟩ := body p e s m below meth c ⟨Bd.exec, hZ, Bd.bytes, hml0, findClass_of_methodNamed Bd.named, (name_of_methodNamed Bd.named Bd.method).1, Bd.returns, Bd.notSynchronized⟩ s₁ [] X0 e0 (Fr.nil n0)
  exact ⟨s₂, _, castTop (ef m) h1, h2, h3, v, L, rfl, ⟨h4, h5⟩, h6⟩
theorem G.ldcS (C : Cx p s m meth c Z y bytes maxL ret) {ix nn : Nat} {text : String} (w : (Jvm.Cond.stringLink y.cls ix text).before a0 Z = true) (hS : ∀ a ∈ Bundle.stringAtoms, a.before a0 Z = true) (hd : decode bytes pc = .ok (.ldc ix, 2)) (hn4 : 4 * text.toList.length ≤ nn) (hbig : nn ≤ 536870912) (hk : k + 2 ≤ R.cells) (hn : n + (nn + 4) ≤ R.slots) (hp : pc + 2 = pc')
    (nx : ∀ (s' : State) (h' : Heap) (a : Addr), Ext h h' → Cx p s' m meth c Z y bytes maxL ret → G p l e R s' m args below meth c n0 (Wst s' R n0 (fun v z => Q v z ∧ h'.size ≤ z.size)) h' (k + 2) (n + (nn + 4)) (mkF m pc' Ls (.ref a :: S))) : G p l e R s m args below meth c n0 (Ww s R n0 Q) h k n (mkF m pc Ls S) := fun T locs X eT N => by
  subst hp
  obtain ⟨a, T₂, X₂, hS2, -, hheap, hI, st⟩ := X.ldcStringCold C.1 C.2.2.2.2.1 (by have q := Jvm.RoadKit.mvS (s := s) (args := args) C.2.1 w; rwa [State.setVm_self] at q) (fun q hq => own_mvS C.2.1 (hS q hq) hq) (g := mkF m pc Ls S) rfl (hb C.2.2.1 hd) hn4 hbig hk hn
  have E : Ext h T₂.heap := ⟨by rw [← eT]; exact hI.1, fun x cl hx => by rw [hheap x (by rw [eT]; exact (Array.getElem?_eq_some_iff.mp hx).1), eT]; exact hx⟩
  have C' : Cx p (s.setVm T₂.vm) m meth c Z y bytes maxL ret := ⟨C.1, State.Warmed39.trans (t := s) C.2.1 hS2.1, C.2.2.1, C.2.2.2.1, by show T₂.vm.findClass y.cls = _; rw [hS2.1.alike.findClass]; exact C.2.2.2.2.1, C.2.2.2.2.2⟩
  obtain ⟨s₂, v, h1, h2, h3, ⟨hq, hsz⟩, L, hF, hE⟩ := nx (s.setVm T₂.vm) T₂.heap a E C' T₂ locs X₂ rfl N
  obtain ⟨r1, r2, r3⟩ := hS2.ended (U := s₂) hE.2.1 hsz hE.2.2
  exact ⟨s₂, v, st _ h1, h2, h3, hq, L, hF, ⟨_, rfl⟩, r1, r2, r3⟩
end Own
theorem pd0 : parseMethodDescriptor "(IIILjava/lang/String;)V" = some ⟨[.int, .int, .int, (.object "java/lang/String")], none⟩ := by decide +kernel
theorem pd1 : parseMethodDescriptor "()V" = some ⟨[], none⟩ := by decide +kernel
theorem pd2 : parseMethodDescriptor "(I)V" = some ⟨[.int], none⟩ := by decide +kernel
theorem pd3 : parseMethodDescriptor "(B)I" = some ⟨[.byte], some .int⟩ := by decide +kernel
theorem pd4 : parseMethodDescriptor "(B)Z" = some ⟨[.byte], some .boolean⟩ := by decide +kernel
def own_LB (Z : State) (h : Heap) (a : Addr) (v0 v1 v2 v3 : Value) : Prop := Exa Z h a "com/example/dobsonfly/dobsonfly/LeadByte" ∧ Fld Z h a "com/example/dobsonfly/dobsonfly/LeadByte" "mLength" "I" v0 ∧ Fld Z h a "com/example/dobsonfly/dobsonfly/LeadByte" "mSecondMin" "I" v1 ∧ Fld Z h a "com/example/dobsonfly/dobsonfly/LeadByte" "mSecondMax" "I" v2 ∧ Fld Z h a "com/example/dobsonfly/dobsonfly/LeadByte" "mNarrowedReason" "Ljava/lang/String;" v3
theorem own_LB.ext {Z : State} {h h' : Heap} {a : Addr} {v0 v1 v2 v3 : Value} (F : own_LB Z h a v0 v1 v2 v3) (E : Ext h h') : own_LB Z h' a v0 v1 v2 v3 := ⟨Exa.ext E F.1, Fld.ext E F.2.1, Fld.ext E F.2.2.1, Fld.ext E F.2.2.2.1, Fld.ext E F.2.2.2.2⟩
theorem own_LB.keep {Z : State} {h h' : Heap} {a : Addr} {v0 v1 v2 v3 : Value} {ws : List Addr} (F : own_LB Z h a v0 v1 v2 v3) (K : Kp h h' ws) (q : a ∉ ws) : own_LB Z h' a v0 v1 v2 v3 := ⟨Exa.keep F.1 K.1, Fld.keep F.2.1 K.1 q, Fld.keep F.2.2.1 K.1 q, Fld.keep F.2.2.2.1 K.1 q, Fld.keep F.2.2.2.2 K.1 q⟩
theorem own_LB.oth {Z : State} {h h' : Heap} {a b : Addr} {v0 v1 v2 v3 : Value} {sl : Nat} {u : Value} (F : own_LB Z h a v0 v1 v2 v3) (W : Wr h h' b sl u) (q : a ≠ b) : own_LB Z h' a v0 v1 v2 v3 := ⟨Exa.wr W F.1, Fld.other W F.2.1 (Or.inl q), Fld.other W F.2.2.1 (Or.inl q), Fld.other W F.2.2.2.1 (Or.inl q), Fld.other W F.2.2.2.2 (Or.inl q)⟩
theorem own_LB.w0 {Z : State} {a0 : Array Value} {h h' : Heap} {a : Addr} {v0 v1 v2 v3 : Value} {u : Value} (hw : ∀ d ∈ tables_1, d.before a0 Z = true) (F : own_LB Z h a v0 v1 v2 v3) (W : Wr h h' a (Jvm.RoadKit.slotOf Z "com/example/dobsonfly/dobsonfly/LeadByte" "mLength" "I") u) : own_LB Z h' a u v1 v2 v3 := ⟨Exa.wr W F.1, Fld.same W F.2.1, Fld.other W F.2.2.1 (Or.inr (slot_ne (C := "com/example/dobsonfly/dobsonfly/LeadByte") (Or.inr (twd hw 12 rfl)) (Or.inr (twd hw 10 rfl)) (by decide) (t := .int) (t' := .int) (by decide) (by decide))), Fld.other W F.2.2.2.1 (Or.inr (slot_ne (C := "com/example/dobsonfly/dobsonfly/LeadByte") (Or.inr (twd hw 14 rfl)) (Or.inr (twd hw 10 rfl)) (by decide) (t := .int) (t' := .int) (by decide) (by decide))), Fld.other W F.2.2.2.2 (Or.inr (slot_ne (C := "com/example/dobsonfly/dobsonfly/LeadByte") (Or.inr (twd hw 16 rfl)) (Or.inr (twd hw 10 rfl)) (by decide) (t := (.object "java/lang/String")) (t' := .int) (by decide) (by decide)))⟩
theorem own_LB.w1 {Z : State} {a0 : Array Value} {h h' : Heap} {a : Addr} {v0 v1 v2 v3 : Value} {u : Value} (hw : ∀ d ∈ tables_1, d.before a0 Z = true) (F : own_LB Z h a v0 v1 v2 v3) (W : Wr h h' a (Jvm.RoadKit.slotOf Z "com/example/dobsonfly/dobsonfly/LeadByte" "mSecondMin" "I") u) : own_LB Z h' a v0 u v2 v3 := ⟨Exa.wr W F.1, Fld.other W F.2.1 (Or.inr (slot_ne (C := "com/example/dobsonfly/dobsonfly/LeadByte") (Or.inr (twd hw 10 rfl)) (Or.inr (twd hw 12 rfl)) (by decide) (t := .int) (t' := .int) (by decide) (by decide))), Fld.same W F.2.2.1, Fld.other W F.2.2.2.1 (Or.inr (slot_ne (C := "com/example/dobsonfly/dobsonfly/LeadByte") (Or.inr (twd hw 14 rfl)) (Or.inr (twd hw 12 rfl)) (by decide) (t := .int) (t' := .int) (by decide) (by decide))), Fld.other W F.2.2.2.2 (Or.inr (slot_ne (C := "com/example/dobsonfly/dobsonfly/LeadByte") (Or.inr (twd hw 16 rfl)) (Or.inr (twd hw 12 rfl)) (by decide) (t := (.object "java/lang/String")) (t' := .int) (by decide) (by decide)))⟩
theorem own_LB.w2 {Z : State} {a0 : Array Value} {h h' : Heap} {a : Addr} {v0 v1 v2 v3 : Value} {u : Value} (hw : ∀ d ∈ tables_1, d.before a0 Z = true) (F : own_LB Z h a v0 v1 v2 v3) (W : Wr h h' a (Jvm.RoadKit.slotOf Z "com/example/dobsonfly/dobsonfly/LeadByte" "mSecondMax" "I") u) : own_LB Z h' a v0 v1 u v3 := ⟨Exa.wr W F.1, Fld.other W F.2.1 (Or.inr (slot_ne (C := "com/example/dobsonfly/dobsonfly/LeadByte") (Or.inr (twd hw 10 rfl)) (Or.inr (twd hw 14 rfl)) (by decide) (t := .int) (t' := .int) (by decide) (by decide))), Fld.other W F.2.2.1 (Or.inr (slot_ne (C := "com/example/dobsonfly/dobsonfly/LeadByte") (Or.inr (twd hw 12 rfl)) (Or.inr (twd hw 14 rfl)) (by decide) (t := .int) (t' := .int) (by decide) (by decide))), Fld.same W F.2.2.2.1, Fld.other W F.2.2.2.2 (Or.inr (slot_ne (C := "com/example/dobsonfly/dobsonfly/LeadByte") (Or.inr (twd hw 16 rfl)) (Or.inr (twd hw 14 rfl)) (by decide) (t := (.object "java/lang/String")) (t' := .int) (by decide) (by decide)))⟩
theorem own_LB.w3 {Z : State} {a0 : Array Value} {h h' : Heap} {a : Addr} {v0 v1 v2 v3 : Value} {u : Value} (hw : ∀ d ∈ tables_1, d.before a0 Z = true) (F : own_LB Z h a v0 v1 v2 v3) (W : Wr h h' a (Jvm.RoadKit.slotOf Z "com/example/dobsonfly/dobsonfly/LeadByte" "mNarrowedReason" "Ljava/lang/String;") u) : own_LB Z h' a v0 v1 v2 u := ⟨Exa.wr W F.1, Fld.other W F.2.1 (Or.inr (slot_ne (C := "com/example/dobsonfly/dobsonfly/LeadByte") (Or.inr (twd hw 10 rfl)) (Or.inr (twd hw 16 rfl)) (by decide) (t := .int) (t' := (.object "java/lang/String")) (by decide) (by decide))), Fld.other W F.2.2.1 (Or.inr (slot_ne (C := "com/example/dobsonfly/dobsonfly/LeadByte") (Or.inr (twd hw 12 rfl)) (Or.inr (twd hw 16 rfl)) (by decide) (t := .int) (t' := (.object "java/lang/String")) (by decide) (by decide))), Fld.other W F.2.2.2.1 (Or.inr (slot_ne (C := "com/example/dobsonfly/dobsonfly/LeadByte") (Or.inr (twd hw 14 rfl)) (Or.inr (twd hw 16 rfl)) (by decide) (t := .int) (t' := (.object "java/lang/String")) (by decide) (by decide))), Fld.same W F.2.2.2.2⟩
theorem own_LB.new {Z : State} {a0 : Array Value} {h : Heap} {a : Addr} (hw : ∀ d ∈ tables_1, d.before a0 Z = true) (E : Exa Z h a "com/example/dobsonfly/dobsonfly/LeadByte") (D : ∀ {O nm d : String} {ty : FieldType}, Laid Z a0 "com/example/dobsonfly/dobsonfly/LeadByte" O nm d → parseFieldDescriptor d = some ty → Fld Z h a O nm d (defaultValue ty)) : own_LB Z h a (.int 0) (.int 0) (.int 0) .null := ⟨E, D (Or.inr (twd hw 10 rfl)) (ty := .int) (by decide), D (Or.inr (twd hw 12 rfl)) (ty := .int) (by decide), D (Or.inr (twd hw 14 rfl)) (ty := .int) (by decide), D (Or.inr (twd hw 16 rfl)) (ty := (.object "java/lang/String")) (by decide)⟩
def own_in (lo u hi : Int32) : Bool := !decide (u < lo) && !decide (hi < u)
def own_uns (b : Int32) : Int32 := if b < 0 then b + (256 : Int32) else b
theorem own_byte (x : Int32) : -128 ≤ x.toInt8.toInt32.toInt ∧ x.toInt8.toInt32.toInt < 128 := (c_i2b x).2
theorem own_uns_eq (b : Int32) (h : -128 ≤ b.toInt ∧ b.toInt < 128) : own_uns b = b &&& (255 : Int32) := by
  apply Int32.toInt_inj.mp
  have m := c_mask b 255 8 (by decide) (by decide)
  have s := c_iadd b 256
  have r := rng32 (b + 256)
  have o : (256 : Int32).toInt = 256 := by decide
  unfold own_uns
  split
  · rename_i q
    have z : b.toInt < 0 := by simpa [Int32.lt_iff_toInt_lt] using q
    omega
  · rename_i q
    have z : ¬ b.toInt < 0 := by simpa [Int32.lt_iff_toInt_lt] using q
    omega
theorem own_plain (b : Int32) (h : -128 ≤ b.toInt ∧ b.toInt < 128) : own_in (128 : Int32) (b &&& (255 : Int32)) (191 : Int32) = (!decide (b < (-128 : Int32)) && !decide ((-65 : Int32) < b)) := by
  have m := c_mask b 255 8 (by decide) (by decide)
  unfold own_in
  have d1 : (128 : Int32).toInt = 128 := by decide
  have d2 : (191 : Int32).toInt = 191 := by decide
  have d3 : (-128 : Int32).toInt = -128 := by decide
  have d4 : (-65 : Int32).toInt = -65 := by decide
  have e1 : ((b &&& (255 : Int32)) < (128 : Int32)) ↔ (0 ≤ b.toInt) := by rw [Int32.lt_iff_toInt_lt]; omega
  have e2 : ((191 : Int32) < (b &&& (255 : Int32))) ↔ (-65 < b.toInt ∧ b.toInt < 0) := by rw [Int32.lt_iff_toInt_lt]; omega
  have e3 : (b < (-128 : Int32)) ↔ False := ⟨fun q => by rw [Int32.lt_iff_toInt_lt] at q; omega, fun q => q.elim⟩
  have e4 : ((-65 : Int32) < b) ↔ (-65 < b.toInt) := by rw [Int32.lt_iff_toInt_lt]; omega
  rw [Bool.eq_iff_iff]
  simp only [Bool.and_eq_true, Bool.not_eq_true', decide_eq_false_iff_not, e1, e2, e3, e4, not_false_eq_true, true_and]
  omega
theorem own_sa {Z : State} {a0 : Array Value} (hw : ∀ d ∈ tables_1, d.before a0 Z = true) : ∀ a ∈ Bundle.stringAtoms, a.before a0 Z = true := by
  intro q hq
  simp only [Bundle.stringAtoms, List.mem_cons, List.not_mem_nil, or_false] at hq
  rcases hq with rfl | rfl | rfl | rfl | rfl | rfl | rfl
  · exact twd hw 31 rfl
  · exact twd hw 32 rfl
  · exact twd hw 33 rfl
  · exact twd hw 34 rfl
  · exact twd hw 35 rfl
  · exact twd hw 36 rfl
  · exact twd hw 37 rfl
theorem d1_0 : decode prog_8_method_2_code 0 = .ok (.aload_n 0, 1) := by decide +kernel
theorem d1_1 : decode prog_8_method_2_code 1 = .ok (.invokespecial 7, 3) := by decide +kernel
theorem d1_4 : decode prog_8_method_2_code 4 = .ok (.aload_n 0, 1) := by decide +kernel
theorem d1_5 : decode prog_8_method_2_code 5 = .ok (.iload_n 1, 1) := by decide +kernel
theorem d1_6 : decode prog_8_method_2_code 6 = .ok (.putfield 12, 3) := by decide +kernel
theorem d1_9 : decode prog_8_method_2_code 9 = .ok (.aload_n 0, 1) := by decide +kernel
theorem d1_10 : decode prog_8_method_2_code 10 = .ok (.iload_n 2, 1) := by decide +kernel
theorem d1_11 : decode prog_8_method_2_code 11 = .ok (.putfield 16, 3) := by decide +kernel
theorem d1_14 : decode prog_8_method_2_code 14 = .ok (.aload_n 0, 1) := by decide +kernel
theorem d1_15 : decode prog_8_method_2_code 15 = .ok (.iload_n 3, 1) := by decide +kernel
theorem d1_16 : decode prog_8_method_2_code 16 = .ok (.putfield 19, 3) := by decide +kernel
theorem d1_19 : decode prog_8_method_2_code 19 = .ok (.aload_n 0, 1) := by decide +kernel
theorem d1_20 : decode prog_8_method_2_code 20 = .ok (.aload 4, 2) := by decide +kernel
theorem d1_22 : decode prog_8_method_2_code 22 = .ok (.putfield 22, 3) := by decide +kernel
theorem d1_25 : decode prog_8_method_2_code 25 = .ok (.return_, 1) := by decide +kernel
theorem pn0 : plainName "com/example/dobsonfly/dobsonfly/LeadByte" = true := by first | (simp [plainName, overriddenIn]; done) | decide +kernel
theorem ef_cR (m : MethodId) (a1 : Addr) (i2 : Int32) (i3 : Int32) (i4 : Int32) (a5 : Addr) : entryFrame m #[(.ref a1), (.int i2), (.int i3), (.int i4), (.ref a5)] 5 = mkF m 0 #[.val (.ref a1), .val (.int i2), .val (.int i3), .val (.int i4), .val (.ref a5)] [] := by first | (simp [entryFrame, mkF, argsToLocals, Value.category]; done) | rfl
set_option maxRecDepth 65536 in
set_option maxHeartbeats 40000000 in
theorem cR (l : Launch) (Z : State) (a0 : Array Value) (hw : ∀ d ∈ tables_1, d.before a0 Z = true) (a1 : Addr) (i2 : Int32) (i3 : Int32) (i4 : Int32) (a5 : Addr) (h : Heap) (n0 : Nat) (u0 u1 u2 u3 : Value) (ge : n0 ≤ a1) (O : own_LB Z h a1 u0 u1 u2 u3) : Con l Z (⟨"com/example/dobsonfly/dobsonfly/LeadByte", "<init>", "(IIILjava/lang/String;)V"⟩ : MethodName) prog_8_method_2_code 5 none ({ frames := 1, cells := 0, slots := 0, locals := 12 } : Room) #[(.ref a1), (.int i2), (.int i3), (.int i4), (.ref a5)] h n0 (fun v h' => v = none ∧ own_LB Z h' a1 (.int i2) (.int i3) (.int i4) (.ref a5) ∧ Kp h h' [a1]) := by
  refine Con.of (plainFor_of_name pn0) (fun m => ef_cR m a1 i2 i3 i4 a5) ?_
  intro p e s m below meth c C
  refine G.aloadN C d1_0 rfl rfl rfl ?_
  refine G.initO C (W := 0) (twd hw 6 rfl) (twd hw 7 rfl) (twd hw 8 rfl) rfl d1_1 (by decide) (Nat.le_of_eq rfl) (by decide) rfl ?_
  refine G.aloadN C d1_4 rfl rfl rfl ?_
  refine G.iloadN C d1_5 rfl rfl ?_
  refine G.putF C (twd hw 9 rfl) (O).2.1 (O).1 (Or.inr ⟨(twd hw 10 rfl), rfl, rfl⟩) (twd hw 1 rfl) (ty := .int) (by decide) rfl rfl ge d1_6 rfl (fun hn1 W6 => ?_)
  have kp2 := Kp.wr (Kp.refl h [a1]) W6 (Or.inl (by simp))
  have oc3 := own_LB.w0 hw O W6
  refine G.aloadN C d1_9 rfl rfl rfl ?_
  refine G.iloadN C d1_10 rfl rfl ?_
  refine G.putF C (twd hw 11 rfl) (oc3).2.2.1 (oc3).1 (Or.inr ⟨(twd hw 12 rfl), rfl, rfl⟩) (twd hw 1 rfl) (ty := .int) (by decide) rfl rfl ge d1_11 rfl (fun hn4 W11 => ?_)
  have kp5 := Kp.wr kp2 W11 (Or.inl (by simp))
  have oc6 := own_LB.w1 hw oc3 W11
  refine G.aloadN C d1_14 rfl rfl rfl ?_
  refine G.iloadN C d1_15 rfl rfl ?_
  refine G.putF C (twd hw 13 rfl) (oc6).2.2.2.1 (oc6).1 (Or.inr ⟨(twd hw 14 rfl), rfl, rfl⟩) (twd hw 1 rfl) (ty := .int) (by decide) rfl rfl ge d1_16 rfl (fun hn7 W16 => ?_)
  have kp8 := Kp.wr kp5 W16 (Or.inl (by simp))
  have oc9 := own_LB.w2 hw oc6 W16
  refine G.aloadN C d1_19 rfl rfl rfl ?_
  refine G.aload C d1_20 rfl rfl rfl ?_
  refine G.putF C (twd hw 15 rfl) (oc9).2.2.2.2 (oc9).1 (Or.inr ⟨(twd hw 16 rfl), rfl, rfl⟩) (twd hw 1 rfl) (ty := (.object "java/lang/String")) (by decide) rfl rfl ge d1_22 rfl (fun hn10 W22 => ?_)
  have kp11 := Kp.wr kp8 W22 (Or.inl (by simp))
  have oc12 := own_LB.w3 hw oc9 W22
  exact G.retV C d1_25 (by decide) (by decide) (⟨rfl, oc12, kp11⟩)
theorem ef_cN (m : MethodId) (a1 : Addr) (i2 : Int32) (i3 : Int32) (i4 : Int32) : entryFrame m #[(.ref a1), (.int i2), (.int i3), (.int i4), .null] 5 = mkF m 0 #[.val (.ref a1), .val (.int i2), .val (.int i3), .val (.int i4), .val .null] [] := by first | (simp [entryFrame, mkF, argsToLocals, Value.category]; done) | rfl
set_option maxRecDepth 65536 in
set_option maxHeartbeats 40000000 in
theorem cN (l : Launch) (Z : State) (a0 : Array Value) (hw : ∀ d ∈ tables_1, d.before a0 Z = true) (a1 : Addr) (i2 : Int32) (i3 : Int32) (i4 : Int32) (h : Heap) (n0 : Nat) (u0 u1 u2 u3 : Value) (ge : n0 ≤ a1) (O : own_LB Z h a1 u0 u1 u2 u3) : Con l Z (⟨"com/example/dobsonfly/dobsonfly/LeadByte", "<init>", "(IIILjava/lang/String;)V"⟩ : MethodName) prog_8_method_2_code 5 none ({ frames := 1, cells := 0, slots := 0, locals := 12 } : Room) #[(.ref a1), (.int i2), (.int i3), (.int i4), .null] h n0 (fun v h' => v = none ∧ own_LB Z h' a1 (.int i2) (.int i3) (.int i4) .null ∧ Kp h h' [a1]) := by
  refine Con.of (plainFor_of_name pn0) (fun m => ef_cN m a1 i2 i3 i4) ?_
  intro p e s m below meth c C
  refine G.aloadN C d1_0 rfl rfl rfl ?_
  refine G.initO C (W := 0) (twd hw 6 rfl) (twd hw 7 rfl) (twd hw 8 rfl) rfl d1_1 (by decide) (Nat.le_of_eq rfl) (by decide) rfl ?_
  refine G.aloadN C d1_4 rfl rfl rfl ?_
  refine G.iloadN C d1_5 rfl rfl ?_
  refine G.putF C (twd hw 9 rfl) (O).2.1 (O).1 (Or.inr ⟨(twd hw 10 rfl), rfl, rfl⟩) (twd hw 1 rfl) (ty := .int) (by decide) rfl rfl ge d1_6 rfl (fun hn1 W6 => ?_)
  have kp2 := Kp.wr (Kp.refl h [a1]) W6 (Or.inl (by simp))
  have oc3 := own_LB.w0 hw O W6
  refine G.aloadN C d1_9 rfl rfl rfl ?_
  refine G.iloadN C d1_10 rfl rfl ?_
  refine G.putF C (twd hw 11 rfl) (oc3).2.2.1 (oc3).1 (Or.inr ⟨(twd hw 12 rfl), rfl, rfl⟩) (twd hw 1 rfl) (ty := .int) (by decide) rfl rfl ge d1_11 rfl (fun hn4 W11 => ?_)
  have kp5 := Kp.wr kp2 W11 (Or.inl (by simp))
  have oc6 := own_LB.w1 hw oc3 W11
  refine G.aloadN C d1_14 rfl rfl rfl ?_
  refine G.iloadN C d1_15 rfl rfl ?_
  refine G.putF C (twd hw 13 rfl) (oc6).2.2.2.1 (oc6).1 (Or.inr ⟨(twd hw 14 rfl), rfl, rfl⟩) (twd hw 1 rfl) (ty := .int) (by decide) rfl rfl ge d1_16 rfl (fun hn7 W16 => ?_)
  have kp8 := Kp.wr kp5 W16 (Or.inl (by simp))
  have oc9 := own_LB.w2 hw oc6 W16
  refine G.aloadN C d1_19 rfl rfl rfl ?_
  refine G.aload C d1_20 rfl rfl rfl ?_
  refine G.putF C (twd hw 15 rfl) (oc9).2.2.2.2 (oc9).1 (Or.inr ⟨(twd hw 16 rfl), rfl, rfl⟩) (twd hw 1 rfl) (ty := (.object "java/lang/String")) (by decide) rfl rfl ge d1_22 rfl (fun hn10 W22 => ?_)
  have kp11 := Kp.wr kp8 W22 (Or.inl (by simp))
  have oc12 := own_LB.w3 hw oc9 W22
  exact G.retV C d1_25 (by decide) (by decide) (⟨rfl, oc12, kp11⟩)
theorem d3_0 : decode prog_8_method_1_code 0 = .ok (.aload_n 0, 1) := by decide +kernel
theorem d3_1 : decode prog_8_method_1_code 1 = .ok (.iload_n 1, 1) := by decide +kernel
theorem d3_2 : decode prog_8_method_1_code 2 = .ok (.sipush 128, 3) := by decide +kernel
theorem d3_5 : decode prog_8_method_1_code 5 = .ok (.sipush 191, 3) := by decide +kernel
theorem d3_8 : decode prog_8_method_1_code 8 = .ok (.aconst_null, 1) := by decide +kernel
theorem d3_9 : decode prog_8_method_1_code 9 = .ok (.invokespecial 1, 3) := by decide +kernel
theorem d3_12 : decode prog_8_method_1_code 12 = .ok (.return_, 1) := by decide +kernel
theorem ef_c3 (m : MethodId) (a1 : Addr) (i2 : Int32) : entryFrame m #[(.ref a1), (.int i2)] 2 = mkF m 0 #[.val (.ref a1), .val (.int i2)] [] := by first | (simp [entryFrame, mkF, argsToLocals, Value.category]; done) | rfl
set_option maxRecDepth 65536 in
set_option maxHeartbeats 40000000 in
theorem c3 (l : Launch) (Z : State) (a0 : Array Value) (hw : ∀ d ∈ tables_1, d.before a0 Z = true) (a1 : Addr) (i2 : Int32) (h : Heap) (n0 : Nat) (u0 u1 u2 u3 : Value) (ge : n0 ≤ a1) (O : own_LB Z h a1 u0 u1 u2 u3) : Con l Z (⟨"com/example/dobsonfly/dobsonfly/LeadByte", "<init>", "(I)V"⟩ : MethodName) prog_8_method_1_code 2 none ({ frames := 2, cells := 0, slots := 0, locals := 28 } : Room) #[(.ref a1), (.int i2)] h n0 (fun v h' => v = none ∧ own_LB Z h' a1 (.int i2) (.int (128 : Int32)) (.int (191 : Int32)) .null ∧ Kp h h' [a1]) := by
  refine Con.of (plainFor_of_name pn0) (fun m => ef_c3 m a1 i2) ?_
  intro p e s m below meth c C
  refine G.aloadN C d3_0 rfl rfl rfl ?_
  refine G.iloadN C d3_1 rfl rfl ?_
  refine G.sipush C d3_2 (v := (128 : Int32)) rfl rfl ?_
  refine G.sipush C d3_5 (v := (191 : Int32)) rfl rfl ?_
  refine G.aconst_null C d3_8 rfl ?_
  refine G.callI C (S := []) (W := 0) rfl (twd hw 20 rfl) (twd hw 4 rfl) (twd hw 2 rfl) (twd hw 5 rfl) (by decide) (cN l Z a0 hw a1 i2 (128 : Int32) (191 : Int32) h n0 _ _ _ _ ge O) pd0 rfl rfl d3_9 rfl (Nat.le_of_eq rfl) (by decide) (by decide) (by decide) (by decide) rfl (fun whp1 hp1 hq2 => ?_)
  obtain ⟨rfl, ob12, K12⟩ := hq2
  have kp3 := Kp.trans (Kp.refl h [a1]) K12 (by simp)
  show G p l e _ _ m _ below meth c n0 _ hp1 0 0 (mkF m 12 #[.val (.ref a1), .val (.int i2)] [])
  exact G.retV C d3_12 (by decide) (by decide) (⟨rfl, ob12, kp3⟩)
theorem d4_0 : decode method_3_code 0 = .ok (.iload_n 0, 1) := by decide +kernel
theorem d4_1 : decode method_3_code 1 = .ok (.ifCond .lt 5, 3) := by decide +kernel
theorem d4_4 : decode method_3_code 4 = .ok (.iload_n 0, 1) := by decide +kernel
theorem d4_5 : decode method_3_code 5 = .ok (.ireturn, 1) := by decide +kernel
theorem d4_6 : decode method_3_code 6 = .ok (.iload_n 0, 1) := by decide +kernel
theorem d4_7 : decode method_3_code 7 = .ok (.sipush 256, 3) := by decide +kernel
theorem d4_10 : decode method_3_code 10 = .ok (.iadd, 1) := by decide +kernel
theorem d4_11 : decode method_3_code 11 = .ok (.ireturn, 1) := by decide +kernel
theorem pn1 : plainName "com/example/dobsonfly/dobsonfly/LeadByteAllowsSecondPinLaw" = true := by first | (simp [plainName, overriddenIn]; done) | decide +kernel
theorem ef_c4 (m : MethodId) (i1 : Int32) : entryFrame m #[(.int i1)] 1 = mkF m 0 #[.val (.int i1)] [] := by first | (simp [entryFrame, mkF, argsToLocals, Value.category]; done) | rfl
set_option maxRecDepth 65536 in
set_option maxHeartbeats 40000000 in
theorem c4 (l : Launch) (Z : State) (a0 : Array Value) (hw : ∀ d ∈ tables_1, d.before a0 Z = true) (i1 : Int32) (h : Heap) (n0 : Nat)  : Con l Z (⟨"com/example/dobsonfly/dobsonfly/LeadByteAllowsSecondPinLaw", "unsigned", "(B)I"⟩ : MethodName) method_3_code 1 (some .int) ({ frames := 0, cells := 0, slots := 0, locals := 0 } : Room) #[(.int i1)] h n0 (Pv (.int (own_uns i1)) h) := by
  refine Con.of (plainFor_of_name pn1) (fun m => ef_c4 m i1) ?_
  intro p e s m below meth c C
  refine G.iloadN C d4_0 rfl rfl ?_
  refine G.iflt C d4_1 (by decide) (pt := 6) (by decide) rfl (fun hc1 => ?_) (fun hc1 => ?_)
  · refine G.iloadN C d4_6 rfl rfl ?_
    refine G.sipush C d4_7 (v := (256 : Int32)) rfl rfl ?_
    refine G.iadd C d4_10 rfl ?_
    exact G.retI C d4_11 (by decide) (by decide) (⟨by simp [own_uns, hc1], rfl⟩)
  · refine G.iloadN C d4_4 rfl rfl ?_
    exact G.retI C d4_5 (by decide) (by decide) (⟨by simp [own_uns, hc1], rfl⟩)
theorem d5_0 : decode prog_8_method_4_code 0 = .ok (.iload_n 1, 1) := by decide +kernel
theorem d5_1 : decode prog_8_method_4_code 1 = .ok (.sipush 255, 3) := by decide +kernel
theorem d5_4 : decode prog_8_method_4_code 4 = .ok (.iand, 1) := by decide +kernel
theorem d5_5 : decode prog_8_method_4_code 5 = .ok (.istore_n 2, 1) := by decide +kernel
theorem d5_6 : decode prog_8_method_4_code 6 = .ok (.iload_n 2, 1) := by decide +kernel
theorem d5_7 : decode prog_8_method_4_code 7 = .ok (.aload_n 0, 1) := by decide +kernel
theorem d5_8 : decode prog_8_method_4_code 8 = .ok (.getfield 16, 3) := by decide +kernel
theorem d5_11 : decode prog_8_method_4_code 11 = .ok (.if_icmp .lt 15, 3) := by decide +kernel
theorem d5_14 : decode prog_8_method_4_code 14 = .ok (.iload_n 2, 1) := by decide +kernel
theorem d5_15 : decode prog_8_method_4_code 15 = .ok (.aload_n 0, 1) := by decide +kernel
theorem d5_16 : decode prog_8_method_4_code 16 = .ok (.getfield 19, 3) := by decide +kernel
theorem d5_19 : decode prog_8_method_4_code 19 = .ok (.if_icmp .gt 7, 3) := by decide +kernel
theorem d5_22 : decode prog_8_method_4_code 22 = .ok (.iconst 1, 1) := by decide +kernel
theorem d5_23 : decode prog_8_method_4_code 23 = .ok (.goto 4, 3) := by decide +kernel
theorem d5_26 : decode prog_8_method_4_code 26 = .ok (.iconst 0, 1) := by decide +kernel
theorem d5_27 : decode prog_8_method_4_code 27 = .ok (.ireturn, 1) := by decide +kernel
theorem ef_c5 (m : MethodId) (a1 : Addr) (i2 : Int32) : entryFrame m #[(.ref a1), (.int i2)] 3 = mkF m 0 #[.val (.ref a1), .val (.int i2), .unset] [] := by first | (simp [entryFrame, mkF, argsToLocals, Value.category]; done) | rfl
set_option maxRecDepth 65536 in
set_option maxHeartbeats 40000000 in
theorem c5 (l : Launch) (Z : State) (a0 : Array Value) (hw : ∀ d ∈ tables_1, d.before a0 Z = true) (a1 : Addr) (i2 : Int32) (h : Heap) (n0 : Nat) (v0 : Value) (lo hi : Int32) (v3 : Value) (O : own_LB Z h a1 v0 (.int lo) (.int hi) v3) : Con l Z (⟨"com/example/dobsonfly/dobsonfly/LeadByte", "allowsSecond", "(B)Z"⟩ : MethodName) prog_8_method_4_code 3 (some .boolean) ({ frames := 0, cells := 0, slots := 0, locals := 0 } : Room) #[(.ref a1), (.int i2)] h n0 (Pv (.int (bi (own_in lo (i2 &&& (255 : Int32)) hi))) h) := by
  refine Con.of (plainFor_of_name pn0) (fun m => ef_c5 m a1 i2) ?_
  intro p e s m below meth c C
  refine G.iloadN C d5_0 rfl rfl ?_
  refine G.sipush C d5_1 (v := (255 : Int32)) rfl rfl ?_
  refine G.iand C d5_4 rfl ?_
  refine G.istoreN C d5_5 (Ls' := #[.val (.ref a1), .val (.int i2), .val (.int (i2 &&& (255 : Int32)))]) rfl rfl ?_
  refine G.iloadN C d5_6 rfl rfl ?_
  refine G.aloadN C d5_7 rfl rfl rfl ?_
  refine G.getF C (twd hw 11 rfl) (O).2.2.1 d5_8 rfl ?_
  refine G.iclt C d5_11 (by decide) (pt := 26) (by decide) rfl (fun hc11 => ?_) (fun hc11 => ?_)
  · refine G.iconst C d5_26 (v := (0 : Int32)) rfl rfl ?_
    exact G.retZ C d5_27 (by decide) (by decide) rfl (⟨by simp [own_in, bi, hc11], rfl⟩)
  · refine G.iloadN C d5_14 rfl rfl ?_
    refine G.aloadN C d5_15 rfl rfl rfl ?_
    refine G.getF C (twd hw 13 rfl) (O).2.2.2.1 d5_16 rfl ?_
    refine G.icgt C d5_19 (by decide) (pt := 26) (by decide) rfl (fun hc19 => ?_) (fun hc19 => ?_)
    · refine G.iconst C d5_26 (v := (0 : Int32)) rfl rfl ?_
      exact G.retZ C d5_27 (by decide) (by decide) rfl (⟨by simp [own_in, bi, hc11, hc19], rfl⟩)
    · refine G.iconst C d5_22 (v := (1 : Int32)) rfl rfl ?_
      refine G.goto C d5_23 (by decide) (pc' := 27) (by decide) ?_
      exact G.retZ C d5_27 (by decide) (by decide) rfl (⟨by simp [own_in, bi, hc11, hc19], rfl⟩)
theorem ef_c0 (m : MethodId) (i1 : Int32) (i2 : Int32) (i3 : Int32) (i4 : Int32) (i5 : Int32) : entryFrame m #[(.int i1), (.int i2), (.int i3), (.int i4), (.int i5)] maxLocals = mkF m 0 #[.val (.int i1), .val (.int i2), .val (.int i3), .val (.int i4), .val (.int i5), .unset, .unset, .unset, .unset, .unset, .unset, .unset] [] := by first | (simp [entryFrame, mkF, argsToLocals, Value.category, maxLocals]; done) | rfl
set_option maxRecDepth 65536 in
set_option maxHeartbeats 40000000 in
theorem c0 (l : Launch) (Z : State) (a0 : Array Value) (hw : ∀ d ∈ tables_1, d.before a0 Z = true) (i1 : Int32) (i2 : Int32) (i3 : Int32) (i4 : Int32) (i5 : Int32) (h : Heap) (n0 : Nat) (Z0 : n0 ≤ h.size) : ConW l Z x code maxLocals ret room_1 #[(.int i1), (.int i2), (.int i3), (.int i4), (.int i5)] h n0 (fun v h' => v = some (.int 1)) := by
  refine ConW.of (plainFor_of_name pn1) (fun m => ef_c0 m i1 i2 i3 i4 i5) ?_
  intro p e s m below meth c C
  replace C : Cx p s m meth c Z (⟨"com/example/dobsonfly/dobsonfly/LeadByteAllowsSecondPinLaw", "law", "(IIIII)Z"⟩ : MethodName) code 12 (some .boolean) := C
  refine G.iloadN C at_0 rfl rfl ?_
  refine G.i2b C at_1 rfl ?_
  refine G.istore C at_2 (Ls' := #[.val (.int i1), .val (.int i2), .val (.int i3), .val (.int i4), .val (.int i5), .val (.int (i4.toInt8.toInt32)), .unset, .unset, .unset, .unset, .unset, .unset]) rfl rfl ?_
  generalize hv2 : (i4.toInt8.toInt32) = v2
  refine G.iload C at_4 rfl rfl ?_
  refine G.iconst C at_6 (v := (1 : Int32)) rfl rfl ?_
  refine G.iand C at_7 rfl ?_
  refine G.ifeq C at_8 (by decide) (pt := 16) (by decide) rfl (fun hc8 => ?_) (fun hc8 => ?_)
  · refine G.narrow ?_
    refine G.aconst_null C at_16 rfl ?_
    refine G.astore C at_17 rfl (Ls' := #[.val (.int i1), .val (.int i2), .val (.int i3), .val (.int i4), .val (.int i5), .val (.int v2), .val .null, .unset, .unset, .unset, .unset, .unset]) rfl rfl ?_
    refine G.newO C (twd hw 0 rfl) (twd hw 1 rfl) (twd hw 2 rfl) at_19 (by decide) (by decide) rfl (fun hn1 b19 g19 E19 A19 D19 => ?_)
    have ge19 : n0 ≤ b19 := by rw [g19]; exact Z0
    have sz2 : n0 ≤ hn1.size := Nat.le_trans Z0 E19.1
    have ob19 := own_LB.new hw A19 D19
    show G p l e _ _ m _ below meth c n0 _ hn1 1 4 (mkF m 22 #[.val (.int i1), .val (.int i2), .val (.int i3), .val (.int i4), .val (.int i5), .val (.int v2), .val .null, .unset, .unset, .unset, .unset, .unset] [(.ref b19)])
    refine G.dup C at_22 rfl rfl ?_
    refine G.iloadN C at_23 rfl rfl ?_
    refine G.iloadN C at_24 rfl rfl ?_
    refine G.iloadN C at_25 rfl rfl ?_
    refine G.aload C at_26 rfl rfl rfl ?_
    refine G.callI C (S := [(.ref b19)]) (W := 1) rfl (twd hw 3 rfl) (twd hw 4 rfl) (twd hw 2 rfl) (twd hw 5 rfl) (by decide) (cN l Z a0 hw b19 i1 i2 i3 hn1 n0 _ _ _ _ ge19 ob19) pd0 rfl rfl at_28 rfl (Nat.le_of_eq rfl) (by decide) (by decide) (by decide) (by decide) rfl (fun whp3 hp3 hq4 => ?_)
    obtain ⟨rfl, ob31, K31⟩ := hq4
    have sz5 : n0 ≤ hp3.size := Nat.le_trans sz2 K31.1.1
    show G p l e _ _ m _ below meth c n0 _ hp3 1 4 (mkF m 31 #[.val (.int i1), .val (.int i2), .val (.int i3), .val (.int i4), .val (.int i5), .val (.int v2), .val .null, .unset, .unset, .unset, .unset, .unset] [(.ref b19)])
    refine G.astore C at_31 rfl (Ls' := #[.val (.int i1), .val (.int i2), .val (.int i3), .val (.int i4), .val (.int i5), .val (.int v2), .val .null, .val (.ref b19), .unset, .unset, .unset, .unset]) rfl rfl ?_
    refine G.newO C (twd hw 0 rfl) (twd hw 1 rfl) (twd hw 2 rfl) at_33 (by decide) (by decide) rfl (fun hn6 b33 g33 E33 A33 D33 => ?_)
    have ne_b19_b33 : b19 ≠ b33 := by rw [g33]; exact Nat.ne_of_lt (Exa.lt (ob31).1)
    have ge33 : n0 ≤ b33 := by rw [g33]; exact sz5
    have oc7 := own_LB.ext ob31 E33
    have sz8 : n0 ≤ hn6.size := Nat.le_trans sz5 E33.1
    have ob33 := own_LB.new hw A33 D33
    show G p l e _ _ m _ below meth c n0 _ hn6 2 8 (mkF m 36 #[.val (.int i1), .val (.int i2), .val (.int i3), .val (.int i4), .val (.int i5), .val (.int v2), .val .null, .val (.ref b19), .unset, .unset, .unset, .unset] [(.ref b33)])
    refine G.dup C at_36 rfl rfl ?_
    refine G.iloadN C at_37 rfl rfl ?_
    refine G.callI C (S := [(.ref b33)]) (W := 1) rfl (twd hw 17 rfl) (twd hw 18 rfl) (twd hw 2 rfl) (twd hw 19 rfl) (by decide) (c3 l Z a0 hw b33 i1 hn6 n0 _ _ _ _ ge33 ob33) pd2 rfl rfl at_38 rfl (Nat.le_of_eq rfl) (by decide) (by decide) (by decide) (by decide) rfl (fun whp9 hp9 hq10 => ?_)
    obtain ⟨rfl, ob41, K41⟩ := hq10
    have oc11 := own_LB.keep oc7 K41 (by simp [ne_b19_b33])
    have sz12 : n0 ≤ hp9.size := Nat.le_trans sz8 K41.1.1
    show G p l e _ _ m _ below meth c n0 _ hp9 2 8 (mkF m 41 #[.val (.int i1), .val (.int i2), .val (.int i3), .val (.int i4), .val (.int i5), .val (.int v2), .val .null, .val (.ref b19), .unset, .unset, .unset, .unset] [(.ref b33)])
    refine G.astore C at_41 rfl (Ls' := #[.val (.int i1), .val (.int i2), .val (.int i3), .val (.int i4), .val (.int i5), .val (.int v2), .val .null, .val (.ref b19), .val (.ref b33), .unset, .unset, .unset]) rfl rfl ?_
    have hby : -128 ≤ v2.toInt ∧ v2.toInt < 128 := by rw [← hv2]; exact own_byte _
    refine G.iload C at_43 rfl rfl ?_
    refine G.callSP C (S := []) (W := 0) (twd hw 21 rfl) (twd hw 22 rfl) (twd hw 23 rfl) (twd hw 24 rfl) (by decide) (c4 l Z a0 hw v2 hp9 n0) pd3 rfl rfl at_45 rfl (Nat.le_of_eq rfl) (by decide) (by decide) rfl rfl (by decide) (by decide) rfl ?_
    refine G.istore C at_48 (Ls' := #[.val (.int i1), .val (.int i2), .val (.int i3), .val (.int i4), .val (.int i5), .val (.int v2), .val .null, .val (.ref b19), .val (.ref b33), .val (.int (own_uns v2)), .unset, .unset]) rfl rfl ?_
    generalize hv48 : (own_uns v2) = v48
    refine G.iloadN C at_50 rfl rfl ?_
    refine G.iload C at_51 rfl rfl ?_
    have J67 : ∀ (b67 : Bool), (b67 = own_in i2 v48 i3) → G p l e room_1 s m #[(.int i1), (.int i2), (.int i3), (.int i4), (.int i5)] below meth c n0 (Wst s room_1 n0 (fun v h' => v = some (.int 1))) hp9 2 8 (mkF m 67 #[.val (.int i1), .val (.int i2), .val (.int i3), .val (.int i4), .val (.int i5), .val (.int v2), .val .null, .val (.ref b19), .val (.ref b33), .val (.int v48), .unset, .unset] [(.int (bi b67))]) := by
      intro b67 hb67
      refine G.istore C at_67 (Ls' := #[.val (.int i1), .val (.int i2), .val (.int i3), .val (.int i4), .val (.int i5), .val (.int v2), .val .null, .val (.ref b19), .val (.ref b33), .val (.int v48), .val (.int (bi b67)), .unset]) rfl rfl ?_
      refine G.iload C at_69 rfl rfl ?_
      refine G.bipush C at_71 (v := (-128 : Int32)) rfl rfl ?_
      have J88 : ∀ (b88 : Bool), (b88 = (!decide (v2 < (-128 : Int32)) && !decide ((-65 : Int32) < v2))) → G p l e room_1 s m #[(.int i1), (.int i2), (.int i3), (.int i4), (.int i5)] below meth c n0 (Wst s room_1 n0 (fun v h' => v = some (.int 1))) hp9 2 8 (mkF m 88 #[.val (.int i1), .val (.int i2), .val (.int i3), .val (.int i4), .val (.int i5), .val (.int v2), .val .null, .val (.ref b19), .val (.ref b33), .val (.int v48), .val (.int (bi b67)), .unset] [(.int (bi b88))]) := by
        intro b88 hb88
        refine G.istore C at_88 (Ls' := #[.val (.int i1), .val (.int i2), .val (.int i3), .val (.int i4), .val (.int i5), .val (.int v2), .val .null, .val (.ref b19), .val (.ref b33), .val (.int v48), .val (.int (bi b67)), .val (.int (bi b88))]) rfl rfl ?_
        refine G.aload C at_90 rfl rfl rfl ?_
        refine G.iload C at_92 rfl rfl ?_
        refine G.callVP C (S := []) (W := 0) (twd hw 25 rfl) (twd hw 27 rfl) (twd hw 2 rfl) (twd hw 29 rfl) (twd hw 26 rfl) (twd hw 28 rfl) (oc11).1 (by decide) (c5 l Z a0 hw b19 v2 hp9 n0 _ i2 i3 _ oc11) pd4 rfl rfl at_94 rfl (Nat.le_of_eq rfl) (by decide) (by decide) rfl rfl (by decide) (by decide) rfl ?_
        refine G.iload C at_97 rfl rfl ?_
        refine G.icne C at_99 (by decide) (pt := 118) (by decide) rfl (fun hc99 => ?_) (fun hc99 => ?_)
        · refine G.iconst C at_118 (v := (0 : Int32)) rfl rfl ?_
          exact G.retZ C at_119 (by decide) (by decide) rfl (absurd (by rw [hb67, ← hv48, own_uns_eq _ hby]) hc99)
        · refine G.aload C at_102 rfl rfl rfl ?_
          refine G.iload C at_104 rfl rfl ?_
          refine G.callVP C (S := []) (W := 0) (twd hw 25 rfl) (twd hw 27 rfl) (twd hw 2 rfl) (twd hw 29 rfl) (twd hw 26 rfl) (twd hw 28 rfl) (ob41).1 (by decide) (c5 l Z a0 hw b33 v2 hp9 n0 _ (128 : Int32) (191 : Int32) _ ob41) pd4 rfl rfl at_106 rfl (Nat.le_of_eq rfl) (by decide) (by decide) rfl rfl (by decide) (by decide) rfl ?_
          refine G.iload C at_109 rfl rfl ?_
          refine G.icne C at_111 (by decide) (pt := 118) (by decide) rfl (fun hc111 => ?_) (fun hc111 => ?_)
          · refine G.iconst C at_118 (v := (0 : Int32)) rfl rfl ?_
            exact G.retZ C at_119 (by decide) (by decide) rfl (absurd (by rw [hb88, own_plain _ hby]) hc111)
          · refine G.iconst C at_114 (v := (1 : Int32)) rfl rfl ?_
            refine G.goto C at_115 (by decide) (pc' := 119) (by decide) ?_
            exact G.retZ C at_119 (by decide) (by decide) rfl (rfl)
      refine G.iclt C at_73 (by decide) (pt := 87) (by decide) rfl (fun hc73 => ?_) (fun hc73 => ?_)
      · refine G.iconst C at_87 (v := (0 : Int32)) rfl rfl ?_
        exact J88 false (by simp [hc73])
      · refine G.iload C at_76 rfl rfl ?_
        refine G.bipush C at_78 (v := (-65 : Int32)) rfl rfl ?_
        refine G.icgt C at_80 (by decide) (pt := 87) (by decide) rfl (fun hc80 => ?_) (fun hc80 => ?_)
        · refine G.iconst C at_87 (v := (0 : Int32)) rfl rfl ?_
          exact J88 false (by simp [hc73, hc80])
        · refine G.iconst C at_83 (v := (1 : Int32)) rfl rfl ?_
          refine G.goto C at_84 (by decide) (pc' := 88) (by decide) ?_
          exact J88 true (by simp [hc73, hc80])
    refine G.icgt C at_53 (by decide) (pt := 66) (by decide) rfl (fun hc53 => ?_) (fun hc53 => ?_)
    · refine G.iconst C at_66 (v := (0 : Int32)) rfl rfl ?_
      exact J67 false (by simp [own_in, hc53])
    · refine G.iload C at_56 rfl rfl ?_
      refine G.iloadN C at_58 rfl rfl ?_
      refine G.icgt C at_59 (by decide) (pt := 66) (by decide) rfl (fun hc59 => ?_) (fun hc59 => ?_)
      · refine G.iconst C at_66 (v := (0 : Int32)) rfl rfl ?_
        exact J67 false (by simp [own_in, hc53, hc59])
      · refine G.iconst C at_62 (v := (1 : Int32)) rfl rfl ?_
        refine G.goto C at_63 (by decide) (pc' := 67) (by decide) ?_
        exact J67 true (by simp [own_in, hc53, hc59])
  · refine G.ldcS C (nn := 4) (twd hw 30 rfl) (own_sa hw) at_11 (by decide) (by decide) (by decide) (by decide) rfl (fun s2 h11 a11 E11 C => ?_)
    have sz11 : n0 ≤ h11.size := Nat.le_trans Z0 E11.1
    show G p l e _ _ m _ below meth c n0 _ h11 2 8 (mkF m 13 #[.val (.int i1), .val (.int i2), .val (.int i3), .val (.int i4), .val (.int i5), .val (.int v2), .unset, .unset, .unset, .unset, .unset, .unset] [(.ref a11)])
    refine G.goto C at_13 (by decide) (pc' := 17) (by decide) ?_
    refine G.astore C at_17 rfl (Ls' := #[.val (.int i1), .val (.int i2), .val (.int i3), .val (.int i4), .val (.int i5), .val (.int v2), .val (.ref a11), .unset, .unset, .unset, .unset, .unset]) rfl rfl ?_
    refine G.newO C (twd hw 0 rfl) (twd hw 1 rfl) (twd hw 2 rfl) at_19 (by decide) (by decide) rfl (fun hn13 b19 g19 E19 A19 D19 => ?_)
    have old19 := Nat.le_trans (Kp.refl h11 []).1.1 (Nat.le_of_eq g19.symm)
    have ge19 : n0 ≤ b19 := by rw [g19]; exact sz11
    have sz14 : n0 ≤ hn13.size := Nat.le_trans sz11 E19.1
    have kp15 := Kp.ext (Kp.refl h11 []) E19
    have ob19 := own_LB.new hw A19 D19
    show G p l e _ _ m _ below meth c n0 _ hn13 3 12 (mkF m 22 #[.val (.int i1), .val (.int i2), .val (.int i3), .val (.int i4), .val (.int i5), .val (.int v2), .val (.ref a11), .unset, .unset, .unset, .unset, .unset] [(.ref b19)])
    refine G.dup C at_22 rfl rfl ?_
    refine G.iloadN C at_23 rfl rfl ?_
    refine G.iloadN C at_24 rfl rfl ?_
    refine G.iloadN C at_25 rfl rfl ?_
    refine G.aload C at_26 rfl rfl rfl ?_
    refine G.callI C (S := [(.ref b19)]) (W := 1) rfl (twd hw 3 rfl) (twd hw 4 rfl) (twd hw 2 rfl) (twd hw 5 rfl) (by decide) (cR l Z a0 hw b19 i1 i2 i3 a11 hn13 n0 _ _ _ _ ge19 ob19) pd0 rfl rfl at_28 rfl (Nat.le_of_eq rfl) (by decide) (by decide) (by decide) (by decide) rfl (fun whp16 hp16 hq17 => ?_)
    obtain ⟨rfl, ob31, K31⟩ := hq17
    have sz18 : n0 ≤ hp16.size := Nat.le_trans sz14 K31.1.1
    have kp19 := Kp.trans kp15 K31 (by simp [old19])
    show G p l e _ _ m _ below meth c n0 _ hp16 3 12 (mkF m 31 #[.val (.int i1), .val (.int i2), .val (.int i3), .val (.int i4), .val (.int i5), .val (.int v2), .val (.ref a11), .unset, .unset, .unset, .unset, .unset] [(.ref b19)])
    refine G.astore C at_31 rfl (Ls' := #[.val (.int i1), .val (.int i2), .val (.int i3), .val (.int i4), .val (.int i5), .val (.int v2), .val (.ref a11), .val (.ref b19), .unset, .unset, .unset, .unset]) rfl rfl ?_
    refine G.newO C (twd hw 0 rfl) (twd hw 1 rfl) (twd hw 2 rfl) at_33 (by decide) (by decide) rfl (fun hn20 b33 g33 E33 A33 D33 => ?_)
    have old33 := Nat.le_trans kp19.1.1 (Nat.le_of_eq g33.symm)
    have ne_b19_b33 : b19 ≠ b33 := by rw [g33]; exact Nat.ne_of_lt (Exa.lt (ob31).1)
    have ge33 : n0 ≤ b33 := by rw [g33]; exact sz18
    have oc21 := own_LB.ext ob31 E33
    have sz22 : n0 ≤ hn20.size := Nat.le_trans sz18 E33.1
    have kp23 := Kp.ext kp19 E33
    have ob33 := own_LB.new hw A33 D33
    show G p l e _ _ m _ below meth c n0 _ hn20 4 16 (mkF m 36 #[.val (.int i1), .val (.int i2), .val (.int i3), .val (.int i4), .val (.int i5), .val (.int v2), .val (.ref a11), .val (.ref b19), .unset, .unset, .unset, .unset] [(.ref b33)])
    refine G.dup C at_36 rfl rfl ?_
    refine G.iloadN C at_37 rfl rfl ?_
    refine G.callI C (S := [(.ref b33)]) (W := 1) rfl (twd hw 17 rfl) (twd hw 18 rfl) (twd hw 2 rfl) (twd hw 19 rfl) (by decide) (c3 l Z a0 hw b33 i1 hn20 n0 _ _ _ _ ge33 ob33) pd2 rfl rfl at_38 rfl (Nat.le_of_eq rfl) (by decide) (by decide) (by decide) (by decide) rfl (fun whp24 hp24 hq25 => ?_)
    obtain ⟨rfl, ob41, K41⟩ := hq25
    have oc26 := own_LB.keep oc21 K41 (by simp [ne_b19_b33])
    have sz27 : n0 ≤ hp24.size := Nat.le_trans sz22 K41.1.1
    have kp28 := Kp.trans kp23 K41 (by simp [old33])
    show G p l e _ _ m _ below meth c n0 _ hp24 4 16 (mkF m 41 #[.val (.int i1), .val (.int i2), .val (.int i3), .val (.int i4), .val (.int i5), .val (.int v2), .val (.ref a11), .val (.ref b19), .unset, .unset, .unset, .unset] [(.ref b33)])
    refine G.astore C at_41 rfl (Ls' := #[.val (.int i1), .val (.int i2), .val (.int i3), .val (.int i4), .val (.int i5), .val (.int v2), .val (.ref a11), .val (.ref b19), .val (.ref b33), .unset, .unset, .unset]) rfl rfl ?_
    have hby : -128 ≤ v2.toInt ∧ v2.toInt < 128 := by rw [← hv2]; exact own_byte _
    refine G.iload C at_43 rfl rfl ?_
    refine G.callSP C (S := []) (W := 0) (twd hw 21 rfl) (twd hw 22 rfl) (twd hw 23 rfl) (twd hw 24 rfl) (by decide) (c4 l Z a0 hw v2 hp24 n0) pd3 rfl rfl at_45 rfl (Nat.le_of_eq rfl) (by decide) (by decide) rfl rfl (by decide) (by decide) rfl ?_
    refine G.istore C at_48 (Ls' := #[.val (.int i1), .val (.int i2), .val (.int i3), .val (.int i4), .val (.int i5), .val (.int v2), .val (.ref a11), .val (.ref b19), .val (.ref b33), .val (.int (own_uns v2)), .unset, .unset]) rfl rfl ?_
    generalize hv48 : (own_uns v2) = v48
    refine G.iloadN C at_50 rfl rfl ?_
    refine G.iload C at_51 rfl rfl ?_
    have J67 : ∀ (b67 : Bool), (b67 = own_in i2 v48 i3) → G p l e room_1 s2 m #[(.int i1), (.int i2), (.int i3), (.int i4), (.int i5)] below meth c n0 (Wst s2 room_1 n0 (fun v z => (fun v h' => v = some (Value.int 1)) v z ∧ h11.size ≤ z.size)) hp24 4 16 (mkF m 67 #[.val (.int i1), .val (.int i2), .val (.int i3), .val (.int i4), .val (.int i5), .val (.int v2), .val (.ref a11), .val (.ref b19), .val (.ref b33), .val (.int v48), .unset, .unset] [(.int (bi b67))]) := by
      intro b67 hb67
      refine G.istore C at_67 (Ls' := #[.val (.int i1), .val (.int i2), .val (.int i3), .val (.int i4), .val (.int i5), .val (.int v2), .val (.ref a11), .val (.ref b19), .val (.ref b33), .val (.int v48), .val (.int (bi b67)), .unset]) rfl rfl ?_
      refine G.iload C at_69 rfl rfl ?_
      refine G.bipush C at_71 (v := (-128 : Int32)) rfl rfl ?_
      have J88 : ∀ (b88 : Bool), (b88 = (!decide (v2 < (-128 : Int32)) && !decide ((-65 : Int32) < v2))) → G p l e room_1 s2 m #[(.int i1), (.int i2), (.int i3), (.int i4), (.int i5)] below meth c n0 (Wst s2 room_1 n0 (fun v z => (fun v h' => v = some (Value.int 1)) v z ∧ h11.size ≤ z.size)) hp24 4 16 (mkF m 88 #[.val (.int i1), .val (.int i2), .val (.int i3), .val (.int i4), .val (.int i5), .val (.int v2), .val (.ref a11), .val (.ref b19), .val (.ref b33), .val (.int v48), .val (.int (bi b67)), .unset] [(.int (bi b88))]) := by
        intro b88 hb88
        refine G.istore C at_88 (Ls' := #[.val (.int i1), .val (.int i2), .val (.int i3), .val (.int i4), .val (.int i5), .val (.int v2), .val (.ref a11), .val (.ref b19), .val (.ref b33), .val (.int v48), .val (.int (bi b67)), .val (.int (bi b88))]) rfl rfl ?_
        refine G.aload C at_90 rfl rfl rfl ?_
        refine G.iload C at_92 rfl rfl ?_
        refine G.callVP C (S := []) (W := 0) (twd hw 25 rfl) (twd hw 27 rfl) (twd hw 2 rfl) (twd hw 29 rfl) (twd hw 26 rfl) (twd hw 28 rfl) (oc26).1 (by decide) (c5 l Z a0 hw b19 v2 hp24 n0 _ i2 i3 _ oc26) pd4 rfl rfl at_94 rfl (Nat.le_of_eq rfl) (by decide) (by decide) rfl rfl (by decide) (by decide) rfl ?_
        refine G.iload C at_97 rfl rfl ?_
        refine G.icne C at_99 (by decide) (pt := 118) (by decide) rfl (fun hc99 => ?_) (fun hc99 => ?_)
        · refine G.iconst C at_118 (v := (0 : Int32)) rfl rfl ?_
          exact G.retZ C at_119 (by decide) (by decide) rfl (absurd (by rw [hb67, ← hv48, own_uns_eq _ hby]) hc99)
        · refine G.aload C at_102 rfl rfl rfl ?_
          refine G.iload C at_104 rfl rfl ?_
          refine G.callVP C (S := []) (W := 0) (twd hw 25 rfl) (twd hw 27 rfl) (twd hw 2 rfl) (twd hw 29 rfl) (twd hw 26 rfl) (twd hw 28 rfl) (ob41).1 (by decide) (c5 l Z a0 hw b33 v2 hp24 n0 _ (128 : Int32) (191 : Int32) _ ob41) pd4 rfl rfl at_106 rfl (Nat.le_of_eq rfl) (by decide) (by decide) rfl rfl (by decide) (by decide) rfl ?_
          refine G.iload C at_109 rfl rfl ?_
          refine G.icne C at_111 (by decide) (pt := 118) (by decide) rfl (fun hc111 => ?_) (fun hc111 => ?_)
          · refine G.iconst C at_118 (v := (0 : Int32)) rfl rfl ?_
            exact G.retZ C at_119 (by decide) (by decide) rfl (absurd (by rw [hb88, own_plain _ hby]) hc111)
          · refine G.iconst C at_114 (v := (1 : Int32)) rfl rfl ?_
            refine G.goto C at_115 (by decide) (pc' := 119) (by decide) ?_
            exact G.retZ C at_119 (by decide) (by decide) rfl (⟨rfl, (kp28).1.1⟩)
      refine G.iclt C at_73 (by decide) (pt := 87) (by decide) rfl (fun hc73 => ?_) (fun hc73 => ?_)
      · refine G.iconst C at_87 (v := (0 : Int32)) rfl rfl ?_
        exact J88 false (by simp [hc73])
      · refine G.iload C at_76 rfl rfl ?_
        refine G.bipush C at_78 (v := (-65 : Int32)) rfl rfl ?_
        refine G.icgt C at_80 (by decide) (pt := 87) (by decide) rfl (fun hc80 => ?_) (fun hc80 => ?_)
        · refine G.iconst C at_87 (v := (0 : Int32)) rfl rfl ?_
          exact J88 false (by simp [hc73, hc80])
        · refine G.iconst C at_83 (v := (1 : Int32)) rfl rfl ?_
          refine G.goto C at_84 (by decide) (pc' := 88) (by decide) ?_
          exact J88 true (by simp [hc73, hc80])
    refine G.icgt C at_53 (by decide) (pt := 66) (by decide) rfl (fun hc53 => ?_) (fun hc53 => ?_)
    · refine G.iconst C at_66 (v := (0 : Int32)) rfl rfl ?_
      exact J67 false (by simp [own_in, hc53])
    · refine G.iload C at_56 rfl rfl ?_
      refine G.iloadN C at_58 rfl rfl ?_
      refine G.icgt C at_59 (by decide) (pt := 66) (by decide) rfl (fun hc59 => ?_) (fun hc59 => ?_)
      · refine G.iconst C at_66 (v := (0 : Int32)) rfl rfl ?_
        exact J67 false (by simp [own_in, hc53, hc59])
      · refine G.iconst C at_62 (v := (1 : Int32)) rfl rfl ?_
        refine G.goto C at_63 (by decide) (pc' := 67) (by decide) ?_
        exact J67 true (by simp [own_in, hc53, hc59])
set_option maxRecDepth 65536 in
set_option maxHeartbeats 40000000 in
theorem comes_1 {Post : Tables → Env → Array Value → State → Outcome → State → Prop} (hpost : ∀ tb e args s v u, (limb_1_1.after args s (.returned v) u = true ∧ limb_1_2.after args s (.returned v) u = true ∧ True) → ReturnedEndW s (.returned v) u (Jvm.fieldLocs frame_1_writes args s ++ Jvm.arrayLocs frame_1_arrays args s ++ Jvm.staticLocs frame_1_statics s) 16 1152 → Post tb e args s (.returned v) u) :
    ArmFor flags0 classFile x code maxLocals ret World_1 tables_1 room_1 Calls_1 rest_1 Pre_1 Post := by
  intro l hfl _ _ p e ha hc hk s m args below hf hA hF happ hP
  obtain ⟨hcalls, hrest, hpre⟩ := hP
  obtain ⟨-, -, -, hnamed, -, -, -, hat⟩ := (Spec.applies_iff hf).mp happ
  obtain ⟨hg, hn⟩ := and_e (Cond.before_iff.mp (show (Jvm.Cond.and given_1 narrow_1).before args s = true from hpre))
  obtain ⟨gc, gr0⟩ := and_e hg
  obtain ⟨g0, gr1⟩ := and_e gr0
  obtain ⟨g1, gr2⟩ := and_e gr1
  obtain ⟨g2, gr3⟩ := and_e gr2
  obtain ⟨g3, g4⟩ := and_e gr3
  obtain ⟨w0, w1, w2, w3, w4, rfl⟩ : ∃ w0 w1 w2 w3 w4 : Value, args = #[w0, w1, w2, w3, w4] := by
    have hs : args.size = 5 := by simpa [Cond.value, given_1] using gc
    obtain ⟨L⟩ := args
    match L, hs with
    | [w0, w1, w2, w3, w4], _ => exact ⟨w0, w1, w2, w3, w4, rfl⟩
  have hw := fun d (hd : d ∈ tables_1) => atoms_spec (ws := Jvm.Cond.code x code maxLocals ret :: tables_1) hat d (List.mem_cons_of_mem _ hd)
  obtain ⟨i0, ei0⟩ := is_v g0
  obtain rfl : w0 = (.int i0) := Option.some.inj ei0
  obtain ⟨i1, ei1⟩ := is_v g1
  obtain rfl : w1 = (.int i1) := Option.some.inj ei1
  obtain ⟨i2, ei2⟩ := is_v g2
  obtain rfl : w2 = (.int i2) := Option.some.inj ei2
  obtain ⟨i3, ei3⟩ := is_v g3
  obtain rfl : w3 = (.int i3) := Option.some.inj ei3
  obtain ⟨i4, ei4⟩ := is_v g4
  obtain rfl : w4 = (.int i4) := Option.some.inj ei4
  obtain ⟨nn, o, h1, h2, h3, _, L, rfl, ⟨rfl, N⟩, hq⟩ := c0 l s _ hw i0 i1 i2 i3 i4 s.heap s.heap.size (Nat.le_refl _) tables_1 p e ha hc hk s m _ below hf ((Spec.applies_iff_loose hf).mp happ).1 ⟨rfl, State.Warmed39.refl s, rfl⟩ trivial
  exact ⟨nn, _, h1, h2, h3, hpost _ _ _ _ _ _ ⟨Cond.after_iff.mpr rfl, Cond.after_iff.mpr (eq_i res_at (Term.int_eval (1)) rfl), trivial⟩ ⟨hq.1, hq.2.1, hq.2.2.1, (hq.2.2.2.sift fun y hy => Or.inr (N y hy)).mono (by decide) (by decide)⟩⟩
theorem main_1_1 : Claimed_1_1 := comes_1 fun _ _ _ _ _ _ h hF => ⟨h.1, hF⟩
theorem main_1_2 : Claimed_1_2 := comes_1 fun _ _ _ _ _ _ h hF => ⟨h.2.1, hF⟩
end Jvm.Pilot.@@N@@
namespace Jvm.Pilot.@@N@@
open Jvm Jvm.ClassFile Sem Op Lib Jvm.Free Jvm.Stand Jvm.Pilot.@@N@@.Jvm.D
/-! MADE BY PROGRAM (witnessworld.py) out of the Statement's table words and the real class files: 14 classes; the members and pool entries that the words name. The judged class is class 1, her method 1. -/
namespace start1
open Jvm.ClassFile
def u (s : String) : CpInfo := .utf8 (stringToUtf16 s)
/-- a pool by its gaps: so many unusable entries, then the entry; so many at the end -/
def gap : Nat → List CpInfo → List CpInfo
  | 0, r => r
  | n + 1, r => .unusable :: gap n r
def poolList (es : List (Nat × CpInfo)) (last : Nat) : List CpInfo := es.foldr (fun e r => gap e.1 (e.2 :: r)) (gap last [])
def pool (es : List (Nat × CpInfo)) (last : Nat) : Array CpInfo := ⟨poolList es last⟩
def fileOf (pool : Array CpInfo) (this : Nat) (attrs : Array Attribute := #[]) (ms : Array MethodInfo := #[]) (fl : Nat := 33) (sup : Nat := 0) (ifs : Array Nat := #[]) (fds : Array FieldInfo := #[]) : ClassFile where
  minorVersion := 0
  majorVersion := 65
  constantPool := pool
  accessFlags := fl
  thisClass := this
  superClass := sup
  interfaces := ifs
  fields := fds
  methods := ms
  attributes := attrs
def plain (name : String) (sup : Option ClassId) : Class where
  name := name
  kind := .ordinary
  loader := none
  accessFlags := 33
  super := sup
  interfaces := #[]
  cf := none
  fields := #[]
  methods := #[]
  instanceTypes := #[]
  staticTypes := #[]
  resolved := #[]
  callSites := []
  init := .initialized
  statics := none
  mirror := none

def pool0 : Array CpInfo := pool [(5, u "<init>"), (0, u "()V"), (1, .class_ 10), (1, u "java/lang/Object")] 113

def k0c0 : Code := { maxStack := 0, maxLocals := 1, code := object_method_1_code, exceptionTable := #[], attributes := #[] }
def k0m0 : Method := { name := "<init>", desc := "()V", sig := { parameters := [], returnType := none }, accessFlags := 1, code := some k0c0 }
/-- java/lang/Object -/
def k0 : Class := { plain "java/lang/Object" none with
  accessFlags := 33
  interfaces := #[]
  cf := some (fileOf pool0 8 #[] #[{ accessFlags := 1, nameIndex := 5, descriptorIndex := 6, attributes := #[] }] 33 0 #[] #[])
  fields := #[]
  methods := #[k0m0]
  instanceTypes := #[]
  staticTypes := #[]
  resolved := Array.replicate 124 none
  statics := none }

def pool1 : Array CpInfo := pool [(2, .class_ 4), (1, u "java/lang/Object"), (0, u "<init>"), (0, u "()V"), (0, .string 8), (0, u "r"), (0, .class_ 10), (0, u "com/example/dobsonfly/dobsonfly/LeadByte"), (0, .methodref 9 12), (0, .nameAndType 5 13), (0, u "(IIILjava/lang/String;)V"), (0, .methodref 9 15), (0, .nameAndType 5 16), (0, u "(I)V"), (0, .methodref 18 19), (0, .class_ 20), (0, .nameAndType 21 22), (0, u "com/example/dobsonfly/dobsonfly/LeadByteAllowsSecondPinLaw"), (0, u "unsigned"), (0, u "(B)I"), (0, .methodref 9 24), (0, .nameAndType 25 26), (0, u "allowsSecond"), (0, u "(B)Z"), (2, u "law"), (0, u "(IIIII)Z")] 5

def k1m0 : Method := { name := "<init>", desc := "()V", sig := { parameters := [], returnType := none }, accessFlags := 1, code := none }
def k1c1 : Code := { maxStack := 6, maxLocals := 12, code := code, exceptionTable := #[], attributes := #[] }
def k1m1 : Method := { name := "law", desc := "(IIIII)Z", sig := { parameters := [.int, .int, .int, .int, .int], returnType := some .boolean }, accessFlags := 9, code := some k1c1 }
def k1c2 : Code := { maxStack := 2, maxLocals := 1, code := method_3_code, exceptionTable := #[], attributes := #[] }
def k1m2 : Method := { name := "unsigned", desc := "(B)I", sig := { parameters := [.byte], returnType := some .int }, accessFlags := 10, code := some k1c2 }
/-- com/example/dobsonfly/dobsonfly/LeadByteAllowsSecondPinLaw -/
def k1 : Class := { plain "com/example/dobsonfly/dobsonfly/LeadByteAllowsSecondPinLaw" (some 0) with
  accessFlags := 49
  interfaces := #[]
  cf := some (fileOf pool1 18 #[] #[{ accessFlags := 1, nameIndex := 5, descriptorIndex := 6, attributes := #[] }, { accessFlags := 9, nameIndex := 29, descriptorIndex := 30, attributes := #[] }, { accessFlags := 10, nameIndex := 21, descriptorIndex := 22, attributes := #[] }] 49 2 #[] #[])
  fields := #[]
  methods := #[k1m0, k1m1, k1m2]
  instanceTypes := #[]
  staticTypes := #[]
  resolved := Array.replicate 36 none
  statics := none }

def pool2 : Array CpInfo := pool [(1, .methodref 2 3), (0, .class_ 4), (0, .nameAndType 5 6), (0, u "com/example/dobsonfly/dobsonfly/LeadByte"), (0, u "<init>"), (0, u "(IIILjava/lang/String;)V"), (0, .methodref 8 9), (0, .class_ 10), (0, .nameAndType 5 11), (0, u "java/lang/Object"), (0, u "()V"), (0, .fieldref 2 13), (0, .nameAndType 14 15), (0, u "mLength"), (0, u "I"), (0, .fieldref 2 17), (0, .nameAndType 18 15), (0, u "mSecondMin"), (0, .fieldref 2 20), (0, .nameAndType 21 15), (0, u "mSecondMax"), (0, .fieldref 2 23), (0, .nameAndType 24 25), (0, u "mNarrowedReason"), (0, u "Ljava/lang/String;"), (0, u "(I)V"), (4, u "allowsSecond"), (0, u "(B)Z")] 8

def k2c0 : Code := { maxStack := 5, maxLocals := 2, code := prog_8_method_1_code, exceptionTable := #[], attributes := #[] }
def k2m0 : Method := { name := "<init>", desc := "(I)V", sig := { parameters := [.int], returnType := none }, accessFlags := 0, code := some k2c0 }
def k2c1 : Code := { maxStack := 2, maxLocals := 5, code := prog_8_method_2_code, exceptionTable := #[], attributes := #[] }
def k2m1 : Method := { name := "<init>", desc := "(IIILjava/lang/String;)V", sig := { parameters := [.int, .int, .int, (.object "java/lang/String")], returnType := none }, accessFlags := 0, code := some k2c1 }
def k2c2 : Code := { maxStack := 2, maxLocals := 3, code := prog_8_method_4_code, exceptionTable := #[], attributes := #[] }
def k2m2 : Method := { name := "allowsSecond", desc := "(B)Z", sig := { parameters := [.byte], returnType := some .boolean }, accessFlags := 0, code := some k2c2 }
/-- com/example/dobsonfly/dobsonfly/LeadByte -/
def k2 : Class := { plain "com/example/dobsonfly/dobsonfly/LeadByte" (some 0) with
  accessFlags := 48
  interfaces := #[]
  cf := some (fileOf pool2 2 #[] #[{ accessFlags := 0, nameIndex := 5, descriptorIndex := 26, attributes := #[] }, { accessFlags := 0, nameIndex := 5, descriptorIndex := 6, attributes := #[] }, { accessFlags := 0, nameIndex := 31, descriptorIndex := 32, attributes := #[] }] 48 8 #[] #[{ accessFlags := 18, nameIndex := 14, descriptorIndex := 15, attributes := #[] }, { accessFlags := 18, nameIndex := 18, descriptorIndex := 15, attributes := #[] }, { accessFlags := 18, nameIndex := 21, descriptorIndex := 15, attributes := #[] }, { accessFlags := 18, nameIndex := 24, descriptorIndex := 25, attributes := #[] }])
  fields := #[{ name := "mLength", type := .int, accessFlags := 18, slot := 0, constantValue := 0 }, { name := "mSecondMin", type := .int, accessFlags := 18, slot := 1, constantValue := 0 }, { name := "mSecondMax", type := .int, accessFlags := 18, slot := 2, constantValue := 0 }, { name := "mNarrowedReason", type := (.object "java/lang/String"), accessFlags := 18, slot := 3, constantValue := 0 }]
  methods := #[k2m0, k2m1, k2m2]
  instanceTypes := #[.int, .int, .int, (.object "java/lang/String")]
  staticTypes := #[]
  resolved := Array.replicate 41 none
  statics := none }

def pool3 : Array CpInfo := pool [(1, .class_ 2), (0, u "java/io/Serializable"), (0, .class_ 4), (0, u "java/lang/Object")] 2

/-- java/io/Serializable -/
def k3 : Class := { plain "java/io/Serializable" (some 0) with
  accessFlags := 1537
  interfaces := #[]
  cf := some (fileOf pool3 1 #[] #[] 1537 3 #[] #[])
  fields := #[]
  methods := #[]
  instanceTypes := #[]
  staticTypes := #[]
  resolved := Array.replicate 7 none
  statics := none }

def pool4 : Array CpInfo := pool [(1, .class_ 2), (0, u "java/lang/Comparable"), (0, .class_ 4), (0, u "java/lang/Object")] 7

/-- java/lang/Comparable -/
def k4 : Class := { plain "java/lang/Comparable" (some 0) with
  accessFlags := 1537
  interfaces := #[]
  cf := some (fileOf pool4 1 #[] #[] 1537 3 #[] #[])
  fields := #[]
  methods := #[]
  instanceTypes := #[]
  staticTypes := #[]
  resolved := Array.replicate 12 none
  statics := none }

def pool5 : Array CpInfo := pool [(2, .class_ 4), (1, u "java/lang/CharSequence"), (42, .class_ 48), (0, u "java/lang/CharSequence$1CodePointIterator"), (10, .class_ 60), (0, u "java/lang/CharSequence$1CharIterator"), (5, .class_ 67), (0, u "java/lang/Object")] 63

/-- java/lang/CharSequence -/
def k5 : Class := { plain "java/lang/CharSequence" (some 0) with
  accessFlags := 1537
  interfaces := #[]
  cf := some (fileOf pool5 2 #[.nestMembers #[47, 59]] #[] 1537 66 #[] #[])
  fields := #[]
  methods := #[]
  instanceTypes := #[]
  staticTypes := #[]
  resolved := Array.replicate 131 none
  statics := none }

def pool6 : Array CpInfo := pool [(1, .class_ 2), (0, u "java/lang/constant/Constable"), (0, .class_ 4), (0, u "java/lang/Object")] 6

/-- java/lang/constant/Constable -/
def k6 : Class := { plain "java/lang/constant/Constable" (some 0) with
  accessFlags := 1537
  interfaces := #[]
  cf := some (fileOf pool6 1 #[] #[] 1537 3 #[] #[])
  fields := #[]
  methods := #[]
  instanceTypes := #[]
  staticTypes := #[]
  resolved := Array.replicate 11 none
  statics := none }

def pool7 : Array CpInfo := pool [(1, .class_ 2), (0, u "java/lang/constant/ConstantDesc"), (0, .class_ 4), (0, u "java/lang/Object")] 32

/-- java/lang/constant/ConstantDesc -/
def k7 : Class := { plain "java/lang/constant/ConstantDesc" (some 0) with
  accessFlags := 1537
  interfaces := #[]
  cf := some (fileOf pool7 1 #[] #[] 1537 3 #[] #[])
  fields := #[]
  methods := #[]
  instanceTypes := #[]
  staticTypes := #[]
  resolved := Array.replicate 37 none
  statics := none }

def pool8 : Array CpInfo := pool [(2, .class_ 4), (1, u "java/lang/Object"), (0, u "<init>"), (0, u "()V"), (3, .class_ 12), (1, u "java/lang/String"), (0, u "value"), (0, u "[B"), (2, u "coder"), (0, u "B"), (2, u "hash"), (0, u "I"), (2, u "hashIsZero"), (0, u "Z"), (13, u "COMPACT_STRINGS"), (534, .class_ 576), (0, u "java/lang/CharSequence"), (22, u "CASE_INSENSITIVE_ORDER"), (0, u "Ljava/util/Comparator;"), (500, u "serialPersistentFields"), (0, u "[Ljava/io/ObjectStreamField;"), (0, .class_ 1104), (0, u "java/lang/String$CaseInsensitiveComparator"), (1, .class_ 1107), (0, u "java/io/Serializable"), (0, .class_ 1109), (0, u "java/lang/Comparable"), (0, .class_ 1111), (0, u "java/lang/constant/Constable"), (0, .class_ 1113), (0, u "java/lang/constant/ConstantDesc"), (2, u "serialVersionUID"), (0, u "J"), (3, u "REPL"), (0, u "C"), (2, u "LATIN1"), (1, u "UTF16")] 323

def k8m0 : Method := { name := "<init>", desc := "()V", sig := { parameters := [], returnType := none }, accessFlags := 1, code := none }
/-- java/lang/String -/
def k8 : Class := { plain "java/lang/String" (some 0) with
  accessFlags := 49
  interfaces := #[3, 4, 5, 6, 7]
  cf := some (fileOf pool8 10 #[.nestMembers #[1103]] #[{ accessFlags := 1, nameIndex := 5, descriptorIndex := 6, attributes := #[] }] 49 2 #[1106, 1108, 575, 1110, 1112] #[{ accessFlags := 18, nameIndex := 13, descriptorIndex := 14, attributes := #[] }, { accessFlags := 18, nameIndex := 17, descriptorIndex := 18, attributes := #[] }, { accessFlags := 2, nameIndex := 21, descriptorIndex := 22, attributes := #[] }, { accessFlags := 2, nameIndex := 25, descriptorIndex := 26, attributes := #[] }, { accessFlags := 26, nameIndex := 1116, descriptorIndex := 1117, attributes := #[] }, { accessFlags := 24, nameIndex := 40, descriptorIndex := 26, attributes := #[] }, { accessFlags := 26, nameIndex := 1101, descriptorIndex := 1102, attributes := #[] }, { accessFlags := 26, nameIndex := 1121, descriptorIndex := 1122, attributes := #[] }, { accessFlags := 25, nameIndex := 599, descriptorIndex := 600, attributes := #[] }, { accessFlags := 24, nameIndex := 1125, descriptorIndex := 18, attributes := #[] }, { accessFlags := 24, nameIndex := 1127, descriptorIndex := 18, attributes := #[] }])
  fields := #[{ name := "value", type := (.array .byte), accessFlags := 18, slot := 0, constantValue := 0 }, { name := "coder", type := .byte, accessFlags := 18, slot := 1, constantValue := 0 }, { name := "hash", type := .int, accessFlags := 2, slot := 2, constantValue := 0 }, { name := "hashIsZero", type := .boolean, accessFlags := 2, slot := 3, constantValue := 0 }, { name := "serialVersionUID", type := .long, accessFlags := 26, slot := 0, constantValue := 0 }, { name := "COMPACT_STRINGS", type := .boolean, accessFlags := 24, slot := 1, constantValue := 0 }, { name := "serialPersistentFields", type := (.array (.object "java/io/ObjectStreamField")), accessFlags := 26, slot := 2, constantValue := 0 }, { name := "REPL", type := .char, accessFlags := 26, slot := 3, constantValue := 0 }, { name := "CASE_INSENSITIVE_ORDER", type := (.object "java/util/Comparator"), accessFlags := 25, slot := 4, constantValue := 0 }, { name := "LATIN1", type := .byte, accessFlags := 24, slot := 5, constantValue := 0 }, { name := "UTF16", type := .byte, accessFlags := 24, slot := 6, constantValue := 0 }]
  methods := #[k8m0]
  instanceTypes := #[(.array .byte), .byte, .int, .boolean]
  staticTypes := #[.long, .boolean, (.array (.object "java/io/ObjectStreamField")), .char, (.object "java/util/Comparator"), .byte, .byte]
  resolved := Array.replicate 1451 none
  statics := none }

def pool9 : Array CpInfo := pool [(1, u "java/lang/Cloneable"), (0, .class_ 1), (0, u "java/lang/Object"), (0, .class_ 3)] 3

/-- java/lang/Cloneable -/
def k9 : Class := { plain "java/lang/Cloneable" (some 0) with
  accessFlags := 1537
  interfaces := #[]
  cf := some (fileOf pool9 2 #[] #[] 1537 4 #[] #[])
  fields := #[]
  methods := #[]
  instanceTypes := #[]
  staticTypes := #[]
  resolved := Array.replicate 8 none
  statics := none }

/-- the primitive byte -/
def k10 : Class := { plain "byte" none with kind := .primitive 'B', accessFlags := 0x411 }
/-- [B -/
def k11 : Class := { plain "[B" (some 0) with kind := .array 10 .byte, interfaces := #[9, 3], accessFlags := 1041 }

/-- the primitive int -/
def k12 : Class := { plain "int" none with kind := .primitive 'I', accessFlags := 0x411 }
/-- [I -/
def k13 : Class := { plain "[I" (some 0) with kind := .array 12 .int, interfaces := #[9, 3], accessFlags := 1041 }

def heap : Heap := #[]
def classes : Array Class := #[k0, k1, k2, k3, k4, k5, k6, k7, k8, k9, k10, k11, k12, k13]
def interned : List (Array UInt16 × Addr) := []
def slotsUsed : Nat := 0
def theMethod : MethodId := ⟨1, 1⟩
def args0 : Array Value := #[.int 2, .int 128, .int 191, .int 5, .int 0]
def aboutOver (below : List Frame) : State where
  vm := { classes := classes, interned := interned.toArray }
  heap := heap
  slotsUsed := slotsUsed
  threads := #[{ frames := .invoking theMethod args0 :: below }]
def below0 : List Frame := [.native { method := ⟨0, 0⟩, args := #[] }]
def about1 : State := aboutOver below0
def p0 : Program := .bare "" "" ""
def e0 : Env := launch0.env 0 0 0
theorem w_frames : about1.frames = Frame.invoking theMethod args0 :: below0 := rfl
set_option maxRecDepth 65536 in
theorem w_args : argsFit about1.vm theMethod args0 = true := by decide +kernel
set_option maxRecDepth 65536 in
theorem w_heap : heapFits about1 = true := by decide +kernel
set_option maxRecDepth 65536 in
theorem w_runnable : about1.curStatus? = some .runnable := by decide +kernel
set_option maxRecDepth 65536 in
theorem w_alone : about1.alone = true := by decide +kernel
set_option maxRecDepth 65536 in
theorem w_named : about1.methodNamed? x = some theMethod := by decide +kernel
set_option maxRecDepth 65536 in
theorem w_hears : about1.hears theMethod below0 = true := by decide +kernel
set_option maxRecDepth 65536 in
theorem w_ripe : about1.ripe theMethod args0 below0 = true := by decide +kernel
theorem w_running : about1.status = .running := rfl
set_option maxRecDepth 65536 in
theorem w_room : about1.hasRoom e0.platform room_1 = true :=
  launch0.hasRoom_least _ room_1 (by decide +kernel) (by decide +kernel) (by decide +kernel) (by decide +kernel) (by decide +kernel) (by decide +kernel)
theorem allAtoms_all (ts : List Jvm.Cond) (a : Array Jvm.Value) (st : Jvm.State) : (allAtoms ts).before a st = ts.all (fun c => c.before a st) := by
  induction ts with
  | nil => rfl
  | cons c t ih =>
    show (Jvm.Cond.and c (allAtoms t)).before a st = _
    rw [Jvm.Cond.before_and, ih, List.all_cons]
def words1 : List Jvm.Cond := Jvm.Cond.code x code maxLocals ret :: tables_1
/-- a 'code' word, met by the world's own term for the bytes: nothing is compared byte by byte -/
theorem code_word {y : MethodName} {bytes : ByteArray} {mx : Nat} {rt : Option FieldType} {a : Array Value} {s : State} {m : MethodId} {meth : Method} {c : Code} (h1 : s.methodNamed? y = some m) (h2 : s.vm.method? m = some meth) (h3 : meth.code = some c) (h4 : c.code = bytes)
    (h5 : (c.maxLocals == mx && c.exceptionTable.isEmpty && decide (c.maxStack ≤ mostOperands) && decide (meth.sig.returnType = rt) && !meth.locks && decide (parseMethodDescriptor y.desc = some meth.sig)) = true) : (Jvm.Cond.code y bytes mx rt).before a s = true := by
  simp only [Bool.and_eq_true, beq_iff_eq, Bool.not_eq_true', decide_eq_true_eq] at h5
  obtain ⟨⟨⟨⟨⟨g1, g2⟩, g3⟩, g4⟩, g5⟩, g6⟩ := h5
  simp [Cond.before, Cond.holds, Cond.value, h1, h2, h3, h4, g1, g2, g3, g4, g5, g6]
def isCode : Jvm.Cond → Bool
  | .code _ _ _ _ => true
  | _ => false
theorem all_split {L : List Jvm.Cond} {P : Jvm.Cond → Bool} (h1 : L.all (fun c => isCode c || P c) = true) (h2 : ∀ c ∈ L.filter isCode, P c = true) : L.all P = true := by
  refine List.all_eq_true.mpr fun c hc => ?_
  have h := List.all_eq_true.mp h1 c hc
  rcases Bool.eq_false_or_eq_true (isCode c) with hi | hi
  · exact h2 c (List.mem_filter.mpr ⟨hc, hi⟩)
  · simpa [hi] using h
set_option maxRecDepth 65536 in
theorem w_c0 : (Jvm.Cond.code x code maxLocals ret).before args0 about1 = true := code_word (m := ⟨1, 1⟩) (meth := k1m1) (c := k1c1) (by decide +kernel) rfl rfl rfl (by decide +kernel)
set_option maxRecDepth 65536 in
theorem w_c1 : (Jvm.Cond.code ({ cls := "com/example/dobsonfly/dobsonfly/LeadByte", name := "<init>", desc := "(IIILjava/lang/String;)V" } : Jvm.MethodName) prog_8_method_2_code (5 : Nat) (Option.none : Option Jvm.ClassFile.FieldType)).before args0 about1 = true := code_word (m := ⟨2, 1⟩) (meth := k2m1) (c := k2c1) (by decide +kernel) rfl rfl rfl (by decide +kernel)
set_option maxRecDepth 65536 in
theorem w_c2 : (Jvm.Cond.code ({ cls := "java/lang/Object", name := "<init>", desc := "()V" } : Jvm.MethodName) object_method_1_code (1 : Nat) (Option.none : Option Jvm.ClassFile.FieldType)).before args0 about1 = true := code_word (m := ⟨0, 0⟩) (meth := k0m0) (c := k0c0) (by decide +kernel) rfl rfl rfl (by decide +kernel)
set_option maxRecDepth 65536 in
theorem w_c3 : (Jvm.Cond.code ({ cls := "com/example/dobsonfly/dobsonfly/LeadByte", name := "<init>", desc := "(I)V" } : Jvm.MethodName) prog_8_method_1_code (2 : Nat) (Option.none : Option Jvm.ClassFile.FieldType)).before args0 about1 = true := code_word (m := ⟨2, 0⟩) (meth := k2m0) (c := k2c0) (by decide +kernel) rfl rfl rfl (by decide +kernel)
set_option maxRecDepth 65536 in
theorem w_c4 : (Jvm.Cond.code ({ cls := "com/example/dobsonfly/dobsonfly/LeadByteAllowsSecondPinLaw", name := "unsigned", desc := "(B)I" } : Jvm.MethodName) method_3_code (1 : Nat) (Option.some Jvm.ClassFile.FieldType.int)).before args0 about1 = true := code_word (m := ⟨1, 2⟩) (meth := k1m2) (c := k1c2) (by decide +kernel) rfl rfl rfl (by decide +kernel)
set_option maxRecDepth 65536 in
theorem w_c5 : (Jvm.Cond.code ({ cls := "com/example/dobsonfly/dobsonfly/LeadByte", name := "allowsSecond", desc := "(B)Z" } : Jvm.MethodName) prog_8_method_4_code (3 : Nat) (Option.some Jvm.ClassFile.FieldType.boolean)).before args0 about1 = true := code_word (m := ⟨2, 2⟩) (meth := k2m2) (c := k2c2) (by decide +kernel) rfl rfl rfl (by decide +kernel)
def codes1 : List Jvm.Cond := [Jvm.Cond.code x code maxLocals ret, Jvm.Cond.code ({ cls := "com/example/dobsonfly/dobsonfly/LeadByte", name := "<init>", desc := "(IIILjava/lang/String;)V" } : Jvm.MethodName) prog_8_method_2_code (5 : Nat) (Option.none : Option Jvm.ClassFile.FieldType), Jvm.Cond.code ({ cls := "java/lang/Object", name := "<init>", desc := "()V" } : Jvm.MethodName) object_method_1_code (1 : Nat) (Option.none : Option Jvm.ClassFile.FieldType), Jvm.Cond.code ({ cls := "com/example/dobsonfly/dobsonfly/LeadByte", name := "<init>", desc := "(I)V" } : Jvm.MethodName) prog_8_method_1_code (2 : Nat) (Option.none : Option Jvm.ClassFile.FieldType), Jvm.Cond.code ({ cls := "com/example/dobsonfly/dobsonfly/LeadByteAllowsSecondPinLaw", name := "unsigned", desc := "(B)I" } : Jvm.MethodName) method_3_code (1 : Nat) (Option.some Jvm.ClassFile.FieldType.int), Jvm.Cond.code ({ cls := "com/example/dobsonfly/dobsonfly/LeadByte", name := "allowsSecond", desc := "(B)Z" } : Jvm.MethodName) prog_8_method_4_code (3 : Nat) (Option.some Jvm.ClassFile.FieldType.boolean)]
set_option maxRecDepth 65536 in
theorem codes_eq : words1.filter isCode = codes1 := rfl
theorem w_codes : ∀ c ∈ words1.filter isCode, c.before args0 about1 = true := by
  rw [codes_eq]
  intro c hc
  simp only [codes1, List.mem_cons, List.not_mem_nil, or_false] at hc
  rcases hc with rfl | rfl | rfl | rfl | rfl | rfl
  · exact w_c0
  · exact w_c1
  · exact w_c2
  · exact w_c3
  · exact w_c4
  · exact w_c5
set_option maxRecDepth 65536 in
theorem w_t1 : (words1.take 24).all (fun c => isCode c || c.before args0 about1) = true := by decide +kernel
set_option maxRecDepth 65536 in
theorem w_t2 : (words1.drop 24).all (fun c => isCode c || c.before args0 about1) = true := by decide +kernel
theorem w_tables : (allAtoms (Jvm.Cond.code x code maxLocals ret :: tables_1)).before args0 about1 = true := by
  rw [allAtoms_all]
  show words1.all (fun c => c.before args0 about1) = true
  refine all_split ?_ w_codes
  rw [← List.take_append_drop 24 words1, List.all_append, w_t1, w_t2]
  rfl
set_option maxRecDepth 65536 in
theorem w_case : (Jvm.Cond.and given_1 narrow_1).before args0 about1 = true := by decide +kernel
theorem w_applies : (headSpec (Jvm.Cond.code x code maxLocals ret :: tables_1) room_1).applies x e0.platform about1 = true :=
  (Spec.applies_iff w_frames).mpr ⟨w_running, w_runnable, w_alone, w_named, w_hears, w_ripe, w_room, w_tables⟩
theorem atStart : AtStart classFile x code maxLocals ret World_1 tables_1 room_1 Calls_1 rest_1 Pre_1 launch0 p0 e0 about1 theMethod args0 below0 :=
  ⟨lists_1, trivial, launch0.admits_env _ _ _, launch0.least_env, fairChoices_fair.cas, fairChoices_fair.clock, w_frames, w_args, w_heap, w_applies, trivial, trivial, w_case⟩
end start1
theorem witness_1 : WitnessClaimed_1 := ⟨start1.p0, start1.e0, start1.about1, start1.theMethod, start1.args0, start1.below0, start1.atStart⟩
end Jvm.Pilot.@@N@@
