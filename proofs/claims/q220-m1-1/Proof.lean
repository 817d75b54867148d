import JvmDerived
import JvmDerived.Pilot.@@N@@Statement
import JvmDerived.Pilot.@@N@@Code
set_option linter.unusedVariables false
set_option linter.unusedSimpArgs false
namespace Jvm.Own
open Sem ClassFile Op Lib Jvm.Stand Jvm.Free Jvm.LawKit Jvm.RoadKit
section Base
variable {b : Bool} {p : Program} {l : Launch} {e : Env} {R : Room} {s : State} {m : MethodId} {args : Array Value} {below : List Frame} {meth : Method} {c : Code} {Z : State} {a0 : Array Value} {own : String} {T : State} {h : Heap} {cells slots cells' slots' : Nat} {Q : Option Value → Heap → Prop} {pc pc' : Nat} {Ls : Array Slot} {st : List Value}
/-- the end of a walk: wide (Strings may have been interned) or narrow -/
def EndB (b : Bool) (s : State) (o : Outcome) (t : State) (L : List Loc) (k n : Nat) : Prop := match b with
  | true => ReturnedEndW s o t L k n
  | false => FrameEnd s o t L k n
/-- where a walk stands: Z is the law's own start, whose cells all stand as they stood -/
def Go (b : Bool) (p : Program) (l : Launch) (e : Env) (R : Room) (s : State) (m : MethodId) (args : Array Value) (below : List Frame) (meth : Method) (c : Code) (Z : State) (own : String) (T : State) (h : Heap) (cells slots : Nat) : Prop :=
  ∃ (vm0 : Vm) (k0 : Nat) (locs : List Loc), Stand p l e R (s.setVm vm0) m args below meth c T locs cells slots ∧ (b = false → vm0 = s.vm) ∧ s.Since vm0 k0 ∧ k0 ≤ h.size ∧ Z.Warmed39 vm0 ∧ vm0.findClass own = some m.cls ∧ T.heap = h ∧ Fr Z.heap.size locs ∧ Ext Z.heap h
/-- from here the method comes to its end, and Q holds there -/
def Fz (b : Bool) (p : Program) (e : Env) (R : Room) (s : State) (below : List Frame) (Z : State) (Q : Option Value → Heap → Prop) (u : State) : Prop :=
  ∃ (t : State) (o : Outcome), Steps p.tables e below u t ∧ t.status = .running ∧ Ended t below o ∧ ∃ v L, o = .returned v ∧ (Fr Z.heap.size L ∧ Ext Z.heap t.heap ∧ Q v t.heap) ∧ EndB b s o t L R.cells R.slots
/-- a body's contract -/
def Met (b : Bool) (l : Launch) (Z : State) (y : MethodName) (bytes : ByteArray) (maxL : Nat) (ret : Option FieldType) (ws : List Cond) (rm : Room) (as' : Array Value) (h0 : Heap) (Q : Option Value → Heap → Prop) : Prop :=
  MetFree l y (head1 (Cond.code y bytes maxL ret :: ws) rm) (fun a U => a = as' ∧ Z.Warmed39 U.vm ∧ U.heap = h0) (fun _ _ _ _ _ => True) (fun _ U o U' => ∃ v L, o = .returned v ∧ (Fr Z.heap.size L ∧ Ext Z.heap U'.heap ∧ Q v U'.heap) ∧ EndB b U o U' L rm.cells rm.slots)
abbrev Met1 (b : Bool) (l : Launch) (Z : State) (y : MethodName) (bytes : ByteArray) (maxL : Nat) (ret : Option FieldType) (ws : List Cond) (rm : Room) (as' : Array Value) (h0 : Heap) (q : Value → Heap → Prop) : Prop := Met b l Z y bytes maxL ret ws rm as' h0 (fun v h' => ∃ w, v = some w ∧ q w h')
abbrev Met0 (b : Bool) (l : Launch) (Z : State) (y : MethodName) (bytes : ByteArray) (maxL : Nat) (ret : Option FieldType) (ws : List Cond) (rm : Room) (as' : Array Value) (h0 : Heap) (q : Heap → Prop) : Prop := Met b l Z y bytes maxL ret ws rm as' h0 (fun v h' => v = none ∧ q h')
theorem Met.imp {y : MethodName} {bytes : ByteArray} {maxL : Nat} {ret : Option FieldType} {ws : List Cond} {rm : Room} {as' : Array Value} {h0 : Heap} {Q Q' : Option Value → Heap → Prop} (M : Met b l Z y bytes maxL ret ws rm as' h0 Q) (f : ∀ v h, Q v h → Q' v h) : Met b l Z y bytes maxL ret ws rm as' h0 Q' := fun p e ha hc hk s m args below hf happ hP hK => by
  obtain ⟨n, o, h1, h2, h3, v, L, h4, ⟨h5, h6, h7⟩, h8⟩ := M p e ha hc hk s m args below hf happ hP hK
  exact ⟨n, o, h1, h2, h3, v, L, h4, ⟨h5, h6, f _ _ h7⟩, h8⟩
theorem met_body {y : MethodName} {bytes : ByteArray} {maxL : Nat} {ret : Option FieldType} {ws : List Cond} {rm : Room} {as' : Array Value} {h0 : Heap} (hp : plainFor y = true) (O : Ext Z.heap h0)
    (body : ∀ (p : Program) (e : Env) (s : State) (m : MethodId) (below : List Frame) (meth : Method) (c : Code) (T : State), p.tables.exec = Jvm.exec → c.code = bytes → c.maxLocals = maxL → meth.sig.returnType = ret → meth.locks = false → meth.name = y.name →
      Go b p l e rm s m as' below meth c Z y.cls T h0 0 0 → Fz b p e rm s below Z Q (T.setTop (entryFrame m as' maxL))) : Met b l Z y bytes maxL ret ws rm as' h0 Q := by
  refine MetFree.of_bodySF hp hisR ?_
  intro p e s m args below meth c s₁ Bd hml hP hK
  obtain ⟨rfl, hZ, hh⟩ := hP
  have X0 : Stand p l e rm s m args below meth c s₁ [] 0 0 := Stand.of_body Bd
  have e0 : s₁.heap = h0 := by rw [← hh, Bd.state]; rfl
  obtain ⟨t, o, h1, h2, h3, h4⟩ := body p e s m below meth c s₁ Bd.exec Bd.bytes hml Bd.returns (BodyLoose.notSynchronized Bd) (name_of_methodNamed Bd.named Bd.method).1 ⟨s.vm, 0, [], X0, fun _ => rfl, (State.WarmedH.refl s).since 0, Nat.zero_le _, hZ, findClass_of_methodNamed Bd.named, e0, Fr.nil _, O⟩
  exact ⟨t, o, h1, h2, h3, h4⟩
theorem Go.here (G : Go b p l e R s m args below meth c Z own T h cells slots) : At T m c below := by obtain ⟨_, _, _, X, _⟩ := G; exact X.here
theorem Go.old (G : Go b p l e R s m args below meth c Z own T h cells slots) : Ext Z.heap h := by obtain ⟨_, _, _, _, _, _, _, _, _, _, _, O⟩ := G; exact O
theorem Go.mono (G : Go b p l e R s m args below meth c Z own T h cells slots) (hc : cells ≤ cells') (hs : slots ≤ slots') : Go b p l e R s m args below meth c Z own T h cells' slots' := by
  obtain ⟨vm0, k0, locs, X, r⟩ := G
  exact ⟨vm0, k0, locs, X.mono hc hs, r⟩
theorem Fz.of {u u' : State} (f : ∀ t, Steps p.tables e below u' t → Steps p.tables e below u t) (K : Fz b p e R s below Z Q u') : Fz b p e R s below Z Q u := by
  obtain ⟨t, o, h1, r⟩ := K
  exact ⟨t, o, f t h1, r⟩
theorem Fz.entry {g g' : JFrame} (q : g = g') (K : Fz b p e R s below Z Q (T.setTop g')) : Fz b p e R s below Z Q (T.setTop g) := q ▸ K

theorem aload {k : Nat} {v : Value} (H : At T m c below) (hx : p.tables.exec = Jvm.exec) (hd : decode c.code pc = .ok (.aload k, 2)) (hl : Ls[k]? = some (.val v)) (hv : v.isRef = true) (hp : pc + 2 = pc') (K : Fz b p e R s below Z Q (T.setTop (mkF m pc' Ls (v :: st)))) : Fz b p e R s below Z Q (T.setTop (mkF m pc Ls st)) := by
  subst hp
  exact Fz.of (fun t k => XS.aload H hx rfl hd hl hv k) K
theorem aloadN {k : Fin 4} {v : Value} (H : At T m c below) (hx : p.tables.exec = Jvm.exec) (hd : decode c.code pc = .ok (.aload_n k, 1)) (hl : Ls[k.val]? = some (.val v)) (hv : v.isRef = true) (hp : pc + 1 = pc') (K : Fz b p e R s below Z Q (T.setTop (mkF m pc' Ls (v :: st)))) : Fz b p e R s below Z Q (T.setTop (mkF m pc Ls st)) := by
  subst hp
  exact Fz.of (fun t k => XS.aloadN H hx rfl hd hl hv k) K
theorem iload {k : Nat} {v : Int32} (H : At T m c below) (hx : p.tables.exec = Jvm.exec) (hd : decode c.code pc = .ok (.iload k, 2)) (hl : Ls[k]? = some (.val (.int v))) (hp : pc + 2 = pc') (K : Fz b p e R s below Z Q (T.setTop (mkF m pc' Ls ((.int v) :: st)))) : Fz b p e R s below Z Q (T.setTop (mkF m pc Ls st)) := by
  subst hp
  exact Fz.of (fun t k => XS.iload H hx rfl hd hl k) K
theorem iloadN {k : Fin 4} {v : Int32} (H : At T m c below) (hx : p.tables.exec = Jvm.exec) (hd : decode c.code pc = .ok (.iload_n k, 1)) (hl : Ls[k.val]? = some (.val (.int v))) (hp : pc + 1 = pc') (K : Fz b p e R s below Z Q (T.setTop (mkF m pc' Ls ((.int v) :: st)))) : Fz b p e R s below Z Q (T.setTop (mkF m pc Ls st)) := by
  subst hp
  exact Fz.of (fun t k => XS.iloadN H hx rfl hd hl k) K
theorem lload {k : Nat} {v : Int64} (H : At T m c below) (hx : p.tables.exec = Jvm.exec) (hd : decode c.code pc = .ok (.lload k, 2)) (hl : Ls[k]? = some (.val (.long v))) (hp : pc + 2 = pc') (K : Fz b p e R s below Z Q (T.setTop (mkF m pc' Ls ((.long v) :: st)))) : Fz b p e R s below Z Q (T.setTop (mkF m pc Ls st)) := by
  subst hp
  exact Fz.of (fun t k => XS.lload H hx rfl hd hl k) K
theorem lloadN {k : Fin 4} {v : Int64} (H : At T m c below) (hx : p.tables.exec = Jvm.exec) (hd : decode c.code pc = .ok (.lload_n k, 1)) (hl : Ls[k.val]? = some (.val (.long v))) (hp : pc + 1 = pc') (K : Fz b p e R s below Z Q (T.setTop (mkF m pc' Ls ((.long v) :: st)))) : Fz b p e R s below Z Q (T.setTop (mkF m pc Ls st)) := by
  subst hp
  exact Fz.of (fun t k => XS.lloadN H hx rfl hd hl k) K
theorem astore {k : Nat} {v : Value} {Ls' : Array Slot} (H : At T m c below) (hx : p.tables.exec = Jvm.exec) (hd : decode c.code pc = .ok (.astore k, 2)) (hv : v.isRef = true) (hl : storeLocals Ls k v = some Ls') (hp : pc + 2 = pc') (K : Fz b p e R s below Z Q (T.setTop (mkF m pc' Ls' st))) : Fz b p e R s below Z Q (T.setTop (mkF m pc Ls (v :: st))) := by
  subst hp
  exact Fz.of (fun t k => XS.astore H hx rfl hd rfl hv hl k) K
theorem astoreN {k : Fin 4} {v : Value} {Ls' : Array Slot} (H : At T m c below) (hx : p.tables.exec = Jvm.exec) (hd : decode c.code pc = .ok (.astore_n k, 1)) (hv : v.isRef = true) (hl : storeLocals Ls k.val v = some Ls') (hp : pc + 1 = pc') (K : Fz b p e R s below Z Q (T.setTop (mkF m pc' Ls' st))) : Fz b p e R s below Z Q (T.setTop (mkF m pc Ls (v :: st))) := by
  subst hp
  exact Fz.of (fun t k => XS.astoreN H hx rfl hd rfl hv hl k) K
theorem istore {k : Nat} {v : Int32} {Ls' : Array Slot} (H : At T m c below) (hx : p.tables.exec = Jvm.exec) (hd : decode c.code pc = .ok (.istore k, 2)) (hl : storeLocals Ls k (.int v) = some Ls') (hp : pc + 2 = pc') (K : Fz b p e R s below Z Q (T.setTop (mkF m pc' Ls' st))) : Fz b p e R s below Z Q (T.setTop (mkF m pc Ls ((.int v) :: st))) := by
  subst hp
  exact Fz.of (fun t k => XS.istore H hx rfl hd rfl hl k) K
theorem istoreN {k : Fin 4} {v : Int32} {Ls' : Array Slot} (H : At T m c below) (hx : p.tables.exec = Jvm.exec) (hd : decode c.code pc = .ok (.istore_n k, 1)) (hl : storeLocals Ls k.val (.int v) = some Ls') (hp : pc + 1 = pc') (K : Fz b p e R s below Z Q (T.setTop (mkF m pc' Ls' st))) : Fz b p e R s below Z Q (T.setTop (mkF m pc Ls ((.int v) :: st))) := by
  subst hp
  exact Fz.of (fun t k => XS.istoreN H hx rfl hd rfl hl k) K
theorem lstore {k : Nat} {v : Int64} {Ls' : Array Slot} (H : At T m c below) (hx : p.tables.exec = Jvm.exec) (hd : decode c.code pc = .ok (.lstore k, 2)) (hl : storeLocals Ls k (.long v) = some Ls') (hp : pc + 2 = pc') (K : Fz b p e R s below Z Q (T.setTop (mkF m pc' Ls' st))) : Fz b p e R s below Z Q (T.setTop (mkF m pc Ls ((.long v) :: st))) := by
  subst hp
  exact Fz.of (fun t k => XS.lstore H hx rfl hd rfl hl k) K
theorem lstoreN {k : Fin 4} {v : Int64} {Ls' : Array Slot} (H : At T m c below) (hx : p.tables.exec = Jvm.exec) (hd : decode c.code pc = .ok (.lstore_n k, 1)) (hl : storeLocals Ls k.val (.long v) = some Ls') (hp : pc + 1 = pc') (K : Fz b p e R s below Z Q (T.setTop (mkF m pc' Ls' st))) : Fz b p e R s below Z Q (T.setTop (mkF m pc Ls ((.long v) :: st))) := by
  subst hp
  exact Fz.of (fun t k => XS.lstoreN H hx rfl hd rfl hl k) K
theorem iconst {i : Int} {v : Int32} (H : At T m c below) (hx : p.tables.exec = Jvm.exec) (hd : decode c.code pc = .ok (.iconst i, 1)) (hv : Int32.ofInt i = v) (hp : pc + 1 = pc') (K : Fz b p e R s below Z Q (T.setTop (mkF m pc' Ls (.int v :: st)))) : Fz b p e R s below Z Q (T.setTop (mkF m pc Ls st)) := by
  subst hp; subst hv
  exact Fz.of (fun t k => XS.iconst H hx rfl hd k) K
theorem bipush {i : Int} {v : Int32} (H : At T m c below) (hx : p.tables.exec = Jvm.exec) (hd : decode c.code pc = .ok (.bipush i, 2)) (hv : (Int8.ofInt i).toInt32 = v) (hp : pc + 2 = pc') (K : Fz b p e R s below Z Q (T.setTop (mkF m pc' Ls (.int v :: st)))) : Fz b p e R s below Z Q (T.setTop (mkF m pc Ls st)) := by
  subst hp; subst hv
  exact Fz.of (fun t k => XS.bipush H hx rfl hd k) K
theorem sipush {i : Int} {v : Int32} (H : At T m c below) (hx : p.tables.exec = Jvm.exec) (hd : decode c.code pc = .ok (.sipush i, 3)) (hv : (Int16.ofInt i).toInt32 = v) (hp : pc + 3 = pc') (K : Fz b p e R s below Z Q (T.setTop (mkF m pc' Ls (.int v :: st)))) : Fz b p e R s below Z Q (T.setTop (mkF m pc Ls st)) := by
  subst hp; subst hv
  exact Fz.of (fun t k => XS.sipush H hx rfl hd k) K
theorem lconst {i : Fin 2} {v : Int64} (H : At T m c below) (hx : p.tables.exec = Jvm.exec) (hd : decode c.code pc = .ok (.lconst i, 1)) (hv : Int64.ofNat i = v) (hp : pc + 1 = pc') (K : Fz b p e R s below Z Q (T.setTop (mkF m pc' Ls (.long v :: st)))) : Fz b p e R s below Z Q (T.setTop (mkF m pc Ls st)) := by
  subst hp; subst hv
  exact Fz.of (fun t k => XS.lconst H hx rfl hd k) K
theorem aconstNull (H : At T m c below) (hx : p.tables.exec = Jvm.exec) (hd : decode c.code pc = .ok (.aconst_null, 1)) (hp : pc + 1 = pc') (K : Fz b p e R s below Z Q (T.setTop (mkF m pc' Ls (.null :: st)))) : Fz b p e R s below Z Q (T.setTop (mkF m pc Ls st)) := by
  subst hp
  exact Fz.of (fun t k => XS.aconstNull H hx rfl hd k) K
theorem iadd {x y : Int32} (H : At T m c below) (hx : p.tables.exec = Jvm.exec) (hd : decode c.code pc = .ok (.iadd, 1)) (hp : pc + 1 = pc') (K : Fz b p e R s below Z Q (T.setTop (mkF m pc' Ls (.int (x + y) :: st)))) : Fz b p e R s below Z Q (T.setTop (mkF m pc Ls (.int y :: .int x :: st))) := by
  subst hp
  exact Fz.of (fun t k => XS.iadd H hx rfl hd rfl k) K
theorem ladd {x y : Int64} (H : At T m c below) (hx : p.tables.exec = Jvm.exec) (hd : decode c.code pc = .ok (.ladd, 1)) (hp : pc + 1 = pc') (K : Fz b p e R s below Z Q (T.setTop (mkF m pc' Ls (.long (x + y) :: st)))) : Fz b p e R s below Z Q (T.setTop (mkF m pc Ls (.long y :: .long x :: st))) := by
  subst hp
  exact Fz.of (fun t k => XS.ladd H hx rfl hd rfl k) K
theorem isub {x y : Int32} (H : At T m c below) (hx : p.tables.exec = Jvm.exec) (hd : decode c.code pc = .ok (.isub, 1)) (hp : pc + 1 = pc') (K : Fz b p e R s below Z Q (T.setTop (mkF m pc' Ls (.int (x - y) :: st)))) : Fz b p e R s below Z Q (T.setTop (mkF m pc Ls (.int y :: .int x :: st))) := by
  subst hp
  exact Fz.of (fun t k => XS.isub H hx rfl hd rfl k) K
theorem lsub {x y : Int64} (H : At T m c below) (hx : p.tables.exec = Jvm.exec) (hd : decode c.code pc = .ok (.lsub, 1)) (hp : pc + 1 = pc') (K : Fz b p e R s below Z Q (T.setTop (mkF m pc' Ls (.long (x - y) :: st)))) : Fz b p e R s below Z Q (T.setTop (mkF m pc Ls (.long y :: .long x :: st))) := by
  subst hp
  exact Fz.of (fun t k => XS.lsub H hx rfl hd rfl k) K
theorem imul {x y : Int32} (H : At T m c below) (hx : p.tables.exec = Jvm.exec) (hd : decode c.code pc = .ok (.imul, 1)) (hp : pc + 1 = pc') (K : Fz b p e R s below Z Q (T.setTop (mkF m pc' Ls (.int (x * y) :: st)))) : Fz b p e R s below Z Q (T.setTop (mkF m pc Ls (.int y :: .int x :: st))) := by
  subst hp
  exact Fz.of (fun t k => XS.imul H hx rfl hd rfl k) K
theorem lmul {x y : Int64} (H : At T m c below) (hx : p.tables.exec = Jvm.exec) (hd : decode c.code pc = .ok (.lmul, 1)) (hp : pc + 1 = pc') (K : Fz b p e R s below Z Q (T.setTop (mkF m pc' Ls (.long (x * y) :: st)))) : Fz b p e R s below Z Q (T.setTop (mkF m pc Ls (.long y :: .long x :: st))) := by
  subst hp
  exact Fz.of (fun t k => XS.lmul H hx rfl hd rfl k) K
theorem iand {x y : Int32} (H : At T m c below) (hx : p.tables.exec = Jvm.exec) (hd : decode c.code pc = .ok (.iand, 1)) (hp : pc + 1 = pc') (K : Fz b p e R s below Z Q (T.setTop (mkF m pc' Ls (.int (x &&& y) :: st)))) : Fz b p e R s below Z Q (T.setTop (mkF m pc Ls (.int y :: .int x :: st))) := by
  subst hp
  exact Fz.of (fun t k => XS.iand H hx rfl hd rfl k) K
theorem land {x y : Int64} (H : At T m c below) (hx : p.tables.exec = Jvm.exec) (hd : decode c.code pc = .ok (.land, 1)) (hp : pc + 1 = pc') (K : Fz b p e R s below Z Q (T.setTop (mkF m pc' Ls (.long (x &&& y) :: st)))) : Fz b p e R s below Z Q (T.setTop (mkF m pc Ls (.long y :: .long x :: st))) := by
  subst hp
  exact Fz.of (fun t k => XS.land H hx rfl hd rfl k) K
theorem ior {x y : Int32} (H : At T m c below) (hx : p.tables.exec = Jvm.exec) (hd : decode c.code pc = .ok (.ior, 1)) (hp : pc + 1 = pc') (K : Fz b p e R s below Z Q (T.setTop (mkF m pc' Ls (.int (x ||| y) :: st)))) : Fz b p e R s below Z Q (T.setTop (mkF m pc Ls (.int y :: .int x :: st))) := by
  subst hp
  exact Fz.of (fun t k => XS.ior H hx rfl hd rfl k) K
theorem lor {x y : Int64} (H : At T m c below) (hx : p.tables.exec = Jvm.exec) (hd : decode c.code pc = .ok (.lor, 1)) (hp : pc + 1 = pc') (K : Fz b p e R s below Z Q (T.setTop (mkF m pc' Ls (.long (x ||| y) :: st)))) : Fz b p e R s below Z Q (T.setTop (mkF m pc Ls (.long y :: .long x :: st))) := by
  subst hp
  exact Fz.of (fun t k => XS.lor H hx rfl hd rfl k) K
theorem ixor {x y : Int32} (H : At T m c below) (hx : p.tables.exec = Jvm.exec) (hd : decode c.code pc = .ok (.ixor, 1)) (hp : pc + 1 = pc') (K : Fz b p e R s below Z Q (T.setTop (mkF m pc' Ls (.int (x ^^^ y) :: st)))) : Fz b p e R s below Z Q (T.setTop (mkF m pc Ls (.int y :: .int x :: st))) := by
  subst hp
  exact Fz.of (fun t k => XS.ixor H hx rfl hd rfl k) K
theorem lxor {x y : Int64} (H : At T m c below) (hx : p.tables.exec = Jvm.exec) (hd : decode c.code pc = .ok (.lxor, 1)) (hp : pc + 1 = pc') (K : Fz b p e R s below Z Q (T.setTop (mkF m pc' Ls (.long (x ^^^ y) :: st)))) : Fz b p e R s below Z Q (T.setTop (mkF m pc Ls (.long y :: .long x :: st))) := by
  subst hp
  exact Fz.of (fun t k => XS.lxor H hx rfl hd rfl k) K
theorem iaddC {x y v : Int32} (H : At T m c below) (hx : p.tables.exec = Jvm.exec) (hd : decode c.code pc = .ok (.iadd, 1)) (hv : x + y = v) (hp : pc + 1 = pc') (K : Fz b p e R s below Z Q (T.setTop (mkF m pc' Ls (.int v :: st)))) : Fz b p e R s below Z Q (T.setTop (mkF m pc Ls (.int y :: .int x :: st))) := by
  subst hp; subst hv
  exact Fz.of (fun t k => XS.iadd H hx rfl hd rfl k) K
theorem isubC {x y v : Int32} (H : At T m c below) (hx : p.tables.exec = Jvm.exec) (hd : decode c.code pc = .ok (.isub, 1)) (hv : x - y = v) (hp : pc + 1 = pc') (K : Fz b p e R s below Z Q (T.setTop (mkF m pc' Ls (.int v :: st)))) : Fz b p e R s below Z Q (T.setTop (mkF m pc Ls (.int y :: .int x :: st))) := by
  subst hp; subst hv
  exact Fz.of (fun t k => XS.isub H hx rfl hd rfl k) K
theorem imulC {x y v : Int32} (H : At T m c below) (hx : p.tables.exec = Jvm.exec) (hd : decode c.code pc = .ok (.imul, 1)) (hv : x * y = v) (hp : pc + 1 = pc') (K : Fz b p e R s below Z Q (T.setTop (mkF m pc' Ls (.int v :: st)))) : Fz b p e R s below Z Q (T.setTop (mkF m pc Ls (.int y :: .int x :: st))) := by
  subst hp; subst hv
  exact Fz.of (fun t k => XS.imul H hx rfl hd rfl k) K
theorem iandC {x y v : Int32} (H : At T m c below) (hx : p.tables.exec = Jvm.exec) (hd : decode c.code pc = .ok (.iand, 1)) (hv : x &&& y = v) (hp : pc + 1 = pc') (K : Fz b p e R s below Z Q (T.setTop (mkF m pc' Ls (.int v :: st)))) : Fz b p e R s below Z Q (T.setTop (mkF m pc Ls (.int y :: .int x :: st))) := by
  subst hp; subst hv
  exact Fz.of (fun t k => XS.iand H hx rfl hd rfl k) K
theorem ishrC {x y v : Int32} (H : At T m c below) (hx : p.tables.exec = Jvm.exec) (hd : decode c.code pc = .ok (.ishr, 1)) (hv : x >>> (y &&& 31) = v) (hp : pc + 1 = pc') (K : Fz b p e R s below Z Q (T.setTop (mkF m pc' Ls (.int v :: st)))) : Fz b p e R s below Z Q (T.setTop (mkF m pc Ls (.int y :: .int x :: st))) := by
  subst hp; subst hv
  exact Fz.of (fun t k => XS.ishr H hx rfl hd rfl k) K
theorem ishlC {x y v : Int32} (H : At T m c below) (hx : p.tables.exec = Jvm.exec) (hd : decode c.code pc = .ok (.ishl, 1)) (hv : x <<< (y &&& 31) = v) (hp : pc + 1 = pc') (K : Fz b p e R s below Z Q (T.setTop (mkF m pc' Ls (.int v :: st)))) : Fz b p e R s below Z Q (T.setTop (mkF m pc Ls (.int y :: .int x :: st))) := by
  subst hp; subst hv
  exact Fz.of (fun t k => XS.ishl H hx rfl hd rfl k) K
theorem idiv {x y : Int32} (H : At T m c below) (hx : p.tables.exec = Jvm.exec) (hd : decode c.code pc = .ok (.idiv, 1)) (hy : y ≠ 0) (hp : pc + 1 = pc') (K : Fz b p e R s below Z Q (T.setTop (mkF m pc' Ls (.int (x / y) :: st)))) : Fz b p e R s below Z Q (T.setTop (mkF m pc Ls (.int y :: .int x :: st))) := by
  subst hp
  exact Fz.of (fun t k => XS.idiv H hx rfl hd rfl hy k) K
theorem irem {x y : Int32} (H : At T m c below) (hx : p.tables.exec = Jvm.exec) (hd : decode c.code pc = .ok (.irem, 1)) (hy : y ≠ 0) (hp : pc + 1 = pc') (K : Fz b p e R s below Z Q (T.setTop (mkF m pc' Ls (.int (x % y) :: st)))) : Fz b p e R s below Z Q (T.setTop (mkF m pc Ls (.int y :: .int x :: st))) := by
  subst hp
  exact Fz.of (fun t k => XS.irem H hx rfl hd rfl hy (by rw [show x - x / y * y = x % y from Jvm.irem_eq_mod x y]; exact k)) K
theorem ineg {x : Int32} (H : At T m c below) (hx : p.tables.exec = Jvm.exec) (hd : decode c.code pc = .ok (.ineg, 1)) (hp : pc + 1 = pc') (K : Fz b p e R s below Z Q (T.setTop (mkF m pc' Ls (.int (-x) :: st)))) : Fz b p e R s below Z Q (T.setTop (mkF m pc Ls (.int x :: st))) := by
  subst hp
  exact Fz.of (fun t k => XS.ineg H hx rfl hd rfl k) K
theorem lneg {x : Int64} (H : At T m c below) (hx : p.tables.exec = Jvm.exec) (hd : decode c.code pc = .ok (.lneg, 1)) (hp : pc + 1 = pc') (K : Fz b p e R s below Z Q (T.setTop (mkF m pc' Ls (.long (-x) :: st)))) : Fz b p e R s below Z Q (T.setTop (mkF m pc Ls (.long x :: st))) := by
  subst hp
  exact Fz.of (fun t k => XS.lneg H hx rfl hd rfl k) K
theorem i2l {x : Int32} (H : At T m c below) (hx : p.tables.exec = Jvm.exec) (hd : decode c.code pc = .ok (.i2l, 1)) (hp : pc + 1 = pc') (K : Fz b p e R s below Z Q (T.setTop (mkF m pc' Ls (.long x.toInt64 :: st)))) : Fz b p e R s below Z Q (T.setTop (mkF m pc Ls (.int x :: st))) := by
  subst hp
  exact Fz.of (fun t k => XS.i2l H hx rfl hd rfl k) K
theorem l2i {x : Int64} (H : At T m c below) (hx : p.tables.exec = Jvm.exec) (hd : decode c.code pc = .ok (.l2i, 1)) (hp : pc + 1 = pc') (K : Fz b p e R s below Z Q (T.setTop (mkF m pc' Ls (.int x.toInt32 :: st)))) : Fz b p e R s below Z Q (T.setTop (mkF m pc Ls (.long x :: st))) := by
  subst hp
  exact Fz.of (fun t k => XS.l2i H hx rfl hd rfl k) K
theorem i2b {x : Int32} (H : At T m c below) (hx : p.tables.exec = Jvm.exec) (hd : decode c.code pc = .ok (.i2b, 1)) (hp : pc + 1 = pc') (K : Fz b p e R s below Z Q (T.setTop (mkF m pc' Ls (.int x.toInt8.toInt32 :: st)))) : Fz b p e R s below Z Q (T.setTop (mkF m pc Ls (.int x :: st))) := by
  subst hp
  exact Fz.of (fun t k => XS.i2b H hx rfl hd rfl k) K
theorem i2s {x : Int32} (H : At T m c below) (hx : p.tables.exec = Jvm.exec) (hd : decode c.code pc = .ok (.i2s, 1)) (hp : pc + 1 = pc') (K : Fz b p e R s below Z Q (T.setTop (mkF m pc' Ls (.int x.toInt16.toInt32 :: st)))) : Fz b p e R s below Z Q (T.setTop (mkF m pc Ls (.int x :: st))) := by
  subst hp
  exact Fz.of (fun t k => XS.i2s H hx rfl hd rfl k) K
theorem i2c {x : Int32} (H : At T m c below) (hx : p.tables.exec = Jvm.exec) (hd : decode c.code pc = .ok (.i2c, 1)) (hp : pc + 1 = pc') (K : Fz b p e R s below Z Q (T.setTop (mkF m pc' Ls (.int x.toUInt32.toUInt16.toUInt32.toInt32 :: st)))) : Fz b p e R s below Z Q (T.setTop (mkF m pc Ls (.int x :: st))) := by
  subst hp
  exact Fz.of (fun t k => XS.i2c H hx rfl hd rfl k) K
theorem ishl {x y : Int32} (H : At T m c below) (hx : p.tables.exec = Jvm.exec) (hd : decode c.code pc = .ok (.ishl, 1)) (hp : pc + 1 = pc') (K : Fz b p e R s below Z Q (T.setTop (mkF m pc' Ls (.int (x <<< (y &&& 31)) :: st)))) : Fz b p e R s below Z Q (T.setTop (mkF m pc Ls (.int y :: .int x :: st))) := by
  subst hp
  exact Fz.of (fun t k => XS.ishl H hx rfl hd rfl k) K
theorem ishr {x y : Int32} (H : At T m c below) (hx : p.tables.exec = Jvm.exec) (hd : decode c.code pc = .ok (.ishr, 1)) (hp : pc + 1 = pc') (K : Fz b p e R s below Z Q (T.setTop (mkF m pc' Ls (.int (x >>> (y &&& 31)) :: st)))) : Fz b p e R s below Z Q (T.setTop (mkF m pc Ls (.int y :: .int x :: st))) := by
  subst hp
  exact Fz.of (fun t k => XS.ishr H hx rfl hd rfl k) K
theorem iushr {x y : Int32} (H : At T m c below) (hx : p.tables.exec = Jvm.exec) (hd : decode c.code pc = .ok (.iushr, 1)) (hp : pc + 1 = pc') (K : Fz b p e R s below Z Q (T.setTop (mkF m pc' Ls (.int ((x.toUInt32 >>> (y &&& 31).toUInt32).toInt32) :: st)))) : Fz b p e R s below Z Q (T.setTop (mkF m pc Ls (.int y :: .int x :: st))) := by
  subst hp
  exact Fz.of (fun t k => XS.iushr H hx rfl hd rfl k) K
theorem lcmp {x y : Int64} (H : At T m c below) (hx : p.tables.exec = Jvm.exec) (hd : decode c.code pc = .ok (.lcmp, 1)) (hp : pc + 1 = pc') (K : Fz b p e R s below Z Q (T.setTop (mkF m pc' Ls (.int (lcmpW x y) :: st)))) : Fz b p e R s below Z Q (T.setTop (mkF m pc Ls (.long y :: .long x :: st))) := by
  subst hp
  exact Fz.of (fun t k => XS.lcmp H hx rfl hd rfl k) K
theorem dup {x : Value} (H : At T m c below) (hx : p.tables.exec = Jvm.exec) (hd : decode c.code pc = .ok (.dup, 1)) (hc : x.category = 1) (hp : pc + 1 = pc') (K : Fz b p e R s below Z Q (T.setTop (mkF m pc' Ls (x :: x :: st)))) : Fz b p e R s below Z Q (T.setTop (mkF m pc Ls (x :: st))) := by
  subst hp
  exact Fz.of (fun t k => XS.dup H hx rfl hd rfl hc k) K
theorem pop {x : Value} (H : At T m c below) (hx : p.tables.exec = Jvm.exec) (hd : decode c.code pc = .ok (.pop, 1)) (hc : x.category = 1) (hp : pc + 1 = pc') (K : Fz b p e R s below Z Q (T.setTop (mkF m pc' Ls st))) : Fz b p e R s below Z Q (T.setTop (mkF m pc Ls (x :: st))) := by
  subst hp
  exact Fz.of (fun t k => XS.pop H hx rfl hd rfl hc k) K
theorem dupX1 {x y : Value} (H : At T m c below) (hx : p.tables.exec = Jvm.exec) (hd : decode c.code pc = .ok (.dup_x1, 1)) (hc : x.category = 1) (hc' : y.category = 1) (hp : pc + 1 = pc') (K : Fz b p e R s below Z Q (T.setTop (mkF m pc' Ls (x :: y :: x :: st)))) : Fz b p e R s below Z Q (T.setTop (mkF m pc Ls (x :: y :: st))) := by
  subst hp
  exact Fz.of (fun t k => XS.dupX1 H hx rfl hd rfl hc hc' k) K
theorem goto {o : Int} (H : At T m c below) (hx : p.tables.exec = Jvm.exec) (hd : decode c.code pc = .ok (.goto o, 3)) (ho : 0 ≤ (pc : Int) + o) (hp : ((pc : Int) + o).toNat = pc') (K : Fz b p e R s below Z Q (T.setTop (mkF m pc' Ls st))) : Fz b p e R s below Z Q (T.setTop (mkF m pc Ls st)) :=
  Fz.of (fun t k => XS.goto H hx rfl rfl hd ho hp k) K
theorem ifY {cd : ClassFile.Cond} {x : Int32} {o : Int} (H : At T m c below) (hx : p.tables.exec = Jvm.exec) (hd : decode c.code pc = .ok (.ifCond cd o, 3)) (hc : ifCond.holds cd x = true) (ho : 0 ≤ (pc : Int) + o) (hp : ((pc : Int) + o).toNat = pc') (K : Fz b p e R s below Z Q (T.setTop (mkF m pc' Ls st))) : Fz b p e R s below Z Q (T.setTop (mkF m pc Ls (.int x :: st))) :=
  Fz.of (fun t k => XS.ifYes H hx rfl rfl hd rfl hc ho hp k) K
theorem icmpY {cd : ClassFile.Cond} {x y : Int32} {o : Int} (H : At T m c below) (hx : p.tables.exec = Jvm.exec) (hd : decode c.code pc = .ok (.if_icmp cd o, 3)) (hc : if_icmp.holds cd x y = true) (ho : 0 ≤ (pc : Int) + o) (hp : ((pc : Int) + o).toNat = pc') (K : Fz b p e R s below Z Q (T.setTop (mkF m pc' Ls st))) : Fz b p e R s below Z Q (T.setTop (mkF m pc Ls (.int y :: .int x :: st))) :=
  Fz.of (fun t k => XS.icmpYes H hx rfl rfl hd rfl hc ho hp k) K
theorem ifnullY {o : Int} (H : At T m c below) (hx : p.tables.exec = Jvm.exec) (hd : decode c.code pc = .ok (.ifnull o, 3)) (ho : 0 ≤ (pc : Int) + o) (hp : ((pc : Int) + o).toNat = pc') (K : Fz b p e R s below Z Q (T.setTop (mkF m pc' Ls st))) : Fz b p e R s below Z Q (T.setTop (mkF m pc Ls (.null :: st))) :=
  Fz.of (fun t k => XS.ifnullYes H hx rfl rfl hd rfl ho hp k) K
theorem ifnonnullY {a : Addr} {o : Int} (H : At T m c below) (hx : p.tables.exec = Jvm.exec) (hd : decode c.code pc = .ok (.ifnonnull o, 3)) (ho : 0 ≤ (pc : Int) + o) (hp : ((pc : Int) + o).toNat = pc') (K : Fz b p e R s below Z Q (T.setTop (mkF m pc' Ls st))) : Fz b p e R s below Z Q (T.setTop (mkF m pc Ls (.ref a :: st))) :=
  Fz.of (fun t k => XS.ifnonnullYes H hx rfl rfl hd rfl ho hp k) K
theorem acmpY {cd : ClassFile.ACond} {x y : Value} {o : Int} (H : At T m c below) (hx : p.tables.exec = Jvm.exec) (hd : decode c.code pc = .ok (.if_acmp cd o, 3)) (h1 : x.isRef = true) (h2 : y.isRef = true) (hc : Jvm.Free.XT.acmp cd x y = true) (ho : 0 ≤ (pc : Int) + o) (hp : ((pc : Int) + o).toNat = pc') (K : Fz b p e R s below Z Q (T.setTop (mkF m pc' Ls st))) : Fz b p e R s below Z Q (T.setTop (mkF m pc Ls (y :: x :: st))) :=
  Fz.of (fun t k => Jvm.Free.XT.acmpYes H hx rfl rfl hd rfl h1 h2 hc ho hp k) K
theorem ifN {cd : ClassFile.Cond} {o : Int} {x : Int32} (H : At T m c below) (hx : p.tables.exec = Jvm.exec) (hd : decode c.code pc = .ok (.ifCond cd o, 3)) (hc : ifCond.holds cd x = false) (hp : pc + 3 = pc') (K : Fz b p e R s below Z Q (T.setTop (mkF m pc' Ls st))) : Fz b p e R s below Z Q (T.setTop (mkF m pc Ls (.int x :: st))) := by
  subst hp
  exact Fz.of (fun t k => XS.ifNo H hx rfl hd rfl hc k) K
theorem icmpN {cd : ClassFile.Cond} {o : Int} {x y : Int32} (H : At T m c below) (hx : p.tables.exec = Jvm.exec) (hd : decode c.code pc = .ok (.if_icmp cd o, 3)) (hc : if_icmp.holds cd x y = false) (hp : pc + 3 = pc') (K : Fz b p e R s below Z Q (T.setTop (mkF m pc' Ls st))) : Fz b p e R s below Z Q (T.setTop (mkF m pc Ls (.int y :: .int x :: st))) := by
  subst hp
  exact Fz.of (fun t k => XS.icmpNo H hx rfl hd rfl hc k) K
theorem ifnullN {o : Int} {a : Addr} (H : At T m c below) (hx : p.tables.exec = Jvm.exec) (hd : decode c.code pc = .ok (.ifnull o, 3)) (hp : pc + 3 = pc') (K : Fz b p e R s below Z Q (T.setTop (mkF m pc' Ls st))) : Fz b p e R s below Z Q (T.setTop (mkF m pc Ls (.ref a :: st))) := by
  subst hp
  exact Fz.of (fun t k => XS.ifnullNo H hx rfl hd rfl k) K
theorem ifnonnullN {o : Int} (H : At T m c below) (hx : p.tables.exec = Jvm.exec) (hd : decode c.code pc = .ok (.ifnonnull o, 3)) (hp : pc + 3 = pc') (K : Fz b p e R s below Z Q (T.setTop (mkF m pc' Ls st))) : Fz b p e R s below Z Q (T.setTop (mkF m pc Ls (.null :: st))) := by
  subst hp
  exact Fz.of (fun t k => XS.ifnonnullNo H hx rfl hd rfl k) K
theorem acmpN {cd : ClassFile.ACond} {o : Int} {x y : Value} (H : At T m c below) (hx : p.tables.exec = Jvm.exec) (hd : decode c.code pc = .ok (.if_acmp cd o, 3)) (h1 : x.isRef = true) (h2 : y.isRef = true) (hc : Jvm.Free.XT.acmp cd x y = false) (hp : pc + 3 = pc') (K : Fz b p e R s below Z Q (T.setTop (mkF m pc' Ls st))) : Fz b p e R s below Z Q (T.setTop (mkF m pc Ls (y :: x :: st))) := by
  subst hp
  exact Fz.of (fun t k => Jvm.Free.XT.acmpNo H hx rfl hd rfl h1 h2 hc k) K
theorem getstatic {R0 O' n d host : String} {index : Nat} {v : Value} (G : Go b p l e R s m args below meth c Z own T h cells slots) (hx : p.tables.exec = Jvm.exec) (hd : decode c.code pc = .ok (.getstatic index, 3)) (w : (Cond.fieldLink own index R0 n d).before a0 Z = true ∨ (Cond.fieldLinkNest own index R0 n d host).before a0 Z = true) (via : Via Z R0 O' n d) (F : Sta Z Z.heap O' n d v) (hp : pc + 3 = pc')
    (K : ∀ T', Go b p l e R s m args below meth c Z own T' h cells slots → Fz b p e R s below Z Q (T'.setTop (mkF m pc' Ls (v :: st)))) : Fz b p e R s below Z Q (T.setTop (mkF m pc Ls st)) := by
  subst hp
  obtain ⟨vm0, k0, locs, X, hb, hS, hk, hZ, hown, eT, N, O⟩ := G
  obtain ⟨T', X', e', f⟩ := getS2 X hx hZ hown w via eT (F.ext O) (g := mkF m pc Ls st) rfl hd
  exact Fz.of f (K T' ⟨vm0, k0, locs, X', hb, hS, hk, hZ, hown, e', N, O⟩)
theorem getfield {R0 O' n d host : String} {index : Nat} {a : Addr} {v : Value} (G : Go b p l e R s m args below meth c Z own T h cells slots) (hx : p.tables.exec = Jvm.exec) (hd : decode c.code pc = .ok (.getfield index, 3)) (w : (Cond.fieldLink own index R0 n d).before a0 Z = true ∨ (Cond.fieldLinkNest own index R0 n d host).before a0 Z = true) (via : Via Z R0 O' n d) (F : Fld Z h a O' n d v) (hp : pc + 3 = pc')
    (K : ∀ T', Go b p l e R s m args below meth c Z own T' h cells slots → Fz b p e R s below Z Q (T'.setTop (mkF m pc' Ls (v :: st)))) : Fz b p e R s below Z Q (T.setTop (mkF m pc Ls (.ref a :: st))) := by
  subst hp
  obtain ⟨vm0, k0, locs, X, hb, hS, hk, hZ, hown, eT, N, O⟩ := G
  obtain ⟨T', X', e', f⟩ := getF X hx hZ hown w via eT F (g := mkF m pc Ls (.ref a :: st)) rfl rfl hd
  exact Fz.of f (K T' ⟨vm0, k0, locs, X', hb, hS, hk, hZ, hown, e', N, O⟩)
theorem putfield {R0 O' n d host C : String} {index kk : Nat} {ty : FieldType} {a : Addr} {v u : Value} (G : Go b p l e R s m args below meth c Z own T h cells slots) (hx : p.tables.exec = Jvm.exec) (hd : decode c.code pc = .ok (.putfield index, 3)) (w : (Cond.fieldLink own index R0 n d).before a0 Z = true ∨ (Cond.fieldLinkNest own index R0 n d host).before a0 Z = true) (via : Via Z R0 O' n d) (F : Fld Z h a O' n d u) (E : Exa Z h a C) (L : (Cond.lays C O' n d).before a0 Z = true ∨ ((Cond.laysFinal C O' n d).before a0 Z = true ∧ own = O' ∧ meth.name = "<init>")) (wi : (Cond.instantiable C kk).before a0 Z = true) (hty : parseFieldDescriptor d = some ty) (hn : narrow ty v = v) (hf : fits ty v = true) (ga : Z.heap.size ≤ a) (hp : pc + 3 = pc')
    (K : ∀ T' h', Go b p l e R s m args below meth c Z own T' h' cells slots → Wr h h' a (Jvm.RoadKit.slotOf Z O' n d) v → Fz b p e R s below Z Q (T'.setTop (mkF m pc' Ls st))) : Fz b p e R s below Z Q (T.setTop (mkF m pc Ls (v :: .ref a :: st))) := by
  subst hp
  obtain ⟨vm0, k0, locs, X, hb, hS, hk, hZ, hown, eT, N, O⟩ := G
  obtain ⟨T', h', X', e', W', f⟩ := putF X hx hZ hown w via eT F E L wi hty hn hf (g := mkF m pc Ls (v :: .ref a :: st)) rfl rfl hd
  exact Fz.of f (K T' h' ⟨vm0, k0, _, X', hb, hS, by rw [W'.size]; exact hk, hZ, hown, e', Fr.snoc X' N ga, (Old.wr (n0 := Z.heap.size) ⟨rfl, O⟩ W' ga).2⟩ W')
theorem putfieldN {R0 O' n d C : String} {index kk : Nat} {ty : FieldType} {a : Addr} {v v' u : Value} (G : Go b p l e R s m args below meth c Z own T h cells slots) (hx : p.tables.exec = Jvm.exec) (hd : decode c.code pc = .ok (.putfield index, 3)) (w : (Cond.fieldLink own index R0 n d).before a0 Z = true) (via : Via Z R0 O' n d) (F : Fld Z h a O' n d u) (E : Exa Z h a C) (L : (Cond.lays C O' n d).before a0 Z = true ∨ ((Cond.laysFinal C O' n d).before a0 Z = true ∧ own = O' ∧ meth.name = "<init>")) (wi : (Cond.instantiable C kk).before a0 Z = true) (hty : parseFieldDescriptor d = some ty) (hn : narrow ty v = v') (hf : fits ty v' = true) (ga : Z.heap.size ≤ a) (hp : pc + 3 = pc')
    (K : ∀ T' h', Go b p l e R s m args below meth c Z own T' h' cells slots → Wr h h' a (Jvm.RoadKit.slotOf Z O' n d) v' → Fz b p e R s below Z Q (T'.setTop (mkF m pc' Ls st))) : Fz b p e R s below Z Q (T.setTop (mkF m pc Ls (v :: .ref a :: st))) := by
  subst hp
  obtain ⟨vm0, k0, locs, X, hb, hS, hk, hZ, hown, eT, N, O⟩ := G
  obtain ⟨T', h', X', e', W', f⟩ := putFN X hx hZ hown w via eT F E L wi hty hn hf (g := mkF m pc Ls (v :: .ref a :: st)) rfl rfl hd
  exact Fz.of f (K T' h' ⟨vm0, k0, _, X', hb, hS, by rw [W'.size]; exact hk, hZ, hown, e', Fr.snoc X' N ga, (Old.wr (n0 := Z.heap.size) ⟨rfl, O⟩ W' ga).2⟩ W')
theorem new {C : String} {index kk : Nat} (G : Go b p l e R s m args below meth c Z own T h cells slots) (hx : p.tables.exec = Jvm.exec) (hd : decode c.code pc = .ok (.new index, 3)) (w : (Cond.classLink own index C).before a0 Z = true) (wi : (Cond.instantiable C kk).before a0 Z = true) (wz : (Cond.initialized C).before a0 Z = true) (hc : cells + 1 = cells') (hc' : cells' ≤ R.cells) (hs : slots + kk = slots') (hs' : slots' ≤ R.slots) (hp : pc + 3 = pc')
    (K : ∀ T' h' a, a = h.size → Go b p l e R s m args below meth c Z own T' h' cells' slots' → Ext h h' → Exa Z h' a C → (∀ {O nm d : String} {ty : FieldType}, Laid Z a0 C O nm d → parseFieldDescriptor d = some ty → Fld Z h' a O nm d (defaultValue ty)) → Fz b p e R s below Z Q (T'.setTop (mkF m pc' Ls (.ref a :: st)))) : Fz b p e R s below Z Q (T.setTop (mkF m pc Ls st)) := by
  subst hp
  obtain ⟨vm0, k0, locs, X, hb, hS, hk, hZ, hown, eT, N, O⟩ := G
  subst hc; subst hs
  obtain ⟨T', h', X', e', E', A', D', -, f⟩ := newO X hx hZ hown w wi wz eT (g := mkF m pc Ls st) rfl hd hc' hs'
  exact Fz.of f (K T' h' h.size rfl ⟨vm0, k0, locs, X', hb, hS, Nat.le_trans hk E'.1, hZ, hown, e', N, (Old.ext (n0 := Z.heap.size) ⟨rfl, O⟩ E').2⟩ E' A' D')
theorem newarray {aty : ArrayType} {z : Int32} {cap : Nat} (G : Go b p l e R s m args below meth c Z own T h cells slots) (hx : p.tables.exec = Jvm.exec) (hd : decode c.code pc = .ok (.newarray aty, 2)) (w : (Cond.arrayClass (newarray.typeOf aty)).before a0 Z = true) (hn : ¬ z < 0) (hcap : z.toNatClampNeg ≤ cap) (hb8 : cap * 8 ≤ 536870912) (hc : cells + 1 = cells') (hc' : cells' ≤ R.cells) (hs : slots + cap = slots') (hs' : slots' ≤ R.slots) (hp : pc + 2 = pc')
    (K : ∀ T' h' a k, a = h.size → Go b p l e R s m args below meth c Z own T' h' cells' slots' → Ext h h' → Arv Z h' a k (newarray.typeOf aty) z [] (defaultValue (newarray.typeOf aty)) → Fz b p e R s below Z Q (T'.setTop (mkF m pc' Ls (.ref a :: st)))) : Fz b p e R s below Z Q (T.setTop (mkF m pc Ls (.int z :: st))) := by
  subst hp
  obtain ⟨vm0, k0, locs, X, hb, hS, hk, hZ, hown, eT, N, O⟩ := G
  subst hc; subst hs
  obtain ⟨T', h', k, X', e', E', A', f⟩ := newP X hx hZ w eT (g := mkF m pc Ls (.int z :: st)) rfl hd rfl hn hcap hb8 hc' hs'
  exact Fz.of f (K T' h' h.size k rfl ⟨vm0, k0, locs, X', hb, hS, Nat.le_trans hk E'.1, hZ, hown, e', N, (Old.ext (n0 := Z.heap.size) ⟨rfl, O⟩ E').2⟩ E' (Arv.new A' hn))
theorem anewarray {C : String} {index : Nat} {z : Int32} {cap : Nat} (G : Go b p l e R s m args below meth c Z own T h cells slots) (hx : p.tables.exec = Jvm.exec) (hd : decode c.code pc = .ok (.anewarray index, 3)) (w : (Cond.classLink own index C).before a0 Z = true) (w2 : (Cond.arrayOver (.object C)).before a0 Z = true) (hn : ¬ z < 0) (hcap : z.toNatClampNeg ≤ cap) (hb8 : cap * 8 ≤ 536870912) (hc : cells + 1 = cells') (hc' : cells' ≤ R.cells) (hs : slots + cap = slots') (hs' : slots' ≤ R.slots) (hp : pc + 3 = pc')
    (K : ∀ T' h' a k, a = h.size → Go b p l e R s m args below meth c Z own T' h' cells' slots' → Ext h h' → Arv Z h' a k (.object C) z [] .null → Ovr Z k C → Fz b p e R s below Z Q (T'.setTop (mkF m pc' Ls (.ref a :: st)))) : Fz b p e R s below Z Q (T.setTop (mkF m pc Ls (.int z :: st))) := by
  subst hp
  obtain ⟨vm0, k0, locs, X, hb, hS, hk, hZ, hown, eT, N, O⟩ := G
  subst hc; subst hs
  obtain ⟨T', h', k, X', e', E', A', O2, f⟩ := newR X hx hZ hown w w2 eT (g := mkF m pc Ls (.int z :: st)) rfl hd rfl hn hcap hb8 hc' hs'
  exact Fz.of f (K T' h' h.size k rfl ⟨vm0, k0, locs, X', hb, hS, Nat.le_trans hk E'.1, hZ, hown, e', N, (Old.ext (n0 := Z.heap.size) ⟨rfl, O⟩ E').2⟩ E' (Arv.new A' hn) O2)
theorem iastore {k : ClassId} {z j x : Int32} {a : Addr} {vs : List Value} {dv : Value} {i : Nat} (G : Go b p l e R s m args below meth c Z own T h cells slots) (hx : p.tables.exec = Jvm.exec) (hd : decode c.code pc = .ok (.iastore, 1)) (V : Arv Z h a k .int z vs dv) (hj : ¬ j < 0 ∧ j < z) (hi : j.toNatClampNeg = i) (hl : i < vs.length) (ga : Z.heap.size ≤ a) (hp : pc + 1 = pc')
    (K : ∀ T' h', Go b p l e R s m args below meth c Z own T' h' cells slots → Wr h h' a j.toNatClampNeg (.int x) → Arv Z h' a k .int z (vs.set i (.int x)) dv → Fz b p e R s below Z Q (T'.setTop (mkF m pc' Ls st))) : Fz b p e R s below Z Q (T.setTop (mkF m pc Ls (.int x :: .int j :: .ref a :: st))) := by
  subst hp
  obtain ⟨vm0, k0, locs, X, hb, hS, hk, hZ, hown, eT, N, O⟩ := G
  obtain ⟨cl, A, q1, S, q3, H, G2⟩ := V
  obtain ⟨T', h', X', e', W', f⟩ := stI X hx hZ eT A (inb_of S hj) (g := mkF m pc Ls (.int x :: .int j :: .ref a :: st)) rfl rfl hd
  exact Fz.of f (K T' h' ⟨vm0, k0, _, X', hb, hS, by rw [W'.size]; exact hk, hZ, hown, e', Fr.snoc X' N ga, (Old.wr (n0 := Z.heap.size) ⟨rfl, O⟩ W' ga).2⟩ W' (Arv.set A q1 S q3 H G2 rfl W' i hi hl))
theorem bastore {k : ClassId} {z j x : Int32} {a : Addr} {vs : List Value} {dv : Value} {i : Nat} (G : Go b p l e R s m args below meth c Z own T h cells slots) (hx : p.tables.exec = Jvm.exec) (hd : decode c.code pc = .ok (.bastore, 1)) (V : Arv Z h a k .byte z vs dv) (hj : ¬ j < 0 ∧ j < z) (hi : j.toNatClampNeg = i) (hl : i < vs.length) (ga : Z.heap.size ≤ a) (hp : pc + 1 = pc')
    (K : ∀ T' h', Go b p l e R s m args below meth c Z own T' h' cells slots → Wr h h' a j.toNatClampNeg (.int (nar .byte x)) → Arv Z h' a k .byte z (vs.set i (.int (nar .byte x))) dv → Fz b p e R s below Z Q (T'.setTop (mkF m pc' Ls st))) : Fz b p e R s below Z Q (T.setTop (mkF m pc Ls (.int x :: .int j :: .ref a :: st))) := by
  subst hp
  obtain ⟨vm0, k0, locs, X, hb, hS, hk, hZ, hown, eT, N, O⟩ := G
  obtain ⟨cl, A, q1, S, q3, H, G2⟩ := V
  obtain ⟨T', h', X', e', W', f⟩ := stB X hx hZ eT A (inb_of S hj) (g := mkF m pc Ls (.int x :: .int j :: .ref a :: st)) rfl rfl hd
  exact Fz.of f (K T' h' ⟨vm0, k0, _, X', hb, hS, by rw [W'.size]; exact hk, hZ, hown, e', Fr.snoc X' N ga, (Old.wr (n0 := Z.heap.size) ⟨rfl, O⟩ W' ga).2⟩ W' (Arv.set A q1 S q3 H G2 (fits_nar_byte x) W' i hi hl))
theorem castore {k : ClassId} {z j x : Int32} {a : Addr} {vs : List Value} {dv : Value} {i : Nat} (G : Go b p l e R s m args below meth c Z own T h cells slots) (hx : p.tables.exec = Jvm.exec) (hd : decode c.code pc = .ok (.castore, 1)) (V : Arv Z h a k .char z vs dv) (hj : ¬ j < 0 ∧ j < z) (hi : j.toNatClampNeg = i) (hl : i < vs.length) (ga : Z.heap.size ≤ a) (hp : pc + 1 = pc')
    (K : ∀ T' h', Go b p l e R s m args below meth c Z own T' h' cells slots → Wr h h' a j.toNatClampNeg (.int (nar .char x)) → Arv Z h' a k .char z (vs.set i (.int (nar .char x))) dv → Fz b p e R s below Z Q (T'.setTop (mkF m pc' Ls st))) : Fz b p e R s below Z Q (T.setTop (mkF m pc Ls (.int x :: .int j :: .ref a :: st))) := by
  subst hp
  obtain ⟨vm0, k0, locs, X, hb, hS, hk, hZ, hown, eT, N, O⟩ := G
  obtain ⟨cl, A, q1, S, q3, H, G2⟩ := V
  obtain ⟨T', h', X', e', W', f⟩ := stC X hx hZ eT A (inb_of S hj) (g := mkF m pc Ls (.int x :: .int j :: .ref a :: st)) rfl rfl hd
  exact Fz.of f (K T' h' ⟨vm0, k0, _, X', hb, hS, by rw [W'.size]; exact hk, hZ, hown, e', Fr.snoc X' N ga, (Old.wr (n0 := Z.heap.size) ⟨rfl, O⟩ W' ga).2⟩ W' (Arv.set A q1 S q3 H G2 (fits_nar_char x) W' i hi hl))
theorem aastore {C : String} {k : ClassId} {z j : Int32} {a y : Addr} {vs : List Value} {dv : Value} {i : Nat} (G : Go b p l e R s m args below meth c Z own T h cells slots) (hx : p.tables.exec = Jvm.exec) (hd : decode c.code pc = .ok (.aastore, 1)) (V : Arv Z h a k (.object C) z vs dv) (OV : Ovr Z k C) (I : Ins Z h y C true) (hj : ¬ j < 0 ∧ j < z) (hi : j.toNatClampNeg = i) (hl : i < vs.length) (ga : Z.heap.size ≤ a) (hp : pc + 1 = pc')
    (K : ∀ T' h', Go b p l e R s m args below meth c Z own T' h' cells slots → Wr h h' a j.toNatClampNeg (.ref y) → Arv Z h' a k (.object C) z (vs.set i (.ref y)) dv → Fz b p e R s below Z Q (T'.setTop (mkF m pc' Ls st))) : Fz b p e R s below Z Q (T.setTop (mkF m pc Ls (.ref y :: .int j :: .ref a :: st))) := by
  subst hp
  obtain ⟨vm0, k0, locs, X, hb, hS, hk, hZ, hown, eT, N, O⟩ := G
  obtain ⟨cl, A, q1, S, q3, H, G2⟩ := V
  obtain ⟨T', h', X', e', W', f⟩ := stR X hx hZ eT A (inb_of S hj) rfl (Sto.ofV A q1 OV I) (g := mkF m pc Ls (.ref y :: .int j :: .ref a :: st)) rfl rfl hd
  exact Fz.of f (K T' h' ⟨vm0, k0, _, X', hb, hS, by rw [W'.size]; exact hk, hZ, hown, e', Fr.snoc X' N ga, (Old.wr (n0 := Z.heap.size) ⟨rfl, O⟩ W' ga).2⟩ W' (Arv.set A q1 S q3 H G2 rfl W' i hi hl))
theorem iaload {k : ClassId} {z j : Int32} {a : Addr} {v : Value} {vs : List Value} {dv : Value} (G : Go b p l e R s m args below meth c Z own T h cells slots) (hx : p.tables.exec = Jvm.exec) (hd : decode c.code pc = .ok (.iaload, 1)) (V : Arv Z h a k .int z vs dv) (hj : ¬ j < 0 ∧ j < z) (hv : vs.getD j.toNatClampNeg dv = v) (hp : pc + 1 = pc') (K : Fz b p e R s below Z Q (T.setTop (mkF m pc' Ls (v :: st)))) : Fz b p e R s below Z Q (T.setTop (mkF m pc Ls (.int j :: .ref a :: st))) := by
  subst hp
  obtain ⟨vm0, k0, locs, X, hb, hS, hk, hZ, hown, eT, N, O⟩ := G
  obtain ⟨cl, A, q1, S, q3, H, G2⟩ := V
  exact Fz.of (fun t k => X.iaload hx (by rw [eT]; exact A.1) (State.isArrayOf_alike hZ.alike A.2.1) A.2.2 (inb_of S hj) (H.at (inb_of S hj) hv) (g := mkF m pc Ls (.int j :: .ref a :: st)) rfl rfl hd t k) K
theorem caload {k : ClassId} {z j : Int32} {a : Addr} {v : Value} {vs : List Value} {dv : Value} (G : Go b p l e R s m args below meth c Z own T h cells slots) (hx : p.tables.exec = Jvm.exec) (hd : decode c.code pc = .ok (.caload, 1)) (V : Arv Z h a k .char z vs dv) (hj : ¬ j < 0 ∧ j < z) (hv : vs.getD j.toNatClampNeg dv = v) (hp : pc + 1 = pc') (K : Fz b p e R s below Z Q (T.setTop (mkF m pc' Ls (v :: st)))) : Fz b p e R s below Z Q (T.setTop (mkF m pc Ls (.int j :: .ref a :: st))) := by
  subst hp
  obtain ⟨vm0, k0, locs, X, hb, hS, hk, hZ, hown, eT, N, O⟩ := G
  obtain ⟨cl, A, q1, S, q3, H, G2⟩ := V
  exact Fz.of (fun t k => X.caload hx (by rw [eT]; exact A.1) (State.isArrayOf_alike hZ.alike A.2.1) A.2.2 (inb_of S hj) (H.at (inb_of S hj) hv) (g := mkF m pc Ls (.int j :: .ref a :: st)) rfl rfl hd t k) K
theorem baload {k : ClassId} {z j : Int32} {a : Addr} {v : Value} {vs : List Value} {dv : Value} (G : Go b p l e R s m args below meth c Z own T h cells slots) (hx : p.tables.exec = Jvm.exec) (hd : decode c.code pc = .ok (.baload, 1)) (V : Arv Z h a k .byte z vs dv) (hj : ¬ j < 0 ∧ j < z) (hv : vs.getD j.toNatClampNeg dv = v) (hp : pc + 1 = pc') (K : Fz b p e R s below Z Q (T.setTop (mkF m pc' Ls (v :: st)))) : Fz b p e R s below Z Q (T.setTop (mkF m pc Ls (.int j :: .ref a :: st))) := by
  subst hp
  obtain ⟨vm0, k0, locs, X, hb, hS, hk, hZ, hown, eT, N, O⟩ := G
  obtain ⟨cl, A, q1, S, q3, H, G2⟩ := V
  exact Fz.of (fun t k => X.baloadBytes hx (by rw [eT]; exact A.1) (State.isArrayOf_alike hZ.alike A.2.1) A.2.2 (inb_of S hj) (H.at (inb_of S hj) hv) (g := mkF m pc Ls (.int j :: .ref a :: st)) rfl rfl hd t k) K
theorem aaload {k : ClassId} {z j : Int32} {a : Addr} {v : Value} {vs : List Value} {dv : Value} {C : String} (G : Go b p l e R s m args below meth c Z own T h cells slots) (hx : p.tables.exec = Jvm.exec) (hd : decode c.code pc = .ok (.aaload, 1)) (V : Arv Z h a k (.object C) z vs dv) (hj : ¬ j < 0 ∧ j < z) (hv : vs.getD j.toNatClampNeg dv = v) (hp : pc + 1 = pc') (K : Fz b p e R s below Z Q (T.setTop (mkF m pc' Ls (v :: st)))) : Fz b p e R s below Z Q (T.setTop (mkF m pc Ls (.int j :: .ref a :: st))) := by
  subst hp
  obtain ⟨vm0, k0, locs, X, hb, hS, hk, hZ, hown, eT, N, O⟩ := G
  obtain ⟨cl, A, q1, S, q3, H, G2⟩ := V
  exact Fz.of (fun t k => X.aaload hx (by rw [eT]; exact A.1) (State.isArrayOf_alike hZ.alike A.2.1) rfl A.2.2 (inb_of S hj) (H.at (inb_of S hj) hv) (g := mkF m pc Ls (.int j :: .ref a :: st)) rfl rfl hd t k) K
theorem arraylength {k : ClassId} {ty : FieldType} {z : Int32} {a : Addr} {vs : List Value} {dv : Value} (G : Go b p l e R s m args below meth c Z own T h cells slots) (hx : p.tables.exec = Jvm.exec) (hd : decode c.code pc = .ok (.arraylength, 1)) (V : Arv Z h a k ty z vs dv) (hp : pc + 1 = pc') (K : Fz b p e R s below Z Q (T.setTop (mkF m pc' Ls (.int z :: st)))) : Fz b p e R s below Z Q (T.setTop (mkF m pc Ls (.ref a :: st))) := by
  subst hp
  obtain ⟨vm0, k0, locs, X, hb, hS, hk, hZ, hown, eT, N, O⟩ := G
  obtain ⟨cl, A, q1, S, q3, H, G2⟩ := V
  exact Fz.of (fun t k => X.arraylength hx (by rw [eT]; exact A.1) (State.isArrayOf_alike hZ.alike A.2.1) (g := mkF m pc Ls (.ref a :: st)) rfl rfl hd t (by rw [len_of S q3]; exact k)) K
theorem checkcast {C : String} {index : Nat} {a : Addr} (G : Go b p l e R s m args below meth c Z own T h cells slots) (hx : p.tables.exec = Jvm.exec) (hd : decode c.code pc = .ok (.checkcast index, 3)) (w : (Cond.classLink own index C).before a0 Z = true) (I : Ins Z h a C true) (hp : pc + 3 = pc')
    (K : ∀ T', Go b p l e R s m args below meth c Z own T' h cells slots → Fz b p e R s below Z Q (T'.setTop (mkF m pc' Ls (.ref a :: st)))) : Fz b p e R s below Z Q (T.setTop (mkF m pc Ls (.ref a :: st))) := by
  subst hp
  obtain ⟨vm0, k0, locs, X, hb, hS, hk, hZ, hown, eT, N, O⟩ := G
  obtain ⟨T', X', e', f⟩ := castY X hx hZ hown w eT I (g := mkF m pc Ls (.ref a :: st)) rfl rfl hd
  exact Fz.of f (K T' ⟨vm0, k0, locs, X', hb, hS, hk, hZ, hown, e', N, O⟩)
theorem instY {C : String} {index : Nat} {a : Addr} (G : Go b p l e R s m args below meth c Z own T h cells slots) (hx : p.tables.exec = Jvm.exec) (hd : decode c.code pc = .ok (.instanceof index, 3)) (w : (Cond.classLink own index C).before a0 Z = true) (I : Ins Z h a C true) (hp : pc + 3 = pc')
    (K : ∀ T', Go b p l e R s m args below meth c Z own T' h cells slots → Fz b p e R s below Z Q (T'.setTop (mkF m pc' Ls (.int (1 : Int32) :: st)))) : Fz b p e R s below Z Q (T.setTop (mkF m pc Ls (.ref a :: st))) := by
  subst hp
  obtain ⟨vm0, k0, locs, X, hb, hS, hk, hZ, hown, eT, N, O⟩ := G
  obtain ⟨T', X', e', f⟩ := Jvm.RoadKit.instY X hx hZ hown w eT I (g := mkF m pc Ls (.ref a :: st)) rfl rfl hd
  exact Fz.of f (K T' ⟨vm0, k0, locs, X', hb, hS, hk, hZ, hown, e', N, O⟩)
theorem iinc {k : Nat} {ct : Int} {x v : Int32} {Ls' : Array Slot} (H : At T m c below) (hx : p.tables.exec = Jvm.exec) (hd : decode c.code pc = .ok (.iinc k ct, 3)) (hl : Ls[k]? = some (.val (.int x))) (hv : x + Int32.ofInt ct = v) (hl' : storeLocals Ls k (.int v) = some Ls') (hp : pc + 3 = pc') (K : Fz b p e R s below Z Q (T.setTop (mkF m pc' Ls' st))) : Fz b p e R s below Z Q (T.setTop (mkF m pc Ls st)) := by
  subst hp; subst hv
  exact Fz.of (fun t k => XS.iinc H hx rfl hd hl hl' k) K
theorem ldcI {index : Nat} {v : Int32} (G : Go b p l e R s m args below meth c Z own T h cells slots) (hx : p.tables.exec = Jvm.exec) (hd : decode c.code pc = .ok (.ldc index, 2)) (w : (Cond.constant own index v).before a0 Z = true) (hp : pc + 2 = pc') (K : Fz b p e R s below Z Q (T.setTop (mkF m pc' Ls (.int v :: st)))) : Fz b p e R s below Z Q (T.setTop (mkF m pc Ls st)) := by
  subst hp
  obtain ⟨vm0, k0, locs, X, hb, hS, hk, hZ, hown, eT, N, O⟩ := G
  exact Fz.of (fun t k => X.ldcInt hx hown (mvT hZ w) (g := mkF m pc Ls st) rfl hd t k) K
theorem ldcJ {index : Nat} {v : Int64} (G : Go b p l e R s m args below meth c Z own T h cells slots) (hx : p.tables.exec = Jvm.exec) (hd : decode c.code pc = .ok (.ldc2_w index, 3)) (w : (Cond.constantLong own index v).before a0 Z = true) (hp : pc + 3 = pc') (K : Fz b p e R s below Z Q (T.setTop (mkF m pc' Ls (.long v :: st)))) : Fz b p e R s below Z Q (T.setTop (mkF m pc Ls st)) := by
  subst hp
  obtain ⟨vm0, k0, locs, X, hb, hS, hk, hZ, hown, eT, N, O⟩ := G
  exact Fz.of (fun t k => X.ldc2Long hx hown (mvT hZ w) (g := mkF m pc Ls st) rfl hd t k) K
theorem ldcF {index : Nat} {v : UInt32} (G : Go b p l e R s m args below meth c Z own T h cells slots) (hx : p.tables.exec = Jvm.exec) (hd : decode c.code pc = .ok (.ldc index, 2)) (w : (Cond.constantFloat own index v).before a0 Z = true) (hp : pc + 2 = pc') (K : Fz b p e R s below Z Q (T.setTop (mkF m pc' Ls (.float v :: st)))) : Fz b p e R s below Z Q (T.setTop (mkF m pc Ls st)) := by
  subst hp
  obtain ⟨vm0, k0, locs, X, hb, hS, hk, hZ, hown, eT, N, O⟩ := G
  exact Fz.of (fun t k => X.ldcFloatC hx hown (mvT hZ w) (g := mkF m pc Ls st) rfl hd t k) K
theorem ldcS {text : String} {index n : Nat} (hwide : b = true) (G : Go b p l e R s m args below meth c Z own T h cells slots) (hx : p.tables.exec = Jvm.exec) (hd : decode c.code pc = .ok (.ldc index, 2)) (w : (Cond.stringLink own index text).before a0 Z = true) (wS : ∀ a ∈ Bundle.stringAtoms, a.before a0 Z = true) (hn : 4 * text.toList.length ≤ n) (hbig : n ≤ 536870912) (hc : cells + 2 = cells') (hc' : cells' ≤ R.cells) (hs : slots + (n + 4) = slots') (hs' : slots' ≤ R.slots) (hp : pc + 2 = pc')
    (K : ∀ T' h' a, Go b p l e R s m args below meth c Z own T' h' cells' slots' → Ext h h' → Fz b p e R s below Z Q (T'.setTop (mkF m pc' Ls (.ref a :: st)))) : Fz b p e R s below Z Q (T.setTop (mkF m pc Ls st)) := by
  subst hp; subst hc; subst hs; subst hwide
  obtain ⟨vm0, k0, locs, X, hb, hS, hk, hZ, hown, eT, N, O⟩ := G
  obtain ⟨a, T', h', k1, X', e', E', hS', hk', hZ', hown', f⟩ := Jvm.RoadKit.ldcS X hx hZ hown w wS eT hS hk (g := mkF m pc Ls st) rfl hd hn hbig hc' hs'
  exact Fz.of f (K T' h' a ⟨T'.vm, k1, locs, X', (fun q => nomatch q), hS', hk', hZ', hown', e', N, (Old.ext (n0 := Z.heap.size) ⟨rfl, O⟩ E').2⟩ E')
theorem initObj {index : Nat} {a : Addr} {W : Nat} (G : Go b p l e R s m args below meth c Z own T h cells slots) (hx : p.tables.exec = Jvm.exec) (hd : decode c.code pc = .ok (.invokespecial index, 3)) (w1 : (Cond.methodLink own index Lib.objectInit).before a0 Z = true) (w2 : (Cond.instanceMethod Lib.objectInit).before a0 Z = true) (w3 : (Cond.code Lib.objectInit ⟨#[0xb1]⟩ 1 none).before a0 Z = true) (hsize : Ls.size = c.maxLocals) (hf : 1 ≤ R.frames) (hW : 2 * 0 + (st.map fun v => v.category).sum ≤ W) (hl : W + 12 ≤ R.locals) (hp : pc + 3 = pc')
    (K : ∀ T', Go b p l e R s m args below meth c Z own T' h cells slots → Fz b p e R s below Z Q (T'.setTop (mkF m pc' Ls st))) : Fz b p e R s below Z Q (T.setTop (mkF m pc Ls (.ref a :: st))) := by
  subst hp
  obtain ⟨vm0, k0, locs, X, hb, hS, hk, hZ, hown, eT, N, O⟩ := G
  obtain ⟨T', X', e', f⟩ := initO X hx hZ hown w1 w2 w3 eT (g := mkF m pc Ls (.ref a :: st)) rfl hsize rfl hd hf hW hl
  exact Fz.of f (K T' ⟨vm0, k0, locs, X', hb, hS, hk, hZ, hown, e', N, O⟩)
theorem EndB.more {o : Outcome} {t : State} {L : List Loc} {k n k' n' : Nat} (E : EndB b s o t L k n) (hk : k ≤ k') (hn : n ≤ n') : EndB b s o t L k' n' := by
  cases b
  · exact ⟨E.1, E.2.1, E.2.2.mono hk hn⟩
  · exact ⟨E.1, E.2.1, E.2.2.1, E.2.2.2.mono hk hn⟩
theorem leaving (G : Go b p l e R s m args below meth c Z own T h cells slots) {v : Option Value} (hv : meth.sig.returnType = none → v = none) (hlocks : meth.locks = false) (hc : cells ≤ R.cells) (hs : slots ≤ R.slots) (hq : Q v h) {f : JFrame}
    (K : ∀ (locs : List Loc) (vm0 : Vm), Stand p l e R (s.setVm vm0) m args below meth c T locs cells slots → ∀ fs : List Frame, (∀ (f : JFrame) (acts : List Action), f.method = m → f.locked = none → f.entered = [] → (doReturn e (T.setTop f) acts v).1 = T.setFrames fs) → Steps p.tables e below (T.setTop f) (T.setFrames fs)) : Fz b p e R s below Z Q (T.setTop f) := by
  obtain ⟨vm0, k0, locs, X, hb, hS, hk, hZ, hown, eT, N, O⟩ := G
  subst eT
  cases b
  · have q := hb rfl
    subst q
    have X2 : Stand p l e R s m args below meth c T locs cells slots := X
    obtain ⟨fs, hr, hrun, hended, hW, hsame⟩ := X2.leave (v := v) hv hlocks
    exact ⟨_, _, K locs _ X fs hr, hrun, hended, v, locs, rfl, ⟨N, O, hq⟩, ⟨v, rfl⟩, hW, hsame.mono hc hs⟩
  · obtain ⟨fs, hr, hrun, hended, hE⟩ := X.leaveW hS hk (v := v) hv hlocks
    exact ⟨_, _, K locs _ X fs hr, hrun, hended, v, locs, rfl, ⟨N, O, hq⟩, EndB.more (b := true) hE hc hs⟩
theorem ret0 (G : Go b p l e R s m args below meth c Z own T h cells slots) (hx : p.tables.exec = Jvm.exec) (hd : decode c.code pc = .ok (.return_, 1)) (hret : meth.sig.returnType = none) (hlocks : meth.locks = false) (hc : cells ≤ R.cells) (hs : slots ≤ R.slots) (hq : Q none h) : Fz b p e R s below Z Q (T.setTop (mkF m pc Ls [])) :=
  leaving G (fun _ => rfl) hlocks hc hs hq (fun locs vm0 X fs hr => X.returnOut hx hret hd hr)
theorem ret1 {t : FieldType} {i : Instr} {w : Value} (G : Go b p l e R s m args below meth c Z own T h cells slots) (hx : p.tables.exec = Jvm.exec) (hd : decode c.code pc = .ok (i, 1)) (hret : meth.sig.returnType = some t) (hlocks : meth.locks = false) (hn : narrow t w = w)
    (hi : (i = .ireturn ∧ (t = .int ∨ t = .boolean ∨ t = .byte ∨ t = .char ∨ t = .short) ∧ ∃ z, w = .int z) ∨ (i = .lreturn ∧ t = .long ∧ ∃ z, w = .long z) ∨ (i = .dreturn ∧ t = .double ∧ ∃ z, w = .double z) ∨ (i = .freturn ∧ t = .float ∧ ∃ z, w = .float z) ∨ (i = .areturn ∧ t.isReference = true ∧ w.isRef = true))
    (hc : cells ≤ R.cells) (hs : slots ≤ R.slots) (hq : Q (some w) h) : Fz b p e R s below Z Q (T.setTop (mkF m pc Ls (w :: st))) :=
  leaving G (fun q => by rw [hret] at q; cases q) hlocks hc hs hq (fun locs vm0 X fs hr => retOut X hx hret hn hi hd hr)
theorem retI {t : FieldType} {z : Int32} (G : Go b p l e R s m args below meth c Z own T h cells slots) (hx : p.tables.exec = Jvm.exec) (hd : decode c.code pc = .ok (.ireturn, 1)) (hret : meth.sig.returnType = some t) (hlocks : meth.locks = false) (ht : t = .int ∨ t = .boolean ∨ t = .byte ∨ t = .char ∨ t = .short) (hn : narrow t (.int z) = .int z) (hc : cells ≤ R.cells) (hs : slots ≤ R.slots) (hq : Q (some (.int z)) h) : Fz b p e R s below Z Q (T.setTop (mkF m pc Ls (.int z :: st))) :=
  ret1 G hx hd hret hlocks hn (Or.inl ⟨rfl, ht, z, rfl⟩) hc hs hq
theorem retA {t : FieldType} {w : Value} (G : Go b p l e R s m args below meth c Z own T h cells slots) (hx : p.tables.exec = Jvm.exec) (hd : decode c.code pc = .ok (.areturn, 1)) (hret : meth.sig.returnType = some t) (hlocks : meth.locks = false) (ht : t.isReference = true) (hw : w.isRef = true) (hn : narrow t w = w) (hc : cells ≤ R.cells) (hs : slots ≤ R.slots) (hq : Q (some w) h) : Fz b p e R s below Z Q (T.setTop (mkF m pc Ls (w :: st))) :=
  ret1 G hx hd hret hlocks hn (Or.inr (Or.inr (Or.inr (Or.inr ⟨rfl, ht, hw⟩)))) hc hs hq
theorem retL {z : Int64} (G : Go b p l e R s m args below meth c Z own T h cells slots) (hx : p.tables.exec = Jvm.exec) (hd : decode c.code pc = .ok (.lreturn, 1)) (hret : meth.sig.returnType = some .long) (hlocks : meth.locks = false) (hc : cells ≤ R.cells) (hs : slots ≤ R.slots) (hq : Q (some (.long z)) h) : Fz b p e R s below Z Q (T.setTop (mkF m pc Ls (.long z :: st))) :=
  ret1 G hx hd hret hlocks rfl (Or.inr (Or.inl ⟨rfl, rfl, z, rfl⟩)) hc hs hq
theorem callS {index : Nat} {y : MethodName} {bytes : ByteArray} {maxL : Nat} {ret : Option FieldType} {rm : Room} {W : Nat} {argsL : List Value} {stk : List Value}  {Q' : Option Value → Heap → Prop} (G : Go b p l e R s m args below meth c Z own T h cells slots) (hx : p.tables.exec = Jvm.exec) (hd : decode c.code pc = .ok (.invokestatic index, 3)) (w1 : (Cond.methodLink own index y).before a0 Z = true) (w2 : (Cond.static y).before a0 Z = true) (w3 : (Cond.initialized y.cls).before a0 Z = true) (w4 : (Cond.code y bytes maxL ret).before a0 Z = true) (hy : y.cls ≠ "java/lang/invoke/MethodHandle" ∧ y.cls ≠ "java/lang/invoke/VarHandle") (hM : Met b l Z y bytes maxL ret [] rm (argsL).toArray h Q') (hf : rm.frames + 1 ≤ R.frames) (hl : W + (maxL + 11) + rm.locals ≤ R.locals) (hsize : Ls.size = c.maxLocals) (hlen : ∀ sig, parseMethodDescriptor y.desc = some sig → argsL.length = sig.parameters.length) (hst : stk = argsL.reverse ++ st) (hW : 2 * 0 + (st.map fun v => v.category).sum ≤ W) (hc : cells + rm.cells = cells') (hc' : cells' ≤ R.cells) (hs : slots + rm.slots = slots') (hs' : slots' ≤ R.slots) (hp : pc + 3 = pc')
    (K : ∀ (T' : State) (h' : Heap) (v : Option Value), Go b p l e R s m args below meth c Z own T' h' cells' slots' → Q' v h' → Fz b p e R s below Z Q (T'.setTop (mkF m pc' Ls (v.toList ++ st)))) : Fz b p e R s below Z Q (T.setTop (mkF m pc Ls stk)) := by
  subst hp; subst hc; subst hs
  obtain ⟨vm0, k0, locs, X, hb, hS, hk, hZ, hown, eT, N, O⟩ := G
  cases b
  · have q0 := hb rfl
    subst q0
    have X2 : Stand p l e R s m args below meth c T locs cells slots := X
    have hZ2 : Z.Warmed39 s.vm := hZ
    have hK := backOf (W := W) (R := R) (p := p) (e := e) (below := below) (args := args) (len := 3) (Q := fun v h L => Fr Z.heap.size L ∧ Ext Z.heap h ∧ Q' v h) hM hZ2 w4 w3 hf hl
    obtain ⟨v, vm₁, ⟨T1, L1, k1, n1⟩, -, X1, ⟨Lc, hQ, l1, y1, z1⟩, f⟩ := Jvm.LawKit.callS X2 hx (y := y) hown (mvT hZ2 w1) (mvT hZ2 w2) (mvT hZ2 w3) (mvT hZ2 w4) hy hK (g := mkF m pc Ls stk) rfl hsize (argsL := argsL) (rest := st) hlen hst hW hd (fun _ _ => ⟨rfl, eT, hc', hs'⟩)
    dsimp only [Pt.U, Pt.locs, Pt.cells, Pt.slots] at X1 l1 y1 z1 f hQ
    subst l1 y1 z1
    exact Fz.of f (K T1 T1.heap v ⟨s.vm, 0, _, X1, fun _ => rfl, (State.WarmedH.refl s).since 0, Nat.zero_le _, hZ2, hown, rfl, Fr.app N hQ.1, hQ.2.1⟩ hQ.2.2)
  · have hZ2 : Z.Warmed39 (s.setVm vm0).vm := hZ
    have hK := backOfS (W := W) (R := R) (p := p) (e := e) (below := below) (args := args) (len := 3) (Q := fun v h L => Fr Z.heap.size L ∧ Ext Z.heap h ∧ Q' v h) hM hZ2 w4 w3 hf hl
    obtain ⟨v, vm₁, ⟨T1, L1, k1, n1⟩, -, X1, hS1, hg1, ⟨Lc, hQ, l1, y1, z1⟩, f⟩ := callSS X hx (y := y) hown (mvT hZ2 w1) (mvT hZ2 w2) (mvT hZ2 w3) (mvT hZ2 w4) hy hK (g := mkF m pc Ls stk) rfl hsize (argsL := argsL) (rest := st) hlen hst hW hd (fun _ _ => ⟨rfl, eT, hc', hs'⟩)
    dsimp only [Pt.U, Pt.locs, Pt.cells, Pt.slots] at X1 hS1 hg1 l1 y1 z1 f hQ
    subst l1 y1 z1
    have X3 : Stand p l e R (s.setVm T1.vm) m args below meth c T1 (locs ++ Lc) (cells + rm.cells) (slots + rm.slots) := X1
    exact Fz.of (fun t k => f.trans k) (K T1 T1.heap v ⟨T1.vm, T1.heap.size, _, X3, (fun q => nomatch q), hS.trans hS1 (Nat.le_trans hk (by rw [← eT]; exact hg1)), Nat.le_refl _, State.Warmed39.trans (t := s.setVm vm0) hZ hS1.1, (hS1.1.alike.findClass _ _).trans hown, rfl, Fr.app N hQ.1, hQ.2.1⟩ hQ.2.2)
theorem callS1 {index : Nat} {y : MethodName} {bytes : ByteArray} {maxL : Nat} {ret : Option FieldType} {rm : Room} {W : Nat} {argsL : List Value} {stk : List Value}  {q : Value → Heap → Prop} (G : Go b p l e R s m args below meth c Z own T h cells slots) (hx : p.tables.exec = Jvm.exec) (hd : decode c.code pc = .ok (.invokestatic index, 3)) (w1 : (Cond.methodLink own index y).before a0 Z = true) (w2 : (Cond.static y).before a0 Z = true) (w3 : (Cond.initialized y.cls).before a0 Z = true) (w4 : (Cond.code y bytes maxL ret).before a0 Z = true) (hy : y.cls ≠ "java/lang/invoke/MethodHandle" ∧ y.cls ≠ "java/lang/invoke/VarHandle") (hM : Met1 b l Z y bytes maxL ret [] rm (argsL).toArray h q) (hf : rm.frames + 1 ≤ R.frames) (hl : W + (maxL + 11) + rm.locals ≤ R.locals) (hsize : Ls.size = c.maxLocals) (hlen : ∀ sig, parseMethodDescriptor y.desc = some sig → argsL.length = sig.parameters.length) (hst : stk = argsL.reverse ++ st) (hW : 2 * 0 + (st.map fun v => v.category).sum ≤ W) (hc : cells + rm.cells = cells') (hc' : cells' ≤ R.cells) (hs : slots + rm.slots = slots') (hs' : slots' ≤ R.slots) (hp : pc + 3 = pc')
    (K : ∀ (T' : State) (h' : Heap) (w : Value), Go b p l e R s m args below meth c Z own T' h' cells' slots' → q w h' → Fz b p e R s below Z Q (T'.setTop (mkF m pc' Ls (w :: st)))) : Fz b p e R s below Z Q (T.setTop (mkF m pc Ls stk)) := 
  callS G hx hd w1 w2 w3 w4 hy hM hf hl hsize hlen hst hW hc hc' hs hs' hp (fun T' h' v G' hq => by
    obtain ⟨w, rfl, hq⟩ := hq
    exact K T' h' w G' hq)
theorem callSP {index : Nat} {y : MethodName} {bytes : ByteArray} {maxL : Nat} {ret : Option FieldType} {rm : Room} {W : Nat} {argsL : List Value} {stk : List Value}  {q : Value → Prop} (G : Go b p l e R s m args below meth c Z own T h cells slots) (hx : p.tables.exec = Jvm.exec) (hd : decode c.code pc = .ok (.invokestatic index, 3)) (w1 : (Cond.methodLink own index y).before a0 Z = true) (w2 : (Cond.static y).before a0 Z = true) (w3 : (Cond.initialized y.cls).before a0 Z = true) (w4 : (Cond.code y bytes maxL ret).before a0 Z = true) (hy : y.cls ≠ "java/lang/invoke/MethodHandle" ∧ y.cls ≠ "java/lang/invoke/VarHandle") (hM : Met1 b l Z y bytes maxL ret [] rm (argsL).toArray h (fun w h' => h' = h ∧ q w)) (hf : rm.frames + 1 ≤ R.frames) (hl : W + (maxL + 11) + rm.locals ≤ R.locals) (hsize : Ls.size = c.maxLocals) (hlen : ∀ sig, parseMethodDescriptor y.desc = some sig → argsL.length = sig.parameters.length) (hst : stk = argsL.reverse ++ st) (hW : 2 * 0 + (st.map fun v => v.category).sum ≤ W) (hc : cells + rm.cells = cells') (hc' : cells' ≤ R.cells) (hs : slots + rm.slots = slots') (hs' : slots' ≤ R.slots) (hp : pc + 3 = pc')
    (K : ∀ (T' : State) (w : Value), Go b p l e R s m args below meth c Z own T' h cells' slots' → q w → Fz b p e R s below Z Q (T'.setTop (mkF m pc' Ls (w :: st)))) : Fz b p e R s below Z Q (T.setTop (mkF m pc Ls stk)) := 
  callS G hx hd w1 w2 w3 w4 hy hM hf hl hsize hlen hst hW hc hc' hs hs' hp (fun T' h' v G' hq => by
    obtain ⟨w, rfl, e1, hq⟩ := hq
    subst e1
    exact K T' w G' hq)
theorem callS0 {index : Nat} {y : MethodName} {bytes : ByteArray} {maxL : Nat} {ret : Option FieldType} {rm : Room} {W : Nat} {argsL : List Value} {stk : List Value}  {q : Heap → Prop} (G : Go b p l e R s m args below meth c Z own T h cells slots) (hx : p.tables.exec = Jvm.exec) (hd : decode c.code pc = .ok (.invokestatic index, 3)) (w1 : (Cond.methodLink own index y).before a0 Z = true) (w2 : (Cond.static y).before a0 Z = true) (w3 : (Cond.initialized y.cls).before a0 Z = true) (w4 : (Cond.code y bytes maxL ret).before a0 Z = true) (hy : y.cls ≠ "java/lang/invoke/MethodHandle" ∧ y.cls ≠ "java/lang/invoke/VarHandle") (hM : Met0 b l Z y bytes maxL ret [] rm (argsL).toArray h q) (hf : rm.frames + 1 ≤ R.frames) (hl : W + (maxL + 11) + rm.locals ≤ R.locals) (hsize : Ls.size = c.maxLocals) (hlen : ∀ sig, parseMethodDescriptor y.desc = some sig → argsL.length = sig.parameters.length) (hst : stk = argsL.reverse ++ st) (hW : 2 * 0 + (st.map fun v => v.category).sum ≤ W) (hc : cells + rm.cells = cells') (hc' : cells' ≤ R.cells) (hs : slots + rm.slots = slots') (hs' : slots' ≤ R.slots) (hp : pc + 3 = pc')
    (K : ∀ (T' : State) (h' : Heap) , Go b p l e R s m args below meth c Z own T' h' cells' slots' → q h' → Fz b p e R s below Z Q (T'.setTop (mkF m pc' Ls st))) : Fz b p e R s below Z Q (T.setTop (mkF m pc Ls stk)) := 
  callS G hx hd w1 w2 w3 w4 hy hM hf hl hsize hlen hst hW hc hc' hs hs' hp (fun T' h' v G' hq => by
    obtain ⟨rfl, hq⟩ := hq
    exact K T' h' G' hq)
theorem callI {index : Nat} {y : MethodName} {bytes : ByteArray} {maxL : Nat} {rm : Room} {W : Nat} {argsL : List Value} {stk : List Value} {a : Addr} {Q' : Option Value → Heap → Prop} (G : Go b p l e R s m args below meth c Z own T h cells slots) (hx : p.tables.exec = Jvm.exec) (hd : decode c.code pc = .ok (.invokespecial index, 3)) (hn : y.name = "<init>") (w1 : (Cond.methodLink own index y).before a0 Z = true) (w2 : (Cond.instanceMethod y).before a0 Z = true) (w3 : (Cond.initialized y.cls).before a0 Z = true) (w4 : (Cond.code y bytes maxL none).before a0 Z = true) (hy : y.cls ≠ "java/lang/invoke/MethodHandle" ∧ y.cls ≠ "java/lang/invoke/VarHandle") (hM : Met b l Z y bytes maxL none [] rm (.ref a :: argsL).toArray h Q') (hf : rm.frames + 1 ≤ R.frames) (hl : W + (maxL + 11) + rm.locals ≤ R.locals) (hsize : Ls.size = c.maxLocals) (hlen : ∀ sig, parseMethodDescriptor y.desc = some sig → argsL.length = sig.parameters.length) (hst : stk = argsL.reverse ++ .ref a :: st) (hW : 2 * 0 + (st.map fun v => v.category).sum ≤ W) (hc : cells + rm.cells = cells') (hc' : cells' ≤ R.cells) (hs : slots + rm.slots = slots') (hs' : slots' ≤ R.slots) (hp : pc + 3 = pc')
    (K : ∀ (T' : State) (h' : Heap) (v : Option Value), Go b p l e R s m args below meth c Z own T' h' cells' slots' → Q' v h' → Fz b p e R s below Z Q (T'.setTop (mkF m pc' Ls (v.toList ++ st)))) : Fz b p e R s below Z Q (T.setTop (mkF m pc Ls stk)) := by
  subst hp; subst hc; subst hs
  obtain ⟨vm0, k0, locs, X, hb, hS, hk, hZ, hown, eT, N, O⟩ := G
  cases b
  · have q0 := hb rfl
    subst q0
    have X2 : Stand p l e R s m args below meth c T locs cells slots := X
    have hZ2 : Z.Warmed39 s.vm := hZ
    have hK := backOf (W := W) (R := R) (p := p) (e := e) (below := below) (args := args) (len := 3) (Q := fun v h L => Fr Z.heap.size L ∧ Ext Z.heap h ∧ Q' v h) hM hZ2 w4 w3 hf hl
    obtain ⟨v, vm₁, ⟨T1, L1, k1, n1⟩, -, X1, ⟨Lc, hQ, l1, y1, z1⟩, f⟩ := X2.specialBack hx (y := y) hn hown (mvT hZ2 w1) (mvT hZ2 w2) (mvT hZ2 w4) hy hK (g := mkF m pc Ls stk) rfl hsize (Steps.refl _) (a := a) (argsL := argsL) (rest := st) hlen hst hW hd (fun _ _ => ⟨rfl, eT, hc', hs'⟩)
    dsimp only [Pt.U, Pt.locs, Pt.cells, Pt.slots] at X1 l1 y1 z1 f hQ
    subst l1 y1 z1
    exact Fz.of (fun t k => f.trans k) (K T1 T1.heap v ⟨s.vm, 0, _, X1, fun _ => rfl, (State.WarmedH.refl s).since 0, Nat.zero_le _, hZ2, hown, rfl, Fr.app N hQ.1, hQ.2.1⟩ hQ.2.2)
  · have hZ2 : Z.Warmed39 (s.setVm vm0).vm := hZ
    have hK := backOfS (W := W) (R := R) (p := p) (e := e) (below := below) (args := args) (len := 3) (Q := fun v h L => Fr Z.heap.size L ∧ Ext Z.heap h ∧ Q' v h) hM hZ2 w4 w3 hf hl
    obtain ⟨v, vm₁, ⟨T1, L1, k1, n1⟩, -, X1, hS1, hg1, ⟨Lc, hQ, l1, y1, z1⟩, f⟩ := X.specialBackS hx (y := y) hn hown (mvT hZ2 w1) (mvT hZ2 w2) (mvT hZ2 w4) hy hK (g := mkF m pc Ls stk) rfl hsize (Steps.refl _) (a := a) (argsL := argsL) (rest := st) hlen hst hW hd (fun _ _ => ⟨rfl, eT, hc', hs'⟩)
    dsimp only [Pt.U, Pt.locs, Pt.cells, Pt.slots] at X1 hS1 hg1 l1 y1 z1 f hQ
    subst l1 y1 z1
    have X3 : Stand p l e R (s.setVm T1.vm) m args below meth c T1 (locs ++ Lc) (cells + rm.cells) (slots + rm.slots) := X1
    exact Fz.of (fun t k => f.trans k) (K T1 T1.heap v ⟨T1.vm, T1.heap.size, _, X3, (fun q => nomatch q), hS.trans hS1 (Nat.le_trans hk (by rw [← eT]; exact hg1)), Nat.le_refl _, State.Warmed39.trans (t := s.setVm vm0) hZ hS1.1, (hS1.1.alike.findClass _ _).trans hown, rfl, Fr.app N hQ.1, hQ.2.1⟩ hQ.2.2)
theorem callI1 {index : Nat} {y : MethodName} {bytes : ByteArray} {maxL : Nat} {rm : Room} {W : Nat} {argsL : List Value} {stk : List Value} {a : Addr} {q : Value → Heap → Prop} (G : Go b p l e R s m args below meth c Z own T h cells slots) (hx : p.tables.exec = Jvm.exec) (hd : decode c.code pc = .ok (.invokespecial index, 3)) (hn : y.name = "<init>") (w1 : (Cond.methodLink own index y).before a0 Z = true) (w2 : (Cond.instanceMethod y).before a0 Z = true) (w3 : (Cond.initialized y.cls).before a0 Z = true) (w4 : (Cond.code y bytes maxL none).before a0 Z = true) (hy : y.cls ≠ "java/lang/invoke/MethodHandle" ∧ y.cls ≠ "java/lang/invoke/VarHandle") (hM : Met1 b l Z y bytes maxL none [] rm (.ref a :: argsL).toArray h q) (hf : rm.frames + 1 ≤ R.frames) (hl : W + (maxL + 11) + rm.locals ≤ R.locals) (hsize : Ls.size = c.maxLocals) (hlen : ∀ sig, parseMethodDescriptor y.desc = some sig → argsL.length = sig.parameters.length) (hst : stk = argsL.reverse ++ .ref a :: st) (hW : 2 * 0 + (st.map fun v => v.category).sum ≤ W) (hc : cells + rm.cells = cells') (hc' : cells' ≤ R.cells) (hs : slots + rm.slots = slots') (hs' : slots' ≤ R.slots) (hp : pc + 3 = pc')
    (K : ∀ (T' : State) (h' : Heap) (w : Value), Go b p l e R s m args below meth c Z own T' h' cells' slots' → q w h' → Fz b p e R s below Z Q (T'.setTop (mkF m pc' Ls (w :: st)))) : Fz b p e R s below Z Q (T.setTop (mkF m pc Ls stk)) := 
  callI G hx hd hn w1 w2 w3 w4 hy hM hf hl hsize hlen hst hW hc hc' hs hs' hp (fun T' h' v G' hq => by
    obtain ⟨w, rfl, hq⟩ := hq
    exact K T' h' w G' hq)
theorem callIP {index : Nat} {y : MethodName} {bytes : ByteArray} {maxL : Nat} {rm : Room} {W : Nat} {argsL : List Value} {stk : List Value} {a : Addr} {q : Value → Prop} (G : Go b p l e R s m args below meth c Z own T h cells slots) (hx : p.tables.exec = Jvm.exec) (hd : decode c.code pc = .ok (.invokespecial index, 3)) (hn : y.name = "<init>") (w1 : (Cond.methodLink own index y).before a0 Z = true) (w2 : (Cond.instanceMethod y).before a0 Z = true) (w3 : (Cond.initialized y.cls).before a0 Z = true) (w4 : (Cond.code y bytes maxL none).before a0 Z = true) (hy : y.cls ≠ "java/lang/invoke/MethodHandle" ∧ y.cls ≠ "java/lang/invoke/VarHandle") (hM : Met1 b l Z y bytes maxL none [] rm (.ref a :: argsL).toArray h (fun w h' => h' = h ∧ q w)) (hf : rm.frames + 1 ≤ R.frames) (hl : W + (maxL + 11) + rm.locals ≤ R.locals) (hsize : Ls.size = c.maxLocals) (hlen : ∀ sig, parseMethodDescriptor y.desc = some sig → argsL.length = sig.parameters.length) (hst : stk = argsL.reverse ++ .ref a :: st) (hW : 2 * 0 + (st.map fun v => v.category).sum ≤ W) (hc : cells + rm.cells = cells') (hc' : cells' ≤ R.cells) (hs : slots + rm.slots = slots') (hs' : slots' ≤ R.slots) (hp : pc + 3 = pc')
    (K : ∀ (T' : State) (w : Value), Go b p l e R s m args below meth c Z own T' h cells' slots' → q w → Fz b p e R s below Z Q (T'.setTop (mkF m pc' Ls (w :: st)))) : Fz b p e R s below Z Q (T.setTop (mkF m pc Ls stk)) := 
  callI G hx hd hn w1 w2 w3 w4 hy hM hf hl hsize hlen hst hW hc hc' hs hs' hp (fun T' h' v G' hq => by
    obtain ⟨w, rfl, e1, hq⟩ := hq
    subst e1
    exact K T' w G' hq)
theorem callI0 {index : Nat} {y : MethodName} {bytes : ByteArray} {maxL : Nat} {rm : Room} {W : Nat} {argsL : List Value} {stk : List Value} {a : Addr} {q : Heap → Prop} (G : Go b p l e R s m args below meth c Z own T h cells slots) (hx : p.tables.exec = Jvm.exec) (hd : decode c.code pc = .ok (.invokespecial index, 3)) (hn : y.name = "<init>") (w1 : (Cond.methodLink own index y).before a0 Z = true) (w2 : (Cond.instanceMethod y).before a0 Z = true) (w3 : (Cond.initialized y.cls).before a0 Z = true) (w4 : (Cond.code y bytes maxL none).before a0 Z = true) (hy : y.cls ≠ "java/lang/invoke/MethodHandle" ∧ y.cls ≠ "java/lang/invoke/VarHandle") (hM : Met0 b l Z y bytes maxL none [] rm (.ref a :: argsL).toArray h q) (hf : rm.frames + 1 ≤ R.frames) (hl : W + (maxL + 11) + rm.locals ≤ R.locals) (hsize : Ls.size = c.maxLocals) (hlen : ∀ sig, parseMethodDescriptor y.desc = some sig → argsL.length = sig.parameters.length) (hst : stk = argsL.reverse ++ .ref a :: st) (hW : 2 * 0 + (st.map fun v => v.category).sum ≤ W) (hc : cells + rm.cells = cells') (hc' : cells' ≤ R.cells) (hs : slots + rm.slots = slots') (hs' : slots' ≤ R.slots) (hp : pc + 3 = pc')
    (K : ∀ (T' : State) (h' : Heap) , Go b p l e R s m args below meth c Z own T' h' cells' slots' → q h' → Fz b p e R s below Z Q (T'.setTop (mkF m pc' Ls st))) : Fz b p e R s below Z Q (T.setTop (mkF m pc Ls stk)) := 
  callI G hx hd hn w1 w2 w3 w4 hy hM hf hl hsize hlen hst hW hc hc' hs hs' hp (fun T' h' v G' hq => by
    obtain ⟨rfl, hq⟩ := hq
    exact K T' h' G' hq)
theorem callV {index : Nat} {y : MethodName} {bytes : ByteArray} {maxL : Nat} {ret : Option FieldType} {rm : Room} {W : Nat} {argsL : List Value} {stk : List Value} {a : Addr} {C : String} {z : MethodName} {Q' : Option Value → Heap → Prop} (G : Go b p l e R s m args below meth c Z own T h cells slots) (hx : p.tables.exec = Jvm.exec) (hd : decode c.code pc = .ok (.invokevirtual index, 3)) (nf : ∀ s' : State, Z.Warmed39 s'.vm → NotFace s' z) (w1 : (Cond.methodLink own index z).before a0 Z = true) (w2 : (Cond.declares z).before a0 Z = true) (w5 : (Cond.selects C z y).before a0 Z = true) (w6 : (Cond.instanceMethod y).before a0 Z = true) (w3 : (Cond.initialized y.cls).before a0 Z = true) (w4 : (Cond.code y bytes maxL ret).before a0 Z = true) (hy : z.cls ≠ "java/lang/invoke/MethodHandle" ∧ z.cls ≠ "java/lang/invoke/VarHandle") (E : Exa Z h a C) (hM : Met b l Z y bytes maxL ret [] rm (.ref a :: argsL).toArray h Q') (hf : rm.frames + 1 ≤ R.frames) (hl : W + (maxL + 11) + rm.locals ≤ R.locals) (hsize : Ls.size = c.maxLocals) (hlen : ∀ sig, parseMethodDescriptor z.desc = some sig → argsL.length = sig.parameters.length) (hst : stk = argsL.reverse ++ .ref a :: st) (hW : 2 * 0 + (st.map fun v => v.category).sum ≤ W) (hc : cells + rm.cells = cells') (hc' : cells' ≤ R.cells) (hs : slots + rm.slots = slots') (hs' : slots' ≤ R.slots) (hp : pc + 3 = pc')
    (K : ∀ (T' : State) (h' : Heap) (v : Option Value), Go b p l e R s m args below meth c Z own T' h' cells' slots' → Q' v h' → Fz b p e R s below Z Q (T'.setTop (mkF m pc' Ls (v.toList ++ st)))) : Fz b p e R s below Z Q (T.setTop (mkF m pc Ls stk)) := by
  subst hp; subst hc; subst hs
  obtain ⟨vm0, k0, locs, X, hb, hS, hk, hZ, hown, eT, N, O⟩ := G
  obtain ⟨cq, kq, qa, qb, qc⟩ := isOf (s := s.setVm vm0) (T := T) hZ eT E
  cases b
  · have q0 := hb rfl
    subst q0
    have X2 : Stand p l e R s m args below meth c T locs cells slots := X
    have hZ2 : Z.Warmed39 s.vm := hZ
    have hK := backOf (W := W) (R := R) (p := p) (e := e) (below := below) (args := args) (len := 3) (Q := fun v h L => Fr Z.heap.size L ∧ Ext Z.heap h ∧ Q' v h) hM hZ2 w4 w3 hf hl
    obtain ⟨v, vm₁, ⟨T1, L1, k1, n1⟩, -, X1, ⟨Lc, hQ, l1, y1, z1⟩, f⟩ := X2.virtualBack hx (y := z) (z := y) hown (mvT hZ2 w1) (mvT hZ2 w2) (nf _ hZ2) (mvT hZ2 w5) (mvT hZ2 w6) hy hK qa qc (g := mkF m pc Ls stk) rfl hsize (Steps.refl _) (argsL := argsL) (rest := st) hlen hst hW hd (fun _ _ => ⟨rfl, eT, hc', hs'⟩)
    dsimp only [Pt.U, Pt.locs, Pt.cells, Pt.slots] at X1 l1 y1 z1 f hQ
    subst l1 y1 z1
    exact Fz.of (fun t k => f.trans k) (K T1 T1.heap v ⟨s.vm, 0, _, X1, fun _ => rfl, (State.WarmedH.refl s).since 0, Nat.zero_le _, hZ2, hown, rfl, Fr.app N hQ.1, hQ.2.1⟩ hQ.2.2)
  · have hZ2 : Z.Warmed39 (s.setVm vm0).vm := hZ
    have hK := backOfS (W := W) (R := R) (p := p) (e := e) (below := below) (args := args) (len := 3) (Q := fun v h L => Fr Z.heap.size L ∧ Ext Z.heap h ∧ Q' v h) hM hZ2 w4 w3 hf hl
    obtain ⟨v, vm₁, ⟨T1, L1, k1, n1⟩, -, X1, hS1, hg1, ⟨Lc, hQ, l1, y1, z1⟩, f⟩ := X.virtualBackS hx (y := z) (z := y) hown (mvT hZ2 w1) (mvT hZ2 w2) (nf _ hZ2) (mvT hZ2 w5) (mvT hZ2 w6) hy hK qa qc (g := mkF m pc Ls stk) rfl hsize (Steps.refl _) (argsL := argsL) (rest := st) hlen hst hW hd (fun _ _ => ⟨rfl, eT, hc', hs'⟩)
    dsimp only [Pt.U, Pt.locs, Pt.cells, Pt.slots] at X1 hS1 hg1 l1 y1 z1 f hQ
    subst l1 y1 z1
    have X3 : Stand p l e R (s.setVm T1.vm) m args below meth c T1 (locs ++ Lc) (cells + rm.cells) (slots + rm.slots) := X1
    exact Fz.of (fun t k => f.trans k) (K T1 T1.heap v ⟨T1.vm, T1.heap.size, _, X3, (fun q => nomatch q), hS.trans hS1 (Nat.le_trans hk (by rw [← eT]; exact hg1)), Nat.le_refl _, State.Warmed39.trans (t := s.setVm vm0) hZ hS1.1, (hS1.1.alike.findClass _ _).trans hown, rfl, Fr.app N hQ.1, hQ.2.1⟩ hQ.2.2)
theorem callV1 {index : Nat} {y : MethodName} {bytes : ByteArray} {maxL : Nat} {ret : Option FieldType} {rm : Room} {W : Nat} {argsL : List Value} {stk : List Value} {a : Addr} {C : String} {z : MethodName} {q : Value → Heap → Prop} (G : Go b p l e R s m args below meth c Z own T h cells slots) (hx : p.tables.exec = Jvm.exec) (hd : decode c.code pc = .ok (.invokevirtual index, 3)) (nf : ∀ s' : State, Z.Warmed39 s'.vm → NotFace s' z) (w1 : (Cond.methodLink own index z).before a0 Z = true) (w2 : (Cond.declares z).before a0 Z = true) (w5 : (Cond.selects C z y).before a0 Z = true) (w6 : (Cond.instanceMethod y).before a0 Z = true) (w3 : (Cond.initialized y.cls).before a0 Z = true) (w4 : (Cond.code y bytes maxL ret).before a0 Z = true) (hy : z.cls ≠ "java/lang/invoke/MethodHandle" ∧ z.cls ≠ "java/lang/invoke/VarHandle") (E : Exa Z h a C) (hM : Met1 b l Z y bytes maxL ret [] rm (.ref a :: argsL).toArray h q) (hf : rm.frames + 1 ≤ R.frames) (hl : W + (maxL + 11) + rm.locals ≤ R.locals) (hsize : Ls.size = c.maxLocals) (hlen : ∀ sig, parseMethodDescriptor z.desc = some sig → argsL.length = sig.parameters.length) (hst : stk = argsL.reverse ++ .ref a :: st) (hW : 2 * 0 + (st.map fun v => v.category).sum ≤ W) (hc : cells + rm.cells = cells') (hc' : cells' ≤ R.cells) (hs : slots + rm.slots = slots') (hs' : slots' ≤ R.slots) (hp : pc + 3 = pc')
    (K : ∀ (T' : State) (h' : Heap) (w : Value), Go b p l e R s m args below meth c Z own T' h' cells' slots' → q w h' → Fz b p e R s below Z Q (T'.setTop (mkF m pc' Ls (w :: st)))) : Fz b p e R s below Z Q (T.setTop (mkF m pc Ls stk)) := 
  callV G hx hd nf w1 w2 w5 w6 w3 w4 hy E hM hf hl hsize hlen hst hW hc hc' hs hs' hp (fun T' h' v G' hq => by
    obtain ⟨w, rfl, hq⟩ := hq
    exact K T' h' w G' hq)
theorem callVP {index : Nat} {y : MethodName} {bytes : ByteArray} {maxL : Nat} {ret : Option FieldType} {rm : Room} {W : Nat} {argsL : List Value} {stk : List Value} {a : Addr} {C : String} {z : MethodName} {q : Value → Prop} (G : Go b p l e R s m args below meth c Z own T h cells slots) (hx : p.tables.exec = Jvm.exec) (hd : decode c.code pc = .ok (.invokevirtual index, 3)) (nf : ∀ s' : State, Z.Warmed39 s'.vm → NotFace s' z) (w1 : (Cond.methodLink own index z).before a0 Z = true) (w2 : (Cond.declares z).before a0 Z = true) (w5 : (Cond.selects C z y).before a0 Z = true) (w6 : (Cond.instanceMethod y).before a0 Z = true) (w3 : (Cond.initialized y.cls).before a0 Z = true) (w4 : (Cond.code y bytes maxL ret).before a0 Z = true) (hy : z.cls ≠ "java/lang/invoke/MethodHandle" ∧ z.cls ≠ "java/lang/invoke/VarHandle") (E : Exa Z h a C) (hM : Met1 b l Z y bytes maxL ret [] rm (.ref a :: argsL).toArray h (fun w h' => h' = h ∧ q w)) (hf : rm.frames + 1 ≤ R.frames) (hl : W + (maxL + 11) + rm.locals ≤ R.locals) (hsize : Ls.size = c.maxLocals) (hlen : ∀ sig, parseMethodDescriptor z.desc = some sig → argsL.length = sig.parameters.length) (hst : stk = argsL.reverse ++ .ref a :: st) (hW : 2 * 0 + (st.map fun v => v.category).sum ≤ W) (hc : cells + rm.cells = cells') (hc' : cells' ≤ R.cells) (hs : slots + rm.slots = slots') (hs' : slots' ≤ R.slots) (hp : pc + 3 = pc')
    (K : ∀ (T' : State) (w : Value), Go b p l e R s m args below meth c Z own T' h cells' slots' → q w → Fz b p e R s below Z Q (T'.setTop (mkF m pc' Ls (w :: st)))) : Fz b p e R s below Z Q (T.setTop (mkF m pc Ls stk)) := 
  callV G hx hd nf w1 w2 w5 w6 w3 w4 hy E hM hf hl hsize hlen hst hW hc hc' hs hs' hp (fun T' h' v G' hq => by
    obtain ⟨w, rfl, e1, hq⟩ := hq
    subst e1
    exact K T' w G' hq)
theorem callV0 {index : Nat} {y : MethodName} {bytes : ByteArray} {maxL : Nat} {ret : Option FieldType} {rm : Room} {W : Nat} {argsL : List Value} {stk : List Value} {a : Addr} {C : String} {z : MethodName} {q : Heap → Prop} (G : Go b p l e R s m args below meth c Z own T h cells slots) (hx : p.tables.exec = Jvm.exec) (hd : decode c.code pc = .ok (.invokevirtual index, 3)) (nf : ∀ s' : State, Z.Warmed39 s'.vm → NotFace s' z) (w1 : (Cond.methodLink own index z).before a0 Z = true) (w2 : (Cond.declares z).before a0 Z = true) (w5 : (Cond.selects C z y).before a0 Z = true) (w6 : (Cond.instanceMethod y).before a0 Z = true) (w3 : (Cond.initialized y.cls).before a0 Z = true) (w4 : (Cond.code y bytes maxL ret).before a0 Z = true) (hy : z.cls ≠ "java/lang/invoke/MethodHandle" ∧ z.cls ≠ "java/lang/invoke/VarHandle") (E : Exa Z h a C) (hM : Met0 b l Z y bytes maxL ret [] rm (.ref a :: argsL).toArray h q) (hf : rm.frames + 1 ≤ R.frames) (hl : W + (maxL + 11) + rm.locals ≤ R.locals) (hsize : Ls.size = c.maxLocals) (hlen : ∀ sig, parseMethodDescriptor z.desc = some sig → argsL.length = sig.parameters.length) (hst : stk = argsL.reverse ++ .ref a :: st) (hW : 2 * 0 + (st.map fun v => v.category).sum ≤ W) (hc : cells + rm.cells = cells') (hc' : cells' ≤ R.cells) (hs : slots + rm.slots = slots') (hs' : slots' ≤ R.slots) (hp : pc + 3 = pc')
    (K : ∀ (T' : State) (h' : Heap) , Go b p l e R s m args below meth c Z own T' h' cells' slots' → q h' → Fz b p e R s below Z Q (T'.setTop (mkF m pc' Ls st))) : Fz b p e R s below Z Q (T.setTop (mkF m pc Ls stk)) := 
  callV G hx hd nf w1 w2 w5 w6 w3 w4 hy E hM hf hl hsize hlen hst hW hc hc' hs hs' hp (fun T' h' v G' hq => by
    obtain ⟨rfl, hq⟩ := hq
    exact K T' h' G' hq)
theorem callU {index : Nat} {y : MethodName} {bytes : ByteArray} {maxL : Nat} {ret : Option FieldType} {rm : Room} {W : Nat} {argsL : List Value} {stk : List Value} {a : Addr} {C owner : String} {z : MethodName} {Q' : Option Value → Heap → Prop} (G : Go b p l e R s m args below meth c Z own T h cells slots) (hx : p.tables.exec = Jvm.exec) (hd : decode c.code pc = .ok (.invokevirtual index, 3)) (w1 : (Cond.methodLink own index z).before a0 Z = true) (w2 : (Cond.sameMethod z.cls owner z.name z.desc).before a0 Z = true) (w5 : (Cond.declares ⟨owner, z.name, z.desc⟩).before a0 Z = true) (w6 : (Cond.selects C z y).before a0 Z = true) (w7 : (Cond.instanceMethod y).before a0 Z = true) (w3 : (Cond.initialized y.cls).before a0 Z = true) (w4 : (Cond.code y bytes maxL ret).before a0 Z = true) (hy : owner ≠ "java/lang/invoke/MethodHandle" ∧ owner ≠ "java/lang/invoke/VarHandle") (E : Exa Z h a C) (hM : Met b l Z y bytes maxL ret [] rm (.ref a :: argsL).toArray h Q') (hf : rm.frames + 1 ≤ R.frames) (hl : W + (maxL + 11) + rm.locals ≤ R.locals) (hsize : Ls.size = c.maxLocals) (hlen : ∀ sig, parseMethodDescriptor z.desc = some sig → argsL.length = sig.parameters.length) (hst : stk = argsL.reverse ++ .ref a :: st) (hW : 2 * 0 + (st.map fun v => v.category).sum ≤ W) (hc : cells + rm.cells = cells') (hc' : cells' ≤ R.cells) (hs : slots + rm.slots = slots') (hs' : slots' ≤ R.slots) (hp : pc + 3 = pc')
    (K : ∀ (T' : State) (h' : Heap) (v : Option Value), Go b p l e R s m args below meth c Z own T' h' cells' slots' → Q' v h' → Fz b p e R s below Z Q (T'.setTop (mkF m pc' Ls (v.toList ++ st)))) : Fz b p e R s below Z Q (T.setTop (mkF m pc Ls stk)) := by
  subst hp; subst hc; subst hs
  obtain ⟨vm0, k0, locs, X, hb, hS, hk, hZ, hown, eT, N, O⟩ := G
  obtain ⟨cq, kq, qa, qb, qc⟩ := isOf (s := s.setVm vm0) (T := T) hZ eT E
  cases b
  · have q0 := hb rfl
    subst q0
    have X2 : Stand p l e R s m args below meth c T locs cells slots := X
    have hZ2 : Z.Warmed39 s.vm := hZ
    have hK := backOf (W := W) (R := R) (p := p) (e := e) (below := below) (args := args) (len := 3) (Q := fun v h L => Fr Z.heap.size L ∧ Ext Z.heap h ∧ Q' v h) hM hZ2 w4 w3 hf hl
    obtain ⟨v, vm₁, ⟨T1, L1, k1, n1⟩, -, X1, ⟨Lc, hQ, l1, y1, z1⟩, f⟩ := X2.virtualBackUp hx (x := z) (y := y) hown (mvT hZ2 w1) (mvT hZ2 w2) (mvT hZ2 w5) hy (mvT hZ2 w6) (mvT hZ2 w7) hK qa qc (g := mkF m pc Ls stk) rfl hsize (Steps.refl _) (argsL := argsL) (rest := st) hlen hst hW hd (fun _ _ => ⟨rfl, eT, hc', hs'⟩)
    dsimp only [Pt.U, Pt.locs, Pt.cells, Pt.slots] at X1 l1 y1 z1 f hQ
    subst l1 y1 z1
    exact Fz.of (fun t k => f.trans k) (K T1 T1.heap v ⟨s.vm, 0, _, X1, fun _ => rfl, (State.WarmedH.refl s).since 0, Nat.zero_le _, hZ2, hown, rfl, Fr.app N hQ.1, hQ.2.1⟩ hQ.2.2)
  · have hZ2 : Z.Warmed39 (s.setVm vm0).vm := hZ
    have hK := backOfS (W := W) (R := R) (p := p) (e := e) (below := below) (args := args) (len := 3) (Q := fun v h L => Fr Z.heap.size L ∧ Ext Z.heap h ∧ Q' v h) hM hZ2 w4 w3 hf hl
    obtain ⟨v, vm₁, ⟨T1, L1, k1, n1⟩, -, X1, hS1, hg1, ⟨Lc, hQ, l1, y1, z1⟩, f⟩ := X.virtualBackUpS hx (x := z) (y := y) hown (mvT hZ2 w1) (mvT hZ2 w2) (mvT hZ2 w5) hy (mvT hZ2 w6) (mvT hZ2 w7) hK qa qc (g := mkF m pc Ls stk) rfl hsize (Steps.refl _) (argsL := argsL) (rest := st) hlen hst hW hd (fun _ _ => ⟨rfl, eT, hc', hs'⟩)
    dsimp only [Pt.U, Pt.locs, Pt.cells, Pt.slots] at X1 hS1 hg1 l1 y1 z1 f hQ
    subst l1 y1 z1
    have X3 : Stand p l e R (s.setVm T1.vm) m args below meth c T1 (locs ++ Lc) (cells + rm.cells) (slots + rm.slots) := X1
    exact Fz.of (fun t k => f.trans k) (K T1 T1.heap v ⟨T1.vm, T1.heap.size, _, X3, (fun q => nomatch q), hS.trans hS1 (Nat.le_trans hk (by rw [← eT]; exact hg1)), Nat.le_refl _, State.Warmed39.trans (t := s.setVm vm0) hZ hS1.1, (hS1.1.alike.findClass _ _).trans hown, rfl, Fr.app N hQ.1, hQ.2.1⟩ hQ.2.2)
theorem callU1 {index : Nat} {y : MethodName} {bytes : ByteArray} {maxL : Nat} {ret : Option FieldType} {rm : Room} {W : Nat} {argsL : List Value} {stk : List Value} {a : Addr} {C owner : String} {z : MethodName} {q : Value → Heap → Prop} (G : Go b p l e R s m args below meth c Z own T h cells slots) (hx : p.tables.exec = Jvm.exec) (hd : decode c.code pc = .ok (.invokevirtual index, 3)) (w1 : (Cond.methodLink own index z).before a0 Z = true) (w2 : (Cond.sameMethod z.cls owner z.name z.desc).before a0 Z = true) (w5 : (Cond.declares ⟨owner, z.name, z.desc⟩).before a0 Z = true) (w6 : (Cond.selects C z y).before a0 Z = true) (w7 : (Cond.instanceMethod y).before a0 Z = true) (w3 : (Cond.initialized y.cls).before a0 Z = true) (w4 : (Cond.code y bytes maxL ret).before a0 Z = true) (hy : owner ≠ "java/lang/invoke/MethodHandle" ∧ owner ≠ "java/lang/invoke/VarHandle") (E : Exa Z h a C) (hM : Met1 b l Z y bytes maxL ret [] rm (.ref a :: argsL).toArray h q) (hf : rm.frames + 1 ≤ R.frames) (hl : W + (maxL + 11) + rm.locals ≤ R.locals) (hsize : Ls.size = c.maxLocals) (hlen : ∀ sig, parseMethodDescriptor z.desc = some sig → argsL.length = sig.parameters.length) (hst : stk = argsL.reverse ++ .ref a :: st) (hW : 2 * 0 + (st.map fun v => v.category).sum ≤ W) (hc : cells + rm.cells = cells') (hc' : cells' ≤ R.cells) (hs : slots + rm.slots = slots') (hs' : slots' ≤ R.slots) (hp : pc + 3 = pc')
    (K : ∀ (T' : State) (h' : Heap) (w : Value), Go b p l e R s m args below meth c Z own T' h' cells' slots' → q w h' → Fz b p e R s below Z Q (T'.setTop (mkF m pc' Ls (w :: st)))) : Fz b p e R s below Z Q (T.setTop (mkF m pc Ls stk)) := 
  callU G hx hd w1 w2 w5 w6 w7 w3 w4 hy E hM hf hl hsize hlen hst hW hc hc' hs hs' hp (fun T' h' v G' hq => by
    obtain ⟨w, rfl, hq⟩ := hq
    exact K T' h' w G' hq)
theorem callUP {index : Nat} {y : MethodName} {bytes : ByteArray} {maxL : Nat} {ret : Option FieldType} {rm : Room} {W : Nat} {argsL : List Value} {stk : List Value} {a : Addr} {C owner : String} {z : MethodName} {q : Value → Prop} (G : Go b p l e R s m args below meth c Z own T h cells slots) (hx : p.tables.exec = Jvm.exec) (hd : decode c.code pc = .ok (.invokevirtual index, 3)) (w1 : (Cond.methodLink own index z).before a0 Z = true) (w2 : (Cond.sameMethod z.cls owner z.name z.desc).before a0 Z = true) (w5 : (Cond.declares ⟨owner, z.name, z.desc⟩).before a0 Z = true) (w6 : (Cond.selects C z y).before a0 Z = true) (w7 : (Cond.instanceMethod y).before a0 Z = true) (w3 : (Cond.initialized y.cls).before a0 Z = true) (w4 : (Cond.code y bytes maxL ret).before a0 Z = true) (hy : owner ≠ "java/lang/invoke/MethodHandle" ∧ owner ≠ "java/lang/invoke/VarHandle") (E : Exa Z h a C) (hM : Met1 b l Z y bytes maxL ret [] rm (.ref a :: argsL).toArray h (fun w h' => h' = h ∧ q w)) (hf : rm.frames + 1 ≤ R.frames) (hl : W + (maxL + 11) + rm.locals ≤ R.locals) (hsize : Ls.size = c.maxLocals) (hlen : ∀ sig, parseMethodDescriptor z.desc = some sig → argsL.length = sig.parameters.length) (hst : stk = argsL.reverse ++ .ref a :: st) (hW : 2 * 0 + (st.map fun v => v.category).sum ≤ W) (hc : cells + rm.cells = cells') (hc' : cells' ≤ R.cells) (hs : slots + rm.slots = slots') (hs' : slots' ≤ R.slots) (hp : pc + 3 = pc')
    (K : ∀ (T' : State) (w : Value), Go b p l e R s m args below meth c Z own T' h cells' slots' → q w → Fz b p e R s below Z Q (T'.setTop (mkF m pc' Ls (w :: st)))) : Fz b p e R s below Z Q (T.setTop (mkF m pc Ls stk)) := 
  callU G hx hd w1 w2 w5 w6 w7 w3 w4 hy E hM hf hl hsize hlen hst hW hc hc' hs hs' hp (fun T' h' v G' hq => by
    obtain ⟨w, rfl, e1, hq⟩ := hq
    subst e1
    exact K T' w G' hq)
theorem callU0 {index : Nat} {y : MethodName} {bytes : ByteArray} {maxL : Nat} {ret : Option FieldType} {rm : Room} {W : Nat} {argsL : List Value} {stk : List Value} {a : Addr} {C owner : String} {z : MethodName} {q : Heap → Prop} (G : Go b p l e R s m args below meth c Z own T h cells slots) (hx : p.tables.exec = Jvm.exec) (hd : decode c.code pc = .ok (.invokevirtual index, 3)) (w1 : (Cond.methodLink own index z).before a0 Z = true) (w2 : (Cond.sameMethod z.cls owner z.name z.desc).before a0 Z = true) (w5 : (Cond.declares ⟨owner, z.name, z.desc⟩).before a0 Z = true) (w6 : (Cond.selects C z y).before a0 Z = true) (w7 : (Cond.instanceMethod y).before a0 Z = true) (w3 : (Cond.initialized y.cls).before a0 Z = true) (w4 : (Cond.code y bytes maxL ret).before a0 Z = true) (hy : owner ≠ "java/lang/invoke/MethodHandle" ∧ owner ≠ "java/lang/invoke/VarHandle") (E : Exa Z h a C) (hM : Met0 b l Z y bytes maxL ret [] rm (.ref a :: argsL).toArray h q) (hf : rm.frames + 1 ≤ R.frames) (hl : W + (maxL + 11) + rm.locals ≤ R.locals) (hsize : Ls.size = c.maxLocals) (hlen : ∀ sig, parseMethodDescriptor z.desc = some sig → argsL.length = sig.parameters.length) (hst : stk = argsL.reverse ++ .ref a :: st) (hW : 2 * 0 + (st.map fun v => v.category).sum ≤ W) (hc : cells + rm.cells = cells') (hc' : cells' ≤ R.cells) (hs : slots + rm.slots = slots') (hs' : slots' ≤ R.slots) (hp : pc + 3 = pc')
    (K : ∀ (T' : State) (h' : Heap) , Go b p l e R s m args below meth c Z own T' h' cells' slots' → q h' → Fz b p e R s below Z Q (T'.setTop (mkF m pc' Ls st))) : Fz b p e R s below Z Q (T.setTop (mkF m pc Ls stk)) := 
  callU G hx hd w1 w2 w5 w6 w7 w3 w4 hy E hM hf hl hsize hlen hst hW hc hc' hs hs' hp (fun T' h' v G' hq => by
    obtain ⟨rfl, hq⟩ := hq
    exact K T' h' G' hq)
theorem callIN {index : Nat} {y : MethodName} {bytes : ByteArray} {maxL : Nat} {rm : Room} {W : Nat} {argsL : List Value} {stk : List Value} {a : Addr} {host : String} {Q' : Option Value → Heap → Prop} (G : Go b p l e R s m args below meth c Z own T h cells slots) (hx : p.tables.exec = Jvm.exec) (hd : decode c.code pc = .ok (.invokespecial index, 3)) (hn : y.name = "<init>") (w1 : (Cond.methodLinkNest own index y host).before a0 Z = true) (w2 : (Cond.instanceMethod y).before a0 Z = true) (w3 : (Cond.initialized y.cls).before a0 Z = true) (w4 : (Cond.code y bytes maxL none).before a0 Z = true) (hy : y.cls ≠ "java/lang/invoke/MethodHandle" ∧ y.cls ≠ "java/lang/invoke/VarHandle") (hM : Met b l Z y bytes maxL none [] rm (.ref a :: argsL).toArray h Q') (hf : rm.frames + 1 ≤ R.frames) (hl : W + (maxL + 11) + rm.locals ≤ R.locals) (hsize : Ls.size = c.maxLocals) (hlen : ∀ sig, parseMethodDescriptor y.desc = some sig → argsL.length = sig.parameters.length) (hst : stk = argsL.reverse ++ .ref a :: st) (hW : 2 * 0 + (st.map fun v => v.category).sum ≤ W) (hc : cells + rm.cells = cells') (hc' : cells' ≤ R.cells) (hs : slots + rm.slots = slots') (hs' : slots' ≤ R.slots) (hp : pc + 3 = pc')
    (K : ∀ (T' : State) (h' : Heap) (v : Option Value), Go b p l e R s m args below meth c Z own T' h' cells' slots' → Q' v h' → Fz b p e R s below Z Q (T'.setTop (mkF m pc' Ls (v.toList ++ st)))) : Fz b p e R s below Z Q (T.setTop (mkF m pc Ls stk)) := by
  subst hp; subst hc; subst hs
  obtain ⟨vm0, k0, locs, X, hb, hS, hk, hZ, hown, eT, N, O⟩ := G
  cases b
  · have q0 := hb rfl
    subst q0
    have X2 : Stand p l e R s m args below meth c T locs cells slots := X
    have hZ2 : Z.Warmed39 s.vm := hZ
    have hK := backOf (W := W) (R := R) (p := p) (e := e) (below := below) (args := args) (len := 3) (Q := fun v h L => Fr Z.heap.size L ∧ Ext Z.heap h ∧ Q' v h) hM hZ2 w4 w3 hf hl
    obtain ⟨v, vm₁, ⟨T1, L1, k1, n1⟩, -, X1, ⟨Lc, hQ, l1, y1, z1⟩, f⟩ := X2.specialBackNest hx (y := y) hn hown (Cond.methodLinkNest_wide hZ2 w1 :) (mvT hZ2 w2) (mvT hZ2 w4) hy hK (g := mkF m pc Ls stk) rfl hsize (Steps.refl _) (a := a) (argsL := argsL) (rest := st) hlen hst hW hd (fun _ _ => ⟨rfl, eT, hc', hs'⟩)
    dsimp only [Pt.U, Pt.locs, Pt.cells, Pt.slots] at X1 l1 y1 z1 f hQ
    subst l1 y1 z1
    exact Fz.of (fun t k => f.trans k) (K T1 T1.heap v ⟨s.vm, 0, _, X1, fun _ => rfl, (State.WarmedH.refl s).since 0, Nat.zero_le _, hZ2, hown, rfl, Fr.app N hQ.1, hQ.2.1⟩ hQ.2.2)
  · have hZ2 : Z.Warmed39 (s.setVm vm0).vm := hZ
    have hK := backOfS (W := W) (R := R) (p := p) (e := e) (below := below) (args := args) (len := 3) (Q := fun v h L => Fr Z.heap.size L ∧ Ext Z.heap h ∧ Q' v h) hM hZ2 w4 w3 hf hl
    obtain ⟨v, vm₁, ⟨T1, L1, k1, n1⟩, -, X1, hS1, hg1, ⟨Lc, hQ, l1, y1, z1⟩, f⟩ := X.specialBackNestS hx (y := y) hn hown (Cond.methodLinkNest_wide hZ2 w1 :) (mvT hZ2 w2) (mvT hZ2 w4) hy hK (g := mkF m pc Ls stk) rfl hsize (Steps.refl _) (a := a) (argsL := argsL) (rest := st) hlen hst hW hd (fun _ _ => ⟨rfl, eT, hc', hs'⟩)
    dsimp only [Pt.U, Pt.locs, Pt.cells, Pt.slots] at X1 hS1 hg1 l1 y1 z1 f hQ
    subst l1 y1 z1
    have X3 : Stand p l e R (s.setVm T1.vm) m args below meth c T1 (locs ++ Lc) (cells + rm.cells) (slots + rm.slots) := X1
    exact Fz.of (fun t k => f.trans k) (K T1 T1.heap v ⟨T1.vm, T1.heap.size, _, X3, (fun q => nomatch q), hS.trans hS1 (Nat.le_trans hk (by rw [← eT]; exact hg1)), Nat.le_refl _, State.Warmed39.trans (t := s.setVm vm0) hZ hS1.1, (hS1.1.alike.findClass _ _).trans hown, rfl, Fr.app N hQ.1, hQ.2.1⟩ hQ.2.2)
theorem callIN1 {index : Nat} {y : MethodName} {bytes : ByteArray} {maxL : Nat} {rm : Room} {W : Nat} {argsL : List Value} {stk : List Value} {a : Addr} {host : String} {q : Value → Heap → Prop} (G : Go b p l e R s m args below meth c Z own T h cells slots) (hx : p.tables.exec = Jvm.exec) (hd : decode c.code pc = .ok (.invokespecial index, 3)) (hn : y.name = "<init>") (w1 : (Cond.methodLinkNest own index y host).before a0 Z = true) (w2 : (Cond.instanceMethod y).before a0 Z = true) (w3 : (Cond.initialized y.cls).before a0 Z = true) (w4 : (Cond.code y bytes maxL none).before a0 Z = true) (hy : y.cls ≠ "java/lang/invoke/MethodHandle" ∧ y.cls ≠ "java/lang/invoke/VarHandle") (hM : Met1 b l Z y bytes maxL none [] rm (.ref a :: argsL).toArray h q) (hf : rm.frames + 1 ≤ R.frames) (hl : W + (maxL + 11) + rm.locals ≤ R.locals) (hsize : Ls.size = c.maxLocals) (hlen : ∀ sig, parseMethodDescriptor y.desc = some sig → argsL.length = sig.parameters.length) (hst : stk = argsL.reverse ++ .ref a :: st) (hW : 2 * 0 + (st.map fun v => v.category).sum ≤ W) (hc : cells + rm.cells = cells') (hc' : cells' ≤ R.cells) (hs : slots + rm.slots = slots') (hs' : slots' ≤ R.slots) (hp : pc + 3 = pc')
    (K : ∀ (T' : State) (h' : Heap) (w : Value), Go b p l e R s m args below meth c Z own T' h' cells' slots' → q w h' → Fz b p e R s below Z Q (T'.setTop (mkF m pc' Ls (w :: st)))) : Fz b p e R s below Z Q (T.setTop (mkF m pc Ls stk)) := 
  callIN G hx hd hn w1 w2 w3 w4 hy hM hf hl hsize hlen hst hW hc hc' hs hs' hp (fun T' h' v G' hq => by
    obtain ⟨w, rfl, hq⟩ := hq
    exact K T' h' w G' hq)
theorem callINP {index : Nat} {y : MethodName} {bytes : ByteArray} {maxL : Nat} {rm : Room} {W : Nat} {argsL : List Value} {stk : List Value} {a : Addr} {host : String} {q : Value → Prop} (G : Go b p l e R s m args below meth c Z own T h cells slots) (hx : p.tables.exec = Jvm.exec) (hd : decode c.code pc = .ok (.invokespecial index, 3)) (hn : y.name = "<init>") (w1 : (Cond.methodLinkNest own index y host).before a0 Z = true) (w2 : (Cond.instanceMethod y).before a0 Z = true) (w3 : (Cond.initialized y.cls).before a0 Z = true) (w4 : (Cond.code y bytes maxL none).before a0 Z = true) (hy : y.cls ≠ "java/lang/invoke/MethodHandle" ∧ y.cls ≠ "java/lang/invoke/VarHandle") (hM : Met1 b l Z y bytes maxL none [] rm (.ref a :: argsL).toArray h (fun w h' => h' = h ∧ q w)) (hf : rm.frames + 1 ≤ R.frames) (hl : W + (maxL + 11) + rm.locals ≤ R.locals) (hsize : Ls.size = c.maxLocals) (hlen : ∀ sig, parseMethodDescriptor y.desc = some sig → argsL.length = sig.parameters.length) (hst : stk = argsL.reverse ++ .ref a :: st) (hW : 2 * 0 + (st.map fun v => v.category).sum ≤ W) (hc : cells + rm.cells = cells') (hc' : cells' ≤ R.cells) (hs : slots + rm.slots = slots') (hs' : slots' ≤ R.slots) (hp : pc + 3 = pc')
    (K : ∀ (T' : State) (w : Value), Go b p l e R s m args below meth c Z own T' h cells' slots' → q w → Fz b p e R s below Z Q (T'.setTop (mkF m pc' Ls (w :: st)))) : Fz b p e R s below Z Q (T.setTop (mkF m pc Ls stk)) := 
  callIN G hx hd hn w1 w2 w3 w4 hy hM hf hl hsize hlen hst hW hc hc' hs hs' hp (fun T' h' v G' hq => by
    obtain ⟨w, rfl, e1, hq⟩ := hq
    subst e1
    exact K T' w G' hq)
theorem callIN0 {index : Nat} {y : MethodName} {bytes : ByteArray} {maxL : Nat} {rm : Room} {W : Nat} {argsL : List Value} {stk : List Value} {a : Addr} {host : String} {q : Heap → Prop} (G : Go b p l e R s m args below meth c Z own T h cells slots) (hx : p.tables.exec = Jvm.exec) (hd : decode c.code pc = .ok (.invokespecial index, 3)) (hn : y.name = "<init>") (w1 : (Cond.methodLinkNest own index y host).before a0 Z = true) (w2 : (Cond.instanceMethod y).before a0 Z = true) (w3 : (Cond.initialized y.cls).before a0 Z = true) (w4 : (Cond.code y bytes maxL none).before a0 Z = true) (hy : y.cls ≠ "java/lang/invoke/MethodHandle" ∧ y.cls ≠ "java/lang/invoke/VarHandle") (hM : Met0 b l Z y bytes maxL none [] rm (.ref a :: argsL).toArray h q) (hf : rm.frames + 1 ≤ R.frames) (hl : W + (maxL + 11) + rm.locals ≤ R.locals) (hsize : Ls.size = c.maxLocals) (hlen : ∀ sig, parseMethodDescriptor y.desc = some sig → argsL.length = sig.parameters.length) (hst : stk = argsL.reverse ++ .ref a :: st) (hW : 2 * 0 + (st.map fun v => v.category).sum ≤ W) (hc : cells + rm.cells = cells') (hc' : cells' ≤ R.cells) (hs : slots + rm.slots = slots') (hs' : slots' ≤ R.slots) (hp : pc + 3 = pc')
    (K : ∀ (T' : State) (h' : Heap) , Go b p l e R s m args below meth c Z own T' h' cells' slots' → q h' → Fz b p e R s below Z Q (T'.setTop (mkF m pc' Ls st))) : Fz b p e R s below Z Q (T.setTop (mkF m pc Ls stk)) := 
  callIN G hx hd hn w1 w2 w3 w4 hy hM hf hl hsize hlen hst hW hc hc' hs hs' hp (fun T' h' v G' hq => by
    obtain ⟨rfl, hq⟩ := hq
    exact K T' h' G' hq)
theorem callSup {index : Nat} {y : MethodName} {bytes : ByteArray} {maxL : Nat} {ret : Option FieldType} {rm : Room} {W : Nat} {argsL : List Value} {stk : List Value} {a : Addr} {K' : String} {Q' : Option Value → Heap → Prop} (G : Go b p l e R s m args below meth c Z own T h cells slots) (hx : p.tables.exec = Jvm.exec) (hd : decode c.code pc = .ok (.invokespecial index, 3)) (hn : y.name ≠ "<init>") (w1 : (Cond.methodLink own index y).before a0 Z = true) (w2 : (Cond.sameMethod y.cls y.cls y.name y.desc).before a0 Z = true) (w5 : (Cond.instanceMethod y).before a0 Z = true) (w6 : (Cond.superclass own y.cls).before a0 Z = true) (w3 : (Cond.initialized y.cls).before a0 Z = true) (w4 : (Cond.code y bytes maxL ret).before a0 Z = true) (I : Ins Z h a K' true) (hM : Met b l Z y bytes maxL ret [] rm (.ref a :: argsL).toArray h Q') (hf : rm.frames + 1 ≤ R.frames) (hl : W + (maxL + 11) + rm.locals ≤ R.locals) (hsize : Ls.size = c.maxLocals) (hlen : ∀ sig, parseMethodDescriptor y.desc = some sig → argsL.length = sig.parameters.length) (hst : stk = argsL.reverse ++ .ref a :: st) (hW : 2 * 0 + (st.map fun v => v.category).sum ≤ W) (hc : cells + rm.cells = cells') (hc' : cells' ≤ R.cells) (hs : slots + rm.slots = slots') (hs' : slots' ≤ R.slots) (hp : pc + 3 = pc')
    (K : ∀ (T' : State) (h' : Heap) (v : Option Value), Go b p l e R s m args below meth c Z own T' h' cells' slots' → Q' v h' → Fz b p e R s below Z Q (T'.setTop (mkF m pc' Ls (v.toList ++ st)))) : Fz b p e R s below Z Q (T.setTop (mkF m pc Ls stk)) := by
  subst hp; subst hc; subst hs
  obtain ⟨vm0, k0, locs, X, hb, hS, hk, hZ, hown, eT, N, O⟩ := G
  cases b
  · have q0 := hb rfl
    subst q0
    have X2 : Stand p l e R s m args below meth c T locs cells slots := X
    have hZ2 : Z.Warmed39 s.vm := hZ
    have hK := backOf (W := W) (R := R) (p := p) (e := e) (below := below) (args := args) (len := 3) (Q := fun v h L => Fr Z.heap.size L ∧ Ext Z.heap h ∧ Q' v h) hM hZ2 w4 w3 hf hl
    obtain ⟨v, vm₁, ⟨T1, L1, k1, n1⟩, -, X1, ⟨Lc, hQ, l1, y1, z1⟩, f⟩ := superBack X2 hx hZ2 hown w1 w2 w5 w6 hn hK eT I (g := mkF m pc Ls stk) rfl hsize w4 (argsL := argsL) (rest := st) hlen hst hW hd (fun _ _ => ⟨rfl, eT, hc', hs'⟩)
    dsimp only [Pt.U, Pt.locs, Pt.cells, Pt.slots] at X1 l1 y1 z1 f hQ
    subst l1 y1 z1
    exact Fz.of (fun t k => f.trans k) (K T1 T1.heap v ⟨s.vm, 0, _, X1, fun _ => rfl, (State.WarmedH.refl s).since 0, Nat.zero_le _, hZ2, hown, rfl, Fr.app N hQ.1, hQ.2.1⟩ hQ.2.2)
  · have hZ2 : Z.Warmed39 (s.setVm vm0).vm := hZ
    have hK := backOfS (W := W) (R := R) (p := p) (e := e) (below := below) (args := args) (len := 3) (Q := fun v h L => Fr Z.heap.size L ∧ Ext Z.heap h ∧ Q' v h) hM hZ2 w4 w3 hf hl
    obtain ⟨v, vm₁, ⟨T1, L1, k1, n1⟩, -, X1, hS1, hg1, ⟨Lc, hQ, l1, y1, z1⟩, f⟩ := superBackS X hx hZ2 hown w1 w2 w5 w6 hn hK eT I (g := mkF m pc Ls stk) rfl hsize w4 (argsL := argsL) (rest := st) hlen hst hW hd (fun _ _ => ⟨rfl, eT, hc', hs'⟩)
    dsimp only [Pt.U, Pt.locs, Pt.cells, Pt.slots] at X1 hS1 hg1 l1 y1 z1 f hQ
    subst l1 y1 z1
    have X3 : Stand p l e R (s.setVm T1.vm) m args below meth c T1 (locs ++ Lc) (cells + rm.cells) (slots + rm.slots) := X1
    exact Fz.of (fun t k => f.trans k) (K T1 T1.heap v ⟨T1.vm, T1.heap.size, _, X3, (fun q => nomatch q), hS.trans hS1 (Nat.le_trans hk (by rw [← eT]; exact hg1)), Nat.le_refl _, State.Warmed39.trans (t := s.setVm vm0) hZ hS1.1, (hS1.1.alike.findClass _ _).trans hown, rfl, Fr.app N hQ.1, hQ.2.1⟩ hQ.2.2)
theorem callSup1 {index : Nat} {y : MethodName} {bytes : ByteArray} {maxL : Nat} {ret : Option FieldType} {rm : Room} {W : Nat} {argsL : List Value} {stk : List Value} {a : Addr} {K' : String} {q : Value → Heap → Prop} (G : Go b p l e R s m args below meth c Z own T h cells slots) (hx : p.tables.exec = Jvm.exec) (hd : decode c.code pc = .ok (.invokespecial index, 3)) (hn : y.name ≠ "<init>") (w1 : (Cond.methodLink own index y).before a0 Z = true) (w2 : (Cond.sameMethod y.cls y.cls y.name y.desc).before a0 Z = true) (w5 : (Cond.instanceMethod y).before a0 Z = true) (w6 : (Cond.superclass own y.cls).before a0 Z = true) (w3 : (Cond.initialized y.cls).before a0 Z = true) (w4 : (Cond.code y bytes maxL ret).before a0 Z = true) (I : Ins Z h a K' true) (hM : Met1 b l Z y bytes maxL ret [] rm (.ref a :: argsL).toArray h q) (hf : rm.frames + 1 ≤ R.frames) (hl : W + (maxL + 11) + rm.locals ≤ R.locals) (hsize : Ls.size = c.maxLocals) (hlen : ∀ sig, parseMethodDescriptor y.desc = some sig → argsL.length = sig.parameters.length) (hst : stk = argsL.reverse ++ .ref a :: st) (hW : 2 * 0 + (st.map fun v => v.category).sum ≤ W) (hc : cells + rm.cells = cells') (hc' : cells' ≤ R.cells) (hs : slots + rm.slots = slots') (hs' : slots' ≤ R.slots) (hp : pc + 3 = pc')
    (K : ∀ (T' : State) (h' : Heap) (w : Value), Go b p l e R s m args below meth c Z own T' h' cells' slots' → q w h' → Fz b p e R s below Z Q (T'.setTop (mkF m pc' Ls (w :: st)))) : Fz b p e R s below Z Q (T.setTop (mkF m pc Ls stk)) := 
  callSup G hx hd hn w1 w2 w5 w6 w3 w4 I hM hf hl hsize hlen hst hW hc hc' hs hs' hp (fun T' h' v G' hq => by
    obtain ⟨w, rfl, hq⟩ := hq
    exact K T' h' w G' hq)
theorem callSupP {index : Nat} {y : MethodName} {bytes : ByteArray} {maxL : Nat} {ret : Option FieldType} {rm : Room} {W : Nat} {argsL : List Value} {stk : List Value} {a : Addr} {K' : String} {q : Value → Prop} (G : Go b p l e R s m args below meth c Z own T h cells slots) (hx : p.tables.exec = Jvm.exec) (hd : decode c.code pc = .ok (.invokespecial index, 3)) (hn : y.name ≠ "<init>") (w1 : (Cond.methodLink own index y).before a0 Z = true) (w2 : (Cond.sameMethod y.cls y.cls y.name y.desc).before a0 Z = true) (w5 : (Cond.instanceMethod y).before a0 Z = true) (w6 : (Cond.superclass own y.cls).before a0 Z = true) (w3 : (Cond.initialized y.cls).before a0 Z = true) (w4 : (Cond.code y bytes maxL ret).before a0 Z = true) (I : Ins Z h a K' true) (hM : Met1 b l Z y bytes maxL ret [] rm (.ref a :: argsL).toArray h (fun w h' => h' = h ∧ q w)) (hf : rm.frames + 1 ≤ R.frames) (hl : W + (maxL + 11) + rm.locals ≤ R.locals) (hsize : Ls.size = c.maxLocals) (hlen : ∀ sig, parseMethodDescriptor y.desc = some sig → argsL.length = sig.parameters.length) (hst : stk = argsL.reverse ++ .ref a :: st) (hW : 2 * 0 + (st.map fun v => v.category).sum ≤ W) (hc : cells + rm.cells = cells') (hc' : cells' ≤ R.cells) (hs : slots + rm.slots = slots') (hs' : slots' ≤ R.slots) (hp : pc + 3 = pc')
    (K : ∀ (T' : State) (w : Value), Go b p l e R s m args below meth c Z own T' h cells' slots' → q w → Fz b p e R s below Z Q (T'.setTop (mkF m pc' Ls (w :: st)))) : Fz b p e R s below Z Q (T.setTop (mkF m pc Ls stk)) := 
  callSup G hx hd hn w1 w2 w5 w6 w3 w4 I hM hf hl hsize hlen hst hW hc hc' hs hs' hp (fun T' h' v G' hq => by
    obtain ⟨w, rfl, e1, hq⟩ := hq
    subst e1
    exact K T' w G' hq)
theorem callSup0 {index : Nat} {y : MethodName} {bytes : ByteArray} {maxL : Nat} {ret : Option FieldType} {rm : Room} {W : Nat} {argsL : List Value} {stk : List Value} {a : Addr} {K' : String} {q : Heap → Prop} (G : Go b p l e R s m args below meth c Z own T h cells slots) (hx : p.tables.exec = Jvm.exec) (hd : decode c.code pc = .ok (.invokespecial index, 3)) (hn : y.name ≠ "<init>") (w1 : (Cond.methodLink own index y).before a0 Z = true) (w2 : (Cond.sameMethod y.cls y.cls y.name y.desc).before a0 Z = true) (w5 : (Cond.instanceMethod y).before a0 Z = true) (w6 : (Cond.superclass own y.cls).before a0 Z = true) (w3 : (Cond.initialized y.cls).before a0 Z = true) (w4 : (Cond.code y bytes maxL ret).before a0 Z = true) (I : Ins Z h a K' true) (hM : Met0 b l Z y bytes maxL ret [] rm (.ref a :: argsL).toArray h q) (hf : rm.frames + 1 ≤ R.frames) (hl : W + (maxL + 11) + rm.locals ≤ R.locals) (hsize : Ls.size = c.maxLocals) (hlen : ∀ sig, parseMethodDescriptor y.desc = some sig → argsL.length = sig.parameters.length) (hst : stk = argsL.reverse ++ .ref a :: st) (hW : 2 * 0 + (st.map fun v => v.category).sum ≤ W) (hc : cells + rm.cells = cells') (hc' : cells' ≤ R.cells) (hs : slots + rm.slots = slots') (hs' : slots' ≤ R.slots) (hp : pc + 3 = pc')
    (K : ∀ (T' : State) (h' : Heap) , Go b p l e R s m args below meth c Z own T' h' cells' slots' → q h' → Fz b p e R s below Z Q (T'.setTop (mkF m pc' Ls st))) : Fz b p e R s below Z Q (T.setTop (mkF m pc Ls stk)) := 
  callSup G hx hd hn w1 w2 w5 w6 w3 w4 I hM hf hl hsize hlen hst hW hc hc' hs hs' hp (fun T' h' v G' hq => by
    obtain ⟨rfl, hq⟩ := hq
    exact K T' h' G' hq)
theorem getfieldRef {O' n d : String} {index : Nat} {a : Addr} {v : Value} (G : Go b p l e R s m args below meth c Z own T h cells slots) (hx : p.tables.exec = Jvm.exec) (hd : decode c.code pc = .ok (.getfield index, 3)) (w : (Cond.fieldRef own index O' n d).before a0 Z = true) (F : Fld Z h a O' n d v) (hp : pc + 3 = pc') (K : Fz b p e R s below Z Q (T.setTop (mkF m pc' Ls (v :: st)))) : Fz b p e R s below Z Q (T.setTop (mkF m pc Ls (.ref a :: st))) := by
  subst hp
  obtain ⟨vm0, k0, locs, X, hb, hS, hk, hZ, hown, eT, N, O⟩ := G
  have hZT : Z.Warmed39 T.vm := wtrans (s := s.setVm vm0) hZ X.warmed
  have q := Cond.fieldRef_warmed39 hZT w
  have hcur : (Z.setVm T.vm).vm.findClass own = some m.cls := (X.warmed.alike.findClass _ _).trans hown
  obtain ⟨c2, k2, i2, f2, e1, hr⟩ := Cond.fieldRef_spec hcur q
  obtain ⟨cell, cf, k, i, f, h1, h2, h3, h4, -, -, h7⟩ := F
  obtain ⟨k', hi, -⟩ := State.fieldFound?_setVm (s := Z) hZT.alike h2
  have e2 := hi.symm.trans e1
  simp only [Option.some.injEq, Prod.mk.injEq] at e2
  obtain ⟨rfl, rfl, rfl, rfl⟩ := e2
  exact Fz.of (fun t k => (X.getfieldR hx (g := mkF m pc Ls (.ref a :: st)) rfl hr h3 rfl (by rw [eT]; exact h1) h4 h7 hd (Steps.refl _)).trans k) K
theorem arraycopy {index : Nat} {k k' : ClassId} {ty : FieldType} {z z' sp dp nn : Int32} {vs vd us : List Value} {dv dd : Value} {a x : Addr} {W : Nat} (G : Go b p l e R s m args below meth c Z own T h cells slots) (hx : p.tables.exec = Jvm.exec) (hd : decode c.code pc = .ok (.invokestatic index, 3)) (w1 : (Cond.methodLink own index Jvm.Stand.acN).before a0 Z = true) (w2 : (Cond.native Jvm.Stand.acN).before a0 Z = true) (w3 : (Cond.static Jvm.Stand.acN).before a0 Z = true) (w4 : (Cond.initialized "java/lang/System").before a0 Z = true)
    (A : Arv Z h a k ty z vs dv) (B : Arv Z h x k' ty z' vd dd) (hty : refKind ty = false) (h1 : ¬ sp < 0) (h2 : ¬ dp < 0) (h3 : ¬ nn < 0) (h4 : sp.toNatClampNeg + nn.toNatClampNeg ≤ z.toNatClampNeg) (h5 : dp.toNatClampNeg + nn.toNatClampNeg ≤ z'.toNatClampNeg) (hus : us = (List.range nn.toNatClampNeg).map fun i => vs.getD (sp.toNatClampNeg + i) dv) (hl : dp.toNatClampNeg + nn.toNatClampNeg ≤ vd.length) (ga : Z.heap.size ≤ x)
    (hsize : Ls.size = c.maxLocals) (hf : 1 ≤ R.frames) (hW : 2 * 0 + (st.map fun v => v.category).sum ≤ W) (hlo : W + (nativeFrameWords "java/lang/System" "arraycopy" 5 + 11) ≤ R.locals) (hp : pc + 3 = pc')
    (K : ∀ T' h', Go b p l e R s m args below meth c Z own T' h' cells slots → Keep h h' [x] → Arv Z h' x k' ty z' (vd.take dp.toNatClampNeg ++ us ++ vd.drop (dp.toNatClampNeg + nn.toNatClampNeg)) dd → Fz b p e R s below Z Q (T'.setTop (mkF m pc' Ls st))) : Fz b p e R s below Z Q (T.setTop (mkF m pc Ls (.int nn :: .int dp :: .ref x :: .int sp :: .ref a :: st))) := by
  subst hp
  obtain ⟨vm0, k0, locs, X, hb, hS, hk, hZ, hown, eT, N, O⟩ := G
  obtain ⟨T', h', L, X', e', N', K', V', f⟩ := cpA X hx hZ hown w1 w2 w3 w4 eT A B (Or.inl ⟨rfl, hty⟩) h1 h2 h3 h4 h5 hus hl N ga (g := mkF m pc Ls (.int nn :: .int dp :: .ref x :: .int sp :: .ref a :: st)) rfl hsize rfl hd hf hW hlo
  exact Fz.of f (K T' h' ⟨vm0, k0, L, X', hb, hS, Nat.le_trans hk K'.1, hZ, hown, e', N', (Old.keep (n0 := Z.heap.size) ⟨rfl, O⟩ K' (allS ga all0)).2⟩ K' V')
theorem callIB {index : Nat} {y : MethodName} {bytes : ByteArray} {maxL : Nat} {W mc ms : Nat} {argsL : List Value} {stk : List Value} {a : Addr} {Qb : Option Value → Heap → List Loc → Prop} (G : Go b p l e R s m args below meth c Z own T h cells slots) (hx : p.tables.exec = Jvm.exec) (hd : decode c.code pc = .ok (.invokespecial index, 3)) (hn : y.name = "<init>") (w1 : (Cond.methodLink own index y).before a0 Z = true) (w2 : (Cond.instanceMethod y).before a0 Z = true) (w4 : (Cond.code y bytes maxL none).before a0 Z = true) (hy : y.cls ≠ "java/lang/invoke/MethodHandle" ∧ y.cls ≠ "java/lang/invoke/VarHandle")
    (hB : ∀ s' : State, Z.Warmed39 s'.vm → Back l R p e below s' args y 3 W (fun P a' => a' = (.ref a :: argsL).toArray ∧ P.U.heap = h ∧ P.cells + mc ≤ R.cells ∧ P.slots + ms ≤ R.slots) (fun P _ v B => ∃ L, Qb v B.U.heap L ∧ B.locs = P.locs ++ L ∧ B.cells = P.cells + mc ∧ B.slots = P.slots + ms))
    (hQ : ∀ v h' L, Qb v h' L → v = none ∧ Fr Z.heap.size L ∧ Ext Z.heap h' ∧ h.size ≤ h'.size) (hsize : Ls.size = c.maxLocals) (hlen : ∀ sig, parseMethodDescriptor y.desc = some sig → argsL.length = sig.parameters.length) (hst : stk = argsL.reverse ++ .ref a :: st) (hW : 2 * 0 + (st.map fun v => v.category).sum ≤ W) (hc : cells + mc = cells') (hc' : cells' ≤ R.cells) (hs : slots + ms = slots') (hs' : slots' ≤ R.slots) (hp : pc + 3 = pc')
    (K : ∀ (T' : State) (h' : Heap), Go b p l e R s m args below meth c Z own T' h' cells' slots' → (∃ L, Qb none h' L) → Fz b p e R s below Z Q (T'.setTop (mkF m pc' Ls st))) : Fz b p e R s below Z Q (T.setTop (mkF m pc Ls stk)) := by
  subst hp; subst hc; subst hs
  obtain ⟨vm0, k0, locs, X, hb, hS, hk, hZ, hown, eT, N, O⟩ := G
  have hZ2 : Z.Warmed39 (s.setVm vm0).vm := hZ
  obtain ⟨v, vm₁, ⟨T1, L1, k1, n1⟩, -, X1, ⟨Lc, hQ1, l1, y1, z1⟩, f⟩ := X.specialBack hx (y := y) hn hown (mvT hZ2 w1) (mvT hZ2 w2) (mvT hZ2 w4) hy (hB _ hZ2) (g := mkF m pc Ls stk) rfl hsize (Steps.refl _) (a := a) (argsL := argsL) (rest := st) hlen hst hW hd (fun _ _ => ⟨rfl, eT, hc', hs'⟩)
  dsimp only [Pt.U, Pt.locs, Pt.cells, Pt.slots] at X1 l1 y1 z1 f hQ1
  subst l1 y1 z1
  obtain ⟨e1, N1, O1, hz1⟩ := hQ _ _ _ hQ1
  subst e1
  have kz : k0 ≤ T1.heap.size := Nat.le_trans hk hz1
  exact Fz.of (fun t k => f.trans k) (K T1 T1.heap ⟨vm0, k0, _, X1, hb, hS, kz, hZ, hown, rfl, Fr.app N N1, O1⟩ ⟨Lc, hQ1⟩)
theorem callVB {index : Nat} {y z : MethodName} {C : String} {W : Nat} {argsL : List Value} {stk : List Value} {a : Addr} {Qb : Option Value → Prop} (G : Go b p l e R s m args below meth c Z own T h cells slots) (hx : p.tables.exec = Jvm.exec) (hd : decode c.code pc = .ok (.invokevirtual index, 3)) (nf : ∀ s' : State, Z.Warmed39 s'.vm → NotFace s' z) (w1 : (Cond.methodLink own index z).before a0 Z = true) (w2 : (Cond.declares z).before a0 Z = true) (w5 : (Cond.selects C z y).before a0 Z = true) (w6 : (Cond.instanceMethod y).before a0 Z = true) (hy : z.cls ≠ "java/lang/invoke/MethodHandle" ∧ z.cls ≠ "java/lang/invoke/VarHandle") (E : Exa Z h a C)
    (hB : ∀ s' : State, Z.Warmed39 s'.vm → Back l R p e below s' args y 3 W (fun P a' => a' = (.ref a :: argsL).toArray ∧ P.U.heap = h ∧ P.cells + 0 ≤ R.cells ∧ P.slots + 0 ≤ R.slots) (fun P _ v B => ∃ L, (Qb v ∧ L = [] ∧ B.U.heap = h) ∧ B.locs = P.locs ++ L ∧ B.cells = P.cells + 0 ∧ B.slots = P.slots + 0))
    (hsize : Ls.size = c.maxLocals) (hlen : ∀ sig, parseMethodDescriptor z.desc = some sig → argsL.length = sig.parameters.length) (hst : stk = argsL.reverse ++ .ref a :: st) (hW : 2 * 0 + (st.map fun v => v.category).sum ≤ W) (hc' : cells + 0 ≤ R.cells) (hs' : slots + 0 ≤ R.slots) (hp : pc + 3 = pc')
    (hQ : ∀ v, Qb v → ∃ w, v = some w) (K : ∀ (T' : State) (w : Value), Go b p l e R s m args below meth c Z own T' h cells slots → Qb (some w) → Fz b p e R s below Z Q (T'.setTop (mkF m pc' Ls (w :: st)))) : Fz b p e R s below Z Q (T.setTop (mkF m pc Ls stk)) := by
  subst hp
  obtain ⟨vm0, k0, locs, X, hb, hS, hk, hZ, hown, eT, N, O⟩ := G
  obtain ⟨cq, kq, qa, qb, qc⟩ := isOf (s := s.setVm vm0) (T := T) hZ eT E
  have hZ2 : Z.Warmed39 (s.setVm vm0).vm := hZ
  obtain ⟨v, vm₁, ⟨T1, L1, k1, n1⟩, -, X1, ⟨Lc, ⟨hQ1, rfl, e1⟩, l1, y1, z1⟩, f⟩ := X.virtualBack hx (y := z) (z := y) hown (mvT hZ2 w1) (mvT hZ2 w2) (nf _ hZ2) (mvT hZ2 w5) (mvT hZ2 w6) hy (hB _ hZ2) qa qc (g := mkF m pc Ls stk) rfl hsize (Steps.refl _) (argsL := argsL) (rest := st) hlen hst hW hd (fun _ _ => ⟨rfl, eT, hc', hs'⟩)
  dsimp only [Pt.U, Pt.locs, Pt.cells, Pt.slots] at X1 l1 y1 z1 f hQ1 e1
  subst l1 y1 z1
  rw [List.append_nil] at X1
  obtain ⟨w, rfl⟩ := hQ v hQ1
  exact Fz.of (fun t k => f.trans k) (K T1 w ⟨vm0, k0, _, X1, hb, hS, hk, hZ, hown, e1, N, O⟩ hQ1)
theorem declOf {y : MethodName} {bytes : ByteArray} {maxL : Nat} {ret : Option FieldType} (w1 : (Cond.instanceMethod y).before a0 Z = true) (w2 : (Cond.code y bytes maxL ret).before a0 Z = true) : (Cond.declares y).before a0 Z = true := by
  obtain ⟨mk, methM, hnamed, hmethM, hstM, habM⟩ := Cond.instanceMethod_spec w1
  obtain ⟨m2, cM, q1, -, -, -, -, -, -, hsig⟩ := Cond.code_spec hnamed w2
  cases hmethM.symm.trans q1
  simp [Cond.before, Cond.holds, Cond.value, hnamed, hmethM, hstM, hsig]
theorem nfOf {C : String} {y z : MethodName} (hz : z.cls = y.cls) (w : (Cond.selects C z z).before a0 Z = true) : ∀ s' : State, Z.Warmed39 s'.vm → NotFace s' y := fun s' hZ r0 h0 => by
  obtain ⟨c2, r2, m2, -, -, q3, -, kP, hkP, hkPi⟩ := Cond.selects_spec (mvT (args := #[]) hZ w)
  have hc := findClass_of_methodNamed h0
  have hc2 := findClass_of_methodNamed q3
  rw [hz] at hc2
  have e : m2.cls = r0.cls := Option.some.inj (hc2.symm.trans hc)
  exact ⟨kP, e ▸ hkP, hkPi⟩
theorem sameSelf {C : String} {y z : MethodName} (hz : z.cls = y.cls) (hy : y.cls ≠ "java/lang/invoke/MethodHandle" ∧ y.cls ≠ "java/lang/invoke/VarHandle") (w1 : (Cond.instanceMethod y).before a0 Z = true) (w2 : (Cond.selects C z z).before a0 Z = true) : (Cond.sameMethod y.cls y.cls y.name y.desc).before a0 Z = true := by
  obtain ⟨mk, methM, hnamed, hmethM, hstM, habM⟩ := Cond.instanceMethod_spec w1
  obtain ⟨c2, r2, m2, -, -, q3, -, kP, hkP, hkPi⟩ := Cond.selects_spec w2
  have hc := findClass_of_methodNamed hnamed
  have hc2 := findClass_of_methodNamed q3
  rw [hz] at hc2
  have e : m2.cls = mk.cls := Option.some.inj (hc2.symm.trans hc)
  rw [e] at hkP
  have hf := State.methodFound?_of_named hnamed hy
  have hnm : Z.methodNamed? ⟨y.cls, y.name, y.desc⟩ = some mk := hnamed
  simp [Cond.before, Cond.holds, Cond.value, hc, hf, hnm, hkP, hkPi]
end Base
section Facts
variable {Z : State} {a0 : Array Value} {h h' : Heap} {a b x : Addr} {C n d : String} {v w : Value} {ws : List Addr}
/-- a fresh cell is none of the older ones -/
theorem ne_new (hl : a < h.size) (q : x = h.size) : a ≠ x := fun e => by subst e; subst q; exact absurd hl (Nat.lt_irrefl _)
theorem ne_ge (hl : a < h.size) (q : h.size ≤ x) : a ≠ x := fun e => by subst e; exact absurd hl (Nat.not_lt.mpr q)
theorem ge_new (O : Ext Z.heap h) (q : x = h.size) : Z.heap.size ≤ x := by subst q; exact O.1
theorem Ext.refl (h : Heap) : Ext h h := ⟨Nat.le_refl _, fun _ _ q => q⟩
theorem Ext.keep (E : Ext h h') : Keep h h' ws := (Keep.refl h ws).ext E
theorem nin1 (q : a ≠ b) : a ∉ [b] := ninS q nin0
theorem catI (x : Int32) : (Value.int x).category = 1 := rfl
theorem catJ (x : Int64) : (Value.long x).category = 2 := rfl
theorem catR (x : Addr) : (Value.ref x).category = 1 := rfl
theorem catN : Value.null.category = 1 := rfl
theorem cat1 (q : v.isRef = true) : v.category = 1 := by cases v <;> simp [Value.isRef, Value.category] at q ⊢
theorem fits_R {K : String} (q : v.isRef = true) : fits (.object K) v = true := by cases v <;> simp [Value.isRef, fits] at q ⊢
theorem eq_to {args : Array Value} {s : State} {t u : Term} {y : Value} (q : (Cond.eq t u).value args s none s [] = some true) (hu : u.eval args s none [] s = some y) : t.eval args s none [] s = some y := by
  cases ht : t.eval args s none [] s with
  | none => simp [Cond.value, ht] at q
  | some x => cases x <;> cases y <;> simp [Cond.value, ht, hu] at q ⊢ <;> exact q
theorem fld_of {args : Array Value} {s : State} {t : Term} {y : Value} {K nm dd : String} (ht : t.eval args s none [] s = some (.ref x)) (q : (Term.field t K nm dd).eval args s none [] s = some y) : Fld s s.heap x K nm dd y := Fld.start ((fld_at ht).symm.trans q)
theorem sta_of {args : Array Value} {s : State} {K nm dd : String} {y : Value} (ev : (Term.static K nm dd).eval args s none [] s = some y) (h1 : (Cond.initialized K).before args s = true) (h2 : (Cond.laysStatic K nm dd).before args s = true) : Sta s s.heap K nm dd y := Sta.start ev (Or.inr ⟨h1, h2⟩)
theorem sta_for {args : Array Value} {s : State} {K nm dd : String} {y : Value} (ev : (Term.static K nm dd).eval args s none [] s = some y) (h1 : (Cond.initializedFor K nm dd).before args s = true) : Sta s s.heap K nm dd y := Sta.start ev (Or.inl h1)
theorem arv_len {args : Array Value} {s : State} {t : Term} {z : Int32} {cl : Cell} {ty : FieldType} {dv : Value} (hf : Fit s) (A : Arr s s.heap x cl ty) (ev : t.eval args s none [] s = some (.ref x)) (q : (Cond.eq (.length t) (.int z)).value args s none s [] = some true) (hz : ¬ z < 0) (h0 : z.toNatClampNeg = 0) : Arv s s.heap x cl.cls ty z [] dv := by
  have e1 := eq_to q (Term.int_eval z)
  simp only [Term.eval, ev, Option.bind_eq_bind, Option.bind_some, A.fin (Vm.Alike.refl _)] at e1
  split at e1
  · rename_i hs
    have e2 : cl.slots.size.toInt32 = z := by simpa using e1
    exact Arv.start hf A hs e2 hz h0 trivial
  · cases e1
end Facts
end Jvm.Own
namespace Jvm.Pilot.@@N@@
open Jvm Jvm.ClassFile Sem Op Lib Jvm.Free Jvm.Stand Jvm.LawKit Jvm.RoadKit Bundle Jvm.Own Jvm.Pilot.@@N@@.Jvm.D
theorem own_wS {Z : State} {a0 : Array Value} (hw : ∀ d ∈ tables_1, d.before a0 Z = true) : ∀ a ∈ Bundle.stringAtoms, a.before a0 Z = true := fun d hd => by
  simp only [Bundle.stringAtoms, Bundle.sN, List.mem_cons, List.not_mem_nil, or_false] at hd
  rcases hd with rfl | rfl | rfl | rfl | rfl | rfl | rfl
  · exact (hw _ (List.mem_of_getElem? (i := 63) rfl))
  · exact (hw _ (List.mem_of_getElem? (i := 64) rfl))
  · exact (hw _ (List.mem_of_getElem? (i := 9) rfl))
  · exact (hw _ (List.mem_of_getElem? (i := 65) rfl))
  · exact (hw _ (List.mem_of_getElem? (i := 66) rfl))
  · exact (hw _ (List.mem_of_getElem? (i := 67) rfl))
  · exact (hw _ (List.mem_of_getElem? (i := 68) rfl))
def upd (f : Nat → Value) (k : Nat) (v : Value) : Nat → Value := fun i => if i = k then v else f i
theorem own_ti (n : Nat) (h : n < 1000) : (Int32.ofNat n).toInt = n := Int32.toInt_ofNat_small (Nat.lt_trans h (by decide))
theorem own_tn (n : Nat) (h : n < 1000) : (Int32.ofNat n).toNatClampNeg = n := by
  simp only [Int32.toNatClampNeg, own_ti n h]; omega
theorem own_nn (n : Nat) (h : n < 1000) : ¬ Int32.ofNat n < 0 := by
  rw [Int32.lt_iff_toInt_lt, own_ti n h]; have e0 : (0 : Int32).toInt = 0 := rfl; omega
theorem own_lt (m n : Nat) (h : m < n) (hn : n < 1000) : Int32.ofNat m < Int32.ofNat n := by
  rw [Int32.lt_iff_toInt_lt, own_ti m (by omega), own_ti n hn]; omega
theorem own_inj (m n : Nat) (hm : m < 1000) (hn : n < 1000) (q : Int32.ofNat m = Int32.ofNat n) : m = n := by
  have := congrArg Int32.toInt q; rw [own_ti m hm, own_ti n hn] at this; omega
theorem own_of (x : Int32) (n : Nat) (hn : n < 1000) (q : x.toInt = n) : x = Int32.ofNat n := by
  rw [← Int32.toInt_inj, own_ti n hn]; exact q
theorem own_mul2 (n : Nat) (h : n < 400) : (2 : Int32) * Int32.ofNat n = Int32.ofNat (2 * n) := by
  apply own_of _ _ (by omega)
  have h1 := c_imul (2 : Int32) (Int32.ofNat n)
  have r := rng32 ((2 : Int32) * Int32.ofNat n)
  have e2 : (2 : Int32).toInt = 2 := by decide
  rw [e2, own_ti n (by omega)] at h1
  omega
theorem own_succ (n : Nat) (h : n < 400) : Int32.ofNat n + (1 : Int32) = Int32.ofNat (n + 1) := by
  apply own_of _ _ (by omega)
  have h1 := c_iadd (Int32.ofNat n) (1 : Int32)
  have r := rng32 (Int32.ofNat n + (1 : Int32))
  have e2 : (1 : Int32).toInt = 1 := by decide
  rw [e2, own_ti n (by omega)] at h1
  omega
theorem own_prev (n : Nat) (h : n < 400) : Int32.ofNat (n + 1) - (1 : Int32) = Int32.ofNat n := by
  apply own_of _ _ (by omega)
  have h1 := c_isub (Int32.ofNat (n + 1)) (1 : Int32)
  have r := rng32 (Int32.ofNat (n + 1) - (1 : Int32))
  have e2 : (1 : Int32).toInt = 1 := by decide
  rw [e2, own_ti (n + 1) (by omega)] at h1
  omega
def own_ml (x y : Int64) : Int64 := if y < x then y else x
def own_min (x y : Int32) : Int32 := if y < x then y else x
theorem own_minl (m n : Nat) (h : m < n) (hn : n < 1000) : own_min (Int32.ofNat m) (Int32.ofNat n) = Int32.ofNat m := by
  unfold own_min
  rw [if_neg (by rw [Int32.lt_iff_toInt_lt, own_ti m (by omega), own_ti n hn]; omega)]
theorem own_nc (n : Nat) (h : n < 100) : (own_ml (((2 : Int64) * (Int32.ofNat n).toInt64) + (1 : Int64)) (1073741819 : Int64)).toInt32 = Int32.ofNat (2 * n + 1) := by
  have e1 : (((2 : Int64) * (Int32.ofNat n).toInt64) + (1 : Int64)).toInt = 2 * n + 1 := by
    have h1 := c_lmul (2 : Int64) (Int32.ofNat n).toInt64
    have h2 := c_ladd ((2 : Int64) * (Int32.ofNat n).toInt64) (1 : Int64)
    have r1 := rng64 ((2 : Int64) * (Int32.ofNat n).toInt64)
    have r2 := rng64 (((2 : Int64) * (Int32.ofNat n).toInt64) + (1 : Int64))
    have e3 := c_i2l (Int32.ofNat n)
    have e4 : (2 : Int64).toInt = 2 := by decide
    have e5 : (1 : Int64).toInt = 1 := by decide
    rw [own_ti n (by omega)] at e3
    rw [e4, e3] at h1
    rw [e5] at h2
    omega
  unfold own_ml
  rw [if_neg (by rw [Int64.lt_iff_toInt_lt, e1, show (1073741819 : Int64).toInt = 1073741819 from by decide]; omega)]
  apply own_of _ _ (by omega)
  have h3 := c_l2i (((2 : Int64) * (Int32.ofNat n).toInt64) + (1 : Int64))
  have r3 := rng32 (((2 : Int64) * (Int32.ofNat n).toInt64) + (1 : Int64)).toInt32
  rw [e1] at h3
  omega
theorem own_range (vs : List Value) (m : Nat) (hm : m < 1000) (hl : vs.length = m) (dv : Value) : vs = (List.range (Int32.ofNat m).toNatClampNeg).map fun i => vs.getD ((0 : Int32).toNatClampNeg + i) dv := by
  rw [own_tn m hm]
  apply List.ext_getElem
  · simp [hl]
  · intro i h1 h2
    simp [show (0 : Int32).toNatClampNeg = 0 from rfl, h1]
theorem own_cpy (vs : List Value) (m n : Nat) (hm : m < 1000) (dv : Value) : (List.replicate n dv).take (0 : Int32).toNatClampNeg ++ vs ++ (List.replicate n dv).drop ((0 : Int32).toNatClampNeg + (Int32.ofNat m).toNatClampNeg) = vs ++ List.replicate (n - m) dv := by
  rw [own_tn m hm, show (0 : Int32).toNatClampNeg = 0 from rfl]
  simp
theorem own_set (xs : List Value) (n : Nat) (v d : Value) (f : Nat → Value) (hl : n < xs.length) (h : ∀ i, i < n → xs.getD i d = f i) : ∀ i, i < n + 1 → (xs.set n v).getD i d = upd f n v i := fun i hi => by
  unfold upd
  by_cases q : i = n
  · subst q; simp [hl]
  · rw [if_neg q, ← h i (by omega)]
    simp only [List.getD_eq_getElem?_getD]
    rw [List.getElem?_set_ne (fun e => q e.symm)]
theorem own_set2 (xs : List Value) (j m : Nat) (v d : Value) (f : Nat → Value) (hj : j < xs.length) (h : ∀ i, i < m → xs.getD i d = f i) : ∀ i, i < m → (xs.set j v).getD i d = upd f j v i := fun i hi => by
  unfold upd
  by_cases q : i = j
  · subst q; simp [hj]
  · rw [if_neg q, ← h i hi]
    simp only [List.getD_eq_getElem?_getD]
    rw [List.getElem?_set_ne (fun e => q e.symm)]
theorem own_app (xs : List Value) (n k : Nat) (d : Value) (f : Nat → Value) (hl : n ≤ xs.length) (h : ∀ i, i < n → xs.getD i d = f i) : ∀ i, i < n → (xs ++ List.replicate k d).getD i d = f i := fun i hi => by
  rw [← h i hi]; exact pad_rep xs d k i
theorem own_ob (o : Int32) (h : o = 0 ∨ o = 1) : nar .byte (o ||| (0 : Int32)).toInt8.toInt32 = o := by rcases h with rfl | rfl <;> decide
def q_ml (x y : Int64) (w : Value) : Prop := w = .long (own_ml x y)
def q_mi (x y : Int32) (w : Value) : Prop := w = .int (own_min x y)
theorem d4_0 : decode jdk_29_method_70_code 0 = .ok (.lload_n 0, 1) := by decide +kernel
theorem d4_1 : decode jdk_29_method_70_code 1 = .ok (.lload_n 2, 1) := by decide +kernel
theorem d4_2 : decode jdk_29_method_70_code 2 = .ok (.lcmp, 1) := by decide +kernel
theorem d4_3 : decode jdk_29_method_70_code 3 = .ok (.ifCond .gt 7, 3) := by decide +kernel
theorem d4_10 : decode jdk_29_method_70_code 10 = .ok (.lload_n 2, 1) := by decide +kernel
theorem d4_11 : decode jdk_29_method_70_code 11 = .ok (.lreturn, 1) := by decide +kernel
theorem d4_6 : decode jdk_29_method_70_code 6 = .ok (.lload_n 0, 1) := by decide +kernel
theorem d4_7 : decode jdk_29_method_70_code 7 = .ok (.goto 4, 3) := by decide +kernel
theorem ef_rm_ml (m : MethodId) (x0 : Int64) (x1 : Int64)  : entryFrame m #[(.long x0), (.long x1)] 4 = mkF m 0 #[.val (.long x0), .second, .val (.long x1), .second] [] := by first | (simp [entryFrame, mkF, argsToLocals, catI, catR, catJ, catN]; done) | rfl
set_option maxRecDepth 65536 in
set_option maxHeartbeats 4000000 in
theorem rm_ml (l : Launch) (Z : State) (a0 : Array Value) (hw : ∀ d ∈ tables_1, d.before a0 Z = true) (x y : Int64) (h0 : Heap) (O0 : Ext Z.heap h0) :
    Met1 true l Z (⟨"java/lang/Math", "min", "(JJ)J"⟩ : MethodName) jdk_29_method_70_code 4 (Option.some Jvm.ClassFile.FieldType.long) [] ({ frames := 0, cells := 0, slots := 0, locals := 0 } : Room) #[(.long x), (.long y)] h0 (fun w h' => h' = h0 ∧ q_ml x y w) := by
  refine met_body (Jvm.Free.JP.mathPlain rfl (by decide +kernel)) O0 ?_
  intro p e s m below meth ck T0 hx hby hml hret hlk hnm G0
  refine Fz.entry (ef_rm_ml m x y ) ?_
  refine Jvm.Own.lloadN G0.here hx (hb hby d4_0) rfl (pc' := 1) rfl ?_
  refine Jvm.Own.lloadN G0.here hx (hb hby d4_1) rfl (pc' := 2) rfl ?_
  refine Jvm.Own.lcmp G0.here hx (hb hby d4_2) (pc' := 3) rfl ?_
  by_cases hc3 : (0 : Int32) < (lcmpW x y)
  · skip
    refine Jvm.Own.ifY G0.here hx (hb hby d4_3) ((if0 _ _).trans (tlt hc3).2.2.1) (pc' := 10) (by decide) (by decide) ?_
    refine Jvm.Own.lloadN G0.here hx (hb hby d4_10) rfl (pc' := 11) rfl ?_
    exact Jvm.Own.retL G0 hx (hb hby d4_11) hret hlk (by decide) (by decide) ⟨_, rfl, ⟨rfl, by have u := hc3; rw [lw_gt] at u; show Value.long y = .long (own_ml x y); simp [own_ml, u]⟩⟩
  · skip
    refine Jvm.Own.ifN G0.here hx (hb hby d4_3) ((if0 _ _).trans (flt hc3).2.2.1) (pc' := 6) rfl ?_
    refine Jvm.Own.lloadN G0.here hx (hb hby d4_6) rfl (pc' := 7) rfl ?_
    refine Jvm.Own.goto G0.here hx (hb hby d4_7) (pc' := 11) (by decide) (by decide) ?_
    exact Jvm.Own.retL G0 hx (hb hby d4_11) hret hlk (by decide) (by decide) ⟨_, rfl, ⟨rfl, by have u := hc3; rw [lw_gt] at u; show Value.long x = .long (own_ml x y); simp [own_ml, u]⟩⟩
theorem d6_0 : decode jdk_29_method_69_code 0 = .ok (.iload_n 0, 1) := by decide +kernel
theorem d6_1 : decode jdk_29_method_69_code 1 = .ok (.iload_n 1, 1) := by decide +kernel
theorem d6_2 : decode jdk_29_method_69_code 2 = .ok (.if_icmp .gt 7, 3) := by decide +kernel
theorem d6_9 : decode jdk_29_method_69_code 9 = .ok (.iload_n 1, 1) := by decide +kernel
theorem d6_10 : decode jdk_29_method_69_code 10 = .ok (.ireturn, 1) := by decide +kernel
theorem d6_5 : decode jdk_29_method_69_code 5 = .ok (.iload_n 0, 1) := by decide +kernel
theorem d6_6 : decode jdk_29_method_69_code 6 = .ok (.goto 4, 3) := by decide +kernel
theorem ef_rm_mi (m : MethodId) (x0 : Int32) (x1 : Int32)  : entryFrame m #[(.int x0), (.int x1)] 2 = mkF m 0 #[.val (.int x0), .val (.int x1)] [] := by first | (simp [entryFrame, mkF, argsToLocals, catI, catR, catJ, catN]; done) | rfl
set_option maxRecDepth 65536 in
set_option maxHeartbeats 4000000 in
theorem rm_mi (l : Launch) (Z : State) (a0 : Array Value) (hw : ∀ d ∈ tables_1, d.before a0 Z = true) (x y : Int32) (h0 : Heap) (O0 : Ext Z.heap h0) :
    Met1 true l Z (⟨"java/lang/Math", "min", "(II)I"⟩ : MethodName) jdk_29_method_69_code 2 (Option.some Jvm.ClassFile.FieldType.int) [] ({ frames := 0, cells := 0, slots := 0, locals := 0 } : Room) #[(.int x), (.int y)] h0 (fun w h' => h' = h0 ∧ q_mi x y w) := by
  refine met_body (Jvm.Free.JP.mathPlain rfl (by decide +kernel)) O0 ?_
  intro p e s m below meth ck T0 hx hby hml hret hlk hnm G0
  refine Fz.entry (ef_rm_mi m x y ) ?_
  refine Jvm.Own.iloadN G0.here hx (hb hby d6_0) rfl (pc' := 1) rfl ?_
  refine Jvm.Own.iloadN G0.here hx (hb hby d6_1) rfl (pc' := 2) rfl ?_
  by_cases hc2 : y < x
  · skip
    refine Jvm.Own.icmpY G0.here hx (hb hby d6_2) (tlt hc2).2.2.1 (pc' := 9) (by decide) (by decide) ?_
    refine Jvm.Own.iloadN G0.here hx (hb hby d6_9) rfl (pc' := 10) rfl ?_
    exact Jvm.Own.retI G0 hx (hb hby d6_10) hret hlk (by simp) rfl (by decide) (by decide) ⟨_, rfl, ⟨rfl, by show Value.int y = .int (own_min x y); simp [own_min, hc2]⟩⟩
  · skip
    refine Jvm.Own.icmpN G0.here hx (hb hby d6_2) (flt hc2).2.2.1 (pc' := 5) rfl ?_
    refine Jvm.Own.iloadN G0.here hx (hb hby d6_5) rfl (pc' := 6) rfl ?_
    refine Jvm.Own.goto G0.here hx (hb hby d6_6) (pc' := 10) (by decide) (by decide) ?_
    exact Jvm.Own.retI G0 hx (hb hby d6_10) hret hlk (by simp) rfl (by decide) (by decide) ⟨_, rfl, ⟨rfl, by show Value.int x = .int (own_min x y); simp [own_min, hc2]⟩⟩
def q_rm_cb (Z : State) (h0 : Heap) (mm n : Nat) (vs : List Value) (w : Value) (h : Heap) : Prop := ∃ x kx, w = .ref x ∧ h0.size ≤ x ∧ Keep h0 h [] ∧ Arv Z h x kx .byte (Int32.ofNat n) (vs ++ List.replicate (n - mm) (.int (0 : Int32))) (.int (0 : Int32))
theorem d5_0 : decode jdk_65_method_121_code 0 = .ok (.iload_n 1, 1) := by decide +kernel
theorem d5_1 : decode jdk_65_method_121_code 1 = .ok (.aload_n 0, 1) := by decide +kernel
theorem d5_2 : decode jdk_65_method_121_code 2 = .ok (.arraylength, 1) := by decide +kernel
theorem d5_3 : decode jdk_65_method_121_code 3 = .ok (.if_icmp .ne 11, 3) := by decide +kernel
theorem d5_14 : decode jdk_65_method_121_code 14 = .ok (.iload_n 1, 1) := by decide +kernel
theorem d5_15 : decode jdk_65_method_121_code 15 = .ok (.newarray .byte, 2) := by decide +kernel
theorem d5_17 : decode jdk_65_method_121_code 17 = .ok (.astore_n 2, 1) := by decide +kernel
theorem d5_18 : decode jdk_65_method_121_code 18 = .ok (.aload_n 0, 1) := by decide +kernel
theorem d5_19 : decode jdk_65_method_121_code 19 = .ok (.iconst 0, 1) := by decide +kernel
theorem d5_20 : decode jdk_65_method_121_code 20 = .ok (.aload_n 2, 1) := by decide +kernel
theorem d5_21 : decode jdk_65_method_121_code 21 = .ok (.iconst 0, 1) := by decide +kernel
theorem d5_22 : decode jdk_65_method_121_code 22 = .ok (.aload_n 0, 1) := by decide +kernel
theorem d5_23 : decode jdk_65_method_121_code 23 = .ok (.arraylength, 1) := by decide +kernel
theorem d5_24 : decode jdk_65_method_121_code 24 = .ok (.iload_n 1, 1) := by decide +kernel
theorem d5_25 : decode jdk_65_method_121_code 25 = .ok (.invokestatic 304, 3) := by decide +kernel
theorem pd_1 : parseMethodDescriptor "(II)I" = some ⟨[.int, .int], some .int⟩ := by decide +kernel
theorem d5_28 : decode jdk_65_method_121_code 28 = .ok (.invokestatic 150, 3) := by decide +kernel
theorem d5_31 : decode jdk_65_method_121_code 31 = .ok (.aload_n 2, 1) := by decide +kernel
theorem d5_32 : decode jdk_65_method_121_code 32 = .ok (.areturn, 1) := by decide +kernel
theorem ef_rm_cb (m : MethodId) (x0 : Addr) (x1 : Int32)  : entryFrame m #[(.ref x0), (.int x1)] 3 = mkF m 0 #[.val (.ref x0), .val (.int x1), .unset] [] := by first | (simp [entryFrame, mkF, argsToLocals, catI, catR, catJ, catN]; done) | rfl
theorem pn_3 : plainName "java/util/Arrays" = true := by first | (simp [plainName, overriddenIn]; done) | decide +kernel
set_option maxRecDepth 65536 in
set_option maxHeartbeats 4000000 in
theorem rm_cb (l : Launch) (Z : State) (a0 : Array Value) (hw : ∀ d ∈ tables_1, d.before a0 Z = true) (a : Addr) (ka : ClassId) (mm n : Nat) (vs : List Value) (h0 : Heap) (O0 : Ext Z.heap h0) (Va : Arv Z h0 a ka .byte (Int32.ofNat mm) vs (.int (0 : Int32))) (hvl : vs.length = mm) (hmn : mm < n) (hn : n ≤ 9) :
    Met1 true l Z (⟨"java/util/Arrays", "copyOf", "([BI)[B"⟩ : MethodName) jdk_65_method_121_code 3 (Option.some (Jvm.ClassFile.FieldType.array Jvm.ClassFile.FieldType.byte)) [] ({ frames := 1, cells := 1, slots := 9, locals := 18 } : Room) #[(.ref a), (.int (Int32.ofNat n))] h0 (q_rm_cb Z h0 mm n vs) := by
  refine met_body (plainFor_of_name pn_3) O0 ?_
  intro p e s m below meth ck T0 hx hby hml hret hlk hnm G0
  refine Fz.entry (ef_rm_cb m a (Int32.ofNat n) ) ?_
  have K0 : Keep h0 h0 [] := Keep.refl _ _
  refine Jvm.Own.iloadN G0.here hx (hb hby d5_0) rfl (pc' := 1) rfl ?_
  refine Jvm.Own.aloadN G0.here hx (hb hby d5_1) rfl rfl (pc' := 2) rfl ?_
  refine Jvm.Own.arraylength G0 hx (hb hby d5_2) Va (pc' := 3) rfl ?_
  refine Jvm.Own.icmpY G0.here hx (hb hby d5_3) (feq ((fun q => Nat.ne_of_gt hmn (own_inj n mm (by omega) (by omega) q)) : ¬ (Int32.ofNat n) = (Int32.ofNat mm))).2 (pc' := 14) (by decide) (by decide) ?_
  refine Jvm.Own.iloadN G0.here hx (hb hby d5_14) rfl (pc' := 15) rfl ?_
  refine Jvm.Own.newarray G0 hx (hb hby d5_15) (hw _ (List.mem_of_getElem? (i := 9) rfl)) (own_nn n (by omega)) (cap := 9) (by rw [own_tn n (by omega)]; exact hn) (by decide) (cells' := 1) rfl (by decide) (slots' := 9) rfl (by decide) (pc' := 17) rfl ?_
  intro T1 h1 b1 k1 z1 G1 X1 V1
  have ga_b1 : Z.heap.size ≤ b1 := ge_new G0.old z1
  have sz_b1 : h0.size ≤ b1 := by rw [z1]; exact K0.1
  have ne2 : a ≠ b1 := ne_new (Va).lt z1
  have K3 : Keep h0 h1 [] := K0.ext X1
  have V1p : Arv Z h1 b1 k1 .byte (Int32.ofNat n) (List.replicate n (.int (0 : Int32))) (.int (0 : Int32)) := V1.pad (pad_rep [] (.int (0 : Int32)) n)
  refine Jvm.Own.astoreN G1.here hx (hb hby d5_17) rfl (Ls' := #[.val (.ref a), .val (.int (Int32.ofNat n)), .val (.ref b1)]) rfl (pc' := 18) rfl ?_
  refine Jvm.Own.aloadN G1.here hx (hb hby d5_18) rfl rfl (pc' := 19) rfl ?_
  refine Jvm.Own.iconst G1.here hx (hb hby d5_19) (v := (0 : Int32)) rfl (pc' := 20) rfl ?_
  refine Jvm.Own.aloadN G1.here hx (hb hby d5_20) rfl rfl (pc' := 21) rfl ?_
  refine Jvm.Own.iconst G1.here hx (hb hby d5_21) (v := (0 : Int32)) rfl (pc' := 22) rfl ?_
  refine Jvm.Own.aloadN G1.here hx (hb hby d5_22) rfl rfl (pc' := 23) rfl ?_
  have V4 := (Va.ext X1)
  refine Jvm.Own.arraylength G1 hx (hb hby d5_23) V4 (pc' := 24) rfl ?_
  refine Jvm.Own.iloadN G1.here hx (hb hby d5_24) rfl (pc' := 25) rfl ?_
  refine Jvm.Own.callSP (y := (⟨"java/lang/Math", "min", "(II)I"⟩ : MethodName)) G1 hx (hb hby d5_25) (hw _ (List.mem_of_getElem? (i := 38) rfl)) (hw _ (List.mem_of_getElem? (i := 39) rfl)) (hw _ (List.mem_of_getElem? (i := 32) rfl)) (hw _ (List.mem_of_getElem? (i := 40) rfl)) (by decide) (rm_mi l Z a0 hw (Int32.ofNat mm) (Int32.ofNat n) h1 G1.old) (by decide) (W := 4) (by decide) (by rw [hml]; rfl) (argsL := [(.int (Int32.ofNat mm)), (.int (Int32.ofNat n))]) (lenOf pd_1 rfl) rfl (Nat.le_of_eq rfl) (cells' := 1) rfl (by decide) (slots' := 9) rfl (by decide) (pc' := 28) rfl ?_
  intro T5 r5 G5 Q5
  have hr5 : r5 = .int (own_min (Int32.ofNat mm) (Int32.ofNat n)) := Q5
  rw [own_minl mm n hmn (by omega)] at hr5
  subst hr5
  refine Jvm.Own.arraycopy (us := vs) (W := 0) G5 hx (hb hby d5_28) (hw _ (List.mem_of_getElem? (i := 41) rfl)) (hw _ (List.mem_of_getElem? (i := 44) rfl)) (hw _ (List.mem_of_getElem? (i := 42) rfl)) (hw _ (List.mem_of_getElem? (i := 43) rfl)) V4 V1p rfl (by decide) (by decide) (own_nn mm (by omega)) (by rw [show (0 : Int32).toNatClampNeg = 0 from rfl]; omega) (by rw [show (0 : Int32).toNatClampNeg = 0 from rfl, own_tn mm (by omega), own_tn n (by omega)]; omega) (own_range vs mm (by omega) hvl _) (by rw [show (0 : Int32).toNatClampNeg = 0 from rfl, own_tn mm (by omega), List.length_replicate]; omega) ga_b1 (by rw [hml]; rfl) (by decide) (Nat.le_of_eq rfl) (by decide) (pc' := 31) rfl ?_
  intro T6 h6 G6 K6 V6
  rw [own_cpy vs mm n (by omega)] at V6
  have K7 : Keep h0 h6 [] := K3.trans K6 (allS (Or.inr sz_b1) all0)
  refine Jvm.Own.aloadN G6.here hx (hb hby d5_31) rfl rfl (pc' := 32) rfl ?_
  exact Jvm.Own.retA G6 hx (hb hby d5_32) hret hlk rfl rfl rfl (by decide) (by decide) ⟨_, rfl, ⟨b1, k1, rfl, sz_b1, K7, V6⟩⟩
def q_rm_ci (Z : State) (h0 : Heap) (mm n : Nat) (vs : List Value) (w : Value) (h : Heap) : Prop := ∃ x kx, w = .ref x ∧ h0.size ≤ x ∧ Keep h0 h [] ∧ Arv Z h x kx .int (Int32.ofNat n) (vs ++ List.replicate (n - mm) (.int (0 : Int32))) (.int (0 : Int32))
theorem d7_0 : decode jdk_65_method_123_code 0 = .ok (.iload_n 1, 1) := by decide +kernel
theorem d7_1 : decode jdk_65_method_123_code 1 = .ok (.aload_n 0, 1) := by decide +kernel
theorem d7_2 : decode jdk_65_method_123_code 2 = .ok (.arraylength, 1) := by decide +kernel
theorem d7_3 : decode jdk_65_method_123_code 3 = .ok (.if_icmp .ne 11, 3) := by decide +kernel
theorem d7_14 : decode jdk_65_method_123_code 14 = .ok (.iload_n 1, 1) := by decide +kernel
theorem d7_15 : decode jdk_65_method_123_code 15 = .ok (.newarray .int, 2) := by decide +kernel
theorem d7_17 : decode jdk_65_method_123_code 17 = .ok (.astore_n 2, 1) := by decide +kernel
theorem d7_18 : decode jdk_65_method_123_code 18 = .ok (.aload_n 0, 1) := by decide +kernel
theorem d7_19 : decode jdk_65_method_123_code 19 = .ok (.iconst 0, 1) := by decide +kernel
theorem d7_20 : decode jdk_65_method_123_code 20 = .ok (.aload_n 2, 1) := by decide +kernel
theorem d7_21 : decode jdk_65_method_123_code 21 = .ok (.iconst 0, 1) := by decide +kernel
theorem d7_22 : decode jdk_65_method_123_code 22 = .ok (.aload_n 0, 1) := by decide +kernel
theorem d7_23 : decode jdk_65_method_123_code 23 = .ok (.arraylength, 1) := by decide +kernel
theorem d7_24 : decode jdk_65_method_123_code 24 = .ok (.iload_n 1, 1) := by decide +kernel
theorem d7_25 : decode jdk_65_method_123_code 25 = .ok (.invokestatic 304, 3) := by decide +kernel
theorem d7_28 : decode jdk_65_method_123_code 28 = .ok (.invokestatic 150, 3) := by decide +kernel
theorem d7_31 : decode jdk_65_method_123_code 31 = .ok (.aload_n 2, 1) := by decide +kernel
theorem d7_32 : decode jdk_65_method_123_code 32 = .ok (.areturn, 1) := by decide +kernel
theorem ef_rm_ci (m : MethodId) (x0 : Addr) (x1 : Int32)  : entryFrame m #[(.ref x0), (.int x1)] 3 = mkF m 0 #[.val (.ref x0), .val (.int x1), .unset] [] := by first | (simp [entryFrame, mkF, argsToLocals, catI, catR, catJ, catN]; done) | rfl
set_option maxRecDepth 65536 in
set_option maxHeartbeats 4000000 in
theorem rm_ci (l : Launch) (Z : State) (a0 : Array Value) (hw : ∀ d ∈ tables_1, d.before a0 Z = true) (a : Addr) (ka : ClassId) (mm n : Nat) (vs : List Value) (h0 : Heap) (O0 : Ext Z.heap h0) (Va : Arv Z h0 a ka .int (Int32.ofNat mm) vs (.int (0 : Int32))) (hvl : vs.length = mm) (hmn : mm < n) (hn : n ≤ 18) :
    Met1 true l Z (⟨"java/util/Arrays", "copyOf", "([II)[I"⟩ : MethodName) jdk_65_method_123_code 3 (Option.some (Jvm.ClassFile.FieldType.array Jvm.ClassFile.FieldType.int)) [] ({ frames := 1, cells := 1, slots := 18, locals := 18 } : Room) #[(.ref a), (.int (Int32.ofNat n))] h0 (q_rm_ci Z h0 mm n vs) := by
  refine met_body (plainFor_of_name pn_3) O0 ?_
  intro p e s m below meth ck T0 hx hby hml hret hlk hnm G0
  refine Fz.entry (ef_rm_ci m a (Int32.ofNat n) ) ?_
  have K0 : Keep h0 h0 [] := Keep.refl _ _
  refine Jvm.Own.iloadN G0.here hx (hb hby d7_0) rfl (pc' := 1) rfl ?_
  refine Jvm.Own.aloadN G0.here hx (hb hby d7_1) rfl rfl (pc' := 2) rfl ?_
  refine Jvm.Own.arraylength G0 hx (hb hby d7_2) Va (pc' := 3) rfl ?_
  refine Jvm.Own.icmpY G0.here hx (hb hby d7_3) (feq ((fun q => Nat.ne_of_gt hmn (own_inj n mm (by omega) (by omega) q)) : ¬ (Int32.ofNat n) = (Int32.ofNat mm))).2 (pc' := 14) (by decide) (by decide) ?_
  refine Jvm.Own.iloadN G0.here hx (hb hby d7_14) rfl (pc' := 15) rfl ?_
  refine Jvm.Own.newarray G0 hx (hb hby d7_15) (hw _ (List.mem_of_getElem? (i := 12) rfl)) (own_nn n (by omega)) (cap := 18) (by rw [own_tn n (by omega)]; exact hn) (by decide) (cells' := 1) rfl (by decide) (slots' := 18) rfl (by decide) (pc' := 17) rfl ?_
  intro T1 h1 b1 k1 z1 G1 X1 V1
  have ga_b1 : Z.heap.size ≤ b1 := ge_new G0.old z1
  have sz_b1 : h0.size ≤ b1 := by rw [z1]; exact K0.1
  have ne2 : a ≠ b1 := ne_new (Va).lt z1
  have K3 : Keep h0 h1 [] := K0.ext X1
  have V1p : Arv Z h1 b1 k1 .int (Int32.ofNat n) (List.replicate n (.int (0 : Int32))) (.int (0 : Int32)) := V1.pad (pad_rep [] (.int (0 : Int32)) n)
  refine Jvm.Own.astoreN G1.here hx (hb hby d7_17) rfl (Ls' := #[.val (.ref a), .val (.int (Int32.ofNat n)), .val (.ref b1)]) rfl (pc' := 18) rfl ?_
  refine Jvm.Own.aloadN G1.here hx (hb hby d7_18) rfl rfl (pc' := 19) rfl ?_
  refine Jvm.Own.iconst G1.here hx (hb hby d7_19) (v := (0 : Int32)) rfl (pc' := 20) rfl ?_
  refine Jvm.Own.aloadN G1.here hx (hb hby d7_20) rfl rfl (pc' := 21) rfl ?_
  refine Jvm.Own.iconst G1.here hx (hb hby d7_21) (v := (0 : Int32)) rfl (pc' := 22) rfl ?_
  refine Jvm.Own.aloadN G1.here hx (hb hby d7_22) rfl rfl (pc' := 23) rfl ?_
  have V4 := (Va.ext X1)
  refine Jvm.Own.arraylength G1 hx (hb hby d7_23) V4 (pc' := 24) rfl ?_
  refine Jvm.Own.iloadN G1.here hx (hb hby d7_24) rfl (pc' := 25) rfl ?_
  refine Jvm.Own.callSP (y := (⟨"java/lang/Math", "min", "(II)I"⟩ : MethodName)) G1 hx (hb hby d7_25) (hw _ (List.mem_of_getElem? (i := 38) rfl)) (hw _ (List.mem_of_getElem? (i := 39) rfl)) (hw _ (List.mem_of_getElem? (i := 32) rfl)) (hw _ (List.mem_of_getElem? (i := 40) rfl)) (by decide) (rm_mi l Z a0 hw (Int32.ofNat mm) (Int32.ofNat n) h1 G1.old) (by decide) (W := 4) (by decide) (by rw [hml]; rfl) (argsL := [(.int (Int32.ofNat mm)), (.int (Int32.ofNat n))]) (lenOf pd_1 rfl) rfl (Nat.le_of_eq rfl) (cells' := 1) rfl (by decide) (slots' := 18) rfl (by decide) (pc' := 28) rfl ?_
  intro T5 r5 G5 Q5
  have hr5 : r5 = .int (own_min (Int32.ofNat mm) (Int32.ofNat n)) := Q5
  rw [own_minl mm n hmn (by omega)] at hr5
  subst hr5
  refine Jvm.Own.arraycopy (us := vs) (W := 0) G5 hx (hb hby d7_28) (hw _ (List.mem_of_getElem? (i := 41) rfl)) (hw _ (List.mem_of_getElem? (i := 44) rfl)) (hw _ (List.mem_of_getElem? (i := 42) rfl)) (hw _ (List.mem_of_getElem? (i := 43) rfl)) V4 V1p rfl (by decide) (by decide) (own_nn mm (by omega)) (by rw [show (0 : Int32).toNatClampNeg = 0 from rfl]; omega) (by rw [show (0 : Int32).toNatClampNeg = 0 from rfl, own_tn mm (by omega), own_tn n (by omega)]; omega) (own_range vs mm (by omega) hvl _) (by rw [show (0 : Int32).toNatClampNeg = 0 from rfl, own_tn mm (by omega), List.length_replicate]; omega) ga_b1 (by rw [hml]; rfl) (by decide) (Nat.le_of_eq rfl) (by decide) (pc' := 31) rfl ?_
  intro T6 h6 G6 K6 V6
  rw [own_cpy vs mm n (by omega)] at V6
  have K7 : Keep h0 h6 [] := K3.trans K6 (allS (Or.inr sz_b1) all0)
  refine Jvm.Own.aloadN G6.here hx (hb hby d7_31) rfl rfl (pc' := 32) rfl ?_
  exact Jvm.Own.retA G6 hx (hb hby d7_32) hret hlk rfl rfl rfl (by decide) (by decide) ⟨_, rfl, ⟨b1, k1, rfl, sz_b1, K7, V6⟩⟩
def BI (Z : State) (h : Heap) (b : Addr) (n : Nat) (kf sf : Nat → Value) : Prop := ∃ (kA sA : Addr) (kk ks : ClassId) (cap : Nat) (vk vs : List Value), Exa Z h b "com/example/tailhead/tailhead/json/JsonDocument$Builder" ∧ Fld Z h b "com/example/tailhead/tailhead/json/JsonDocument$Builder" "kinds" "[B" (.ref kA) ∧ Fld Z h b "com/example/tailhead/tailhead/json/JsonDocument$Builder" "spans" "[I" (.ref sA) ∧ Fld Z h b "com/example/tailhead/tailhead/json/JsonDocument$Builder" "count" "I" (.int (Int32.ofNat n)) ∧ Z.heap.size ≤ b ∧ Z.heap.size ≤ kA ∧ Z.heap.size ≤ sA ∧ kA ≠ sA ∧ b ≠ kA ∧ b ≠ sA ∧
  Arv Z h kA kk .byte (Int32.ofNat cap) vk (.int (0 : Int32)) ∧ vk.length = cap ∧ Arv Z h sA ks .int (Int32.ofNat (2 * cap)) vs (.int (0 : Int32)) ∧ vs.length = 2 * cap ∧ n ≤ cap ∧ cap ≤ 9 ∧ (∀ i, i < n → vk.getD i (.int (0 : Int32)) = kf i) ∧ (∀ j, j < 2 * n → vs.getD j (.int (0 : Int32)) = sf j)
theorem own_bi0 (Z : State) (h : Heap) (b : Addr) (mm : Nat) (hm : mm ≤ 3) (kA sA : Addr) (kk ks : ClassId) (Eb : Exa Z h b "com/example/tailhead/tailhead/json/JsonDocument$Builder") (Fk : Fld Z h b "com/example/tailhead/tailhead/json/JsonDocument$Builder" "kinds" "[B" (.ref kA)) (Fs : Fld Z h b "com/example/tailhead/tailhead/json/JsonDocument$Builder" "spans" "[I" (.ref sA)) (Fc : Fld Z h b "com/example/tailhead/tailhead/json/JsonDocument$Builder" "count" "I" (.int (0 : Int32))) (gb : Z.heap.size ≤ b) (gk : Z.heap.size ≤ kA) (gs : Z.heap.size ≤ sA) (nks : kA ≠ sA) (nbk : b ≠ kA) (nbs : b ≠ sA) (Vk : Arv Z h kA kk .byte (Int32.ofNat mm) (List.replicate mm (.int (0 : Int32))) (.int (0 : Int32))) (Vs : Arv Z h sA ks .int (Int32.ofNat (2 * mm)) (List.replicate (2 * mm) (.int (0 : Int32))) (.int (0 : Int32))) (kf sf : Nat → Value) : BI Z h b 0 kf sf :=
  ⟨kA, sA, kk, ks, mm, _, _, Eb, Fk, Fs, Fc, gb, gk, gs, nks, nbk, nbs, Vk, List.length_replicate, Vs, List.length_replicate, Nat.zero_le _, by omega, fun i hi => absurd hi (Nat.not_lt_zero _), fun i hi => absurd hi (Nat.not_lt_zero _)⟩
def q_bi (Z : State) (b : Addr) (kf sf : Nat → Value) (h : Heap) : Prop := BI Z h b 0 kf sf
theorem d1_0 : decode prog_29_method_1_code 0 = .ok (.aload_n 0, 1) := by decide +kernel
theorem d1_1 : decode prog_29_method_1_code 1 = .ok (.invokespecial 5, 3) := by decide +kernel
theorem d1_4 : decode prog_29_method_1_code 4 = .ok (.aload_n 0, 1) := by decide +kernel
theorem d1_5 : decode prog_29_method_1_code 5 = .ok (.iload_n 1, 1) := by decide +kernel
theorem d1_6 : decode prog_29_method_1_code 6 = .ok (.newarray .byte, 2) := by decide +kernel
theorem d1_8 : decode prog_29_method_1_code 8 = .ok (.putfield 11, 3) := by decide +kernel
theorem d1_11 : decode prog_29_method_1_code 11 = .ok (.aload_n 0, 1) := by decide +kernel
theorem d1_12 : decode prog_29_method_1_code 12 = .ok (.iconst 2, 1) := by decide +kernel
theorem d1_13 : decode prog_29_method_1_code 13 = .ok (.iload_n 1, 1) := by decide +kernel
theorem d1_14 : decode prog_29_method_1_code 14 = .ok (.imul, 1) := by decide +kernel
theorem d1_15 : decode prog_29_method_1_code 15 = .ok (.newarray .int, 2) := by decide +kernel
theorem d1_17 : decode prog_29_method_1_code 17 = .ok (.putfield 17, 3) := by decide +kernel
theorem d1_20 : decode prog_29_method_1_code 20 = .ok (.return_, 1) := by decide +kernel
theorem ef_rm_bi (m : MethodId) (x0 : Addr) (x1 : Int32)  : entryFrame m #[(.ref x0), (.int x1)] 2 = mkF m 0 #[.val (.ref x0), .val (.int x1)] [] := by first | (simp [entryFrame, mkF, argsToLocals, catI, catR, catJ, catN]; done) | rfl
theorem pn_4 : plainName "com/example/tailhead/tailhead/json/JsonDocument$Builder" = true := by first | (simp [plainName, overriddenIn]; done) | decide +kernel
set_option maxRecDepth 65536 in
set_option maxHeartbeats 4000000 in
theorem rm_bi (l : Launch) (Z : State) (a0 : Array Value) (hw : ∀ d ∈ tables_1, d.before a0 Z = true) (b : Addr) (mm : Nat) (kf sf : Nat → Value) (h0 : Heap) (O0 : Ext Z.heap h0) (ga : Z.heap.size ≤ b) (Ea : Exa Z h0 b "com/example/tailhead/tailhead/json/JsonDocument$Builder") (F_kinds : Fld Z h0 b "com/example/tailhead/tailhead/json/JsonDocument$Builder" "kinds" "[B" .null) (F_spans : Fld Z h0 b "com/example/tailhead/tailhead/json/JsonDocument$Builder" "spans" "[I" .null) (F_count : Fld Z h0 b "com/example/tailhead/tailhead/json/JsonDocument$Builder" "count" "I" (.int (0 : Int32))) (hm : mm ≤ 3) :
    Met0 true l Z (⟨"com/example/tailhead/tailhead/json/JsonDocument$Builder", "<init>", "(I)V"⟩ : MethodName) prog_29_method_1_code 2 (Option.none : Option Jvm.ClassFile.FieldType) [] ({ frames := 1, cells := 2, slots := 9, locals := 12 } : Room) #[(.ref b), (.int (Int32.ofNat mm))] h0 (q_bi Z b kf sf) := by
  refine met_body (plainFor_of_name pn_4) O0 ?_
  intro p e s m below meth ck T0 hx hby hml hret hlk hnm G0
  refine Fz.entry (ef_rm_bi m b (Int32.ofNat mm) ) ?_
  refine Jvm.Own.aloadN G0.here hx (hb hby d1_0) rfl rfl (pc' := 1) rfl ?_
  refine Jvm.Own.initObj G0 hx (hb hby d1_1) (hw _ (List.mem_of_getElem? (i := 6) rfl)) (hw _ (List.mem_of_getElem? (i := 7) rfl)) (hw _ (List.mem_of_getElem? (i := 8) rfl)) (by rw [hml]; rfl) (by decide) (W := 0) (Nat.le_of_eq rfl) (by decide) (pc' := 4) rfl ?_
  intro T1 G1
  refine Jvm.Own.aloadN G1.here hx (hb hby d1_4) rfl rfl (pc' := 5) rfl ?_
  refine Jvm.Own.iloadN G1.here hx (hb hby d1_5) rfl (pc' := 6) rfl ?_
  refine Jvm.Own.newarray G1 hx (hb hby d1_6) (hw _ (List.mem_of_getElem? (i := 9) rfl)) (own_nn mm (by omega)) (cap := 3) (by rw [own_tn mm (by omega)]; exact hm) (by decide) (cells' := 1) rfl (by decide) (slots' := 3) rfl (by decide) (pc' := 8) rfl ?_
  intro T2 h2 b2 k2 z2 G2 X2 V2
  have ga_b2 : Z.heap.size ≤ b2 := ge_new G1.old z2
  have ne3 : b ≠ b2 := ne_new (Ea).lt z2
  have V2p : Arv Z h2 b2 k2 .byte (Int32.ofNat mm) (List.replicate mm (.int (0 : Int32))) (.int (0 : Int32)) := V2.pad (pad_rep [] (.int (0 : Int32)) mm)
  have E5 := (Ea.ext X2)
  have F6 := (F_kinds.ext X2)
  refine Jvm.Own.putfield G2 hx (hb hby d1_8) (host := "") (Or.inl (hw _ (List.mem_of_getElem? (i := 10) rfl))) Via.refl F6 E5 (Or.inl (hw _ (List.mem_of_getElem? (i := 11) rfl))) (hw _ (List.mem_of_getElem? (i := 1) rfl)) (ty := (.array .byte)) (by decide) rfl rfl ga (pc' := 11) rfl ?_
  intro T4 h4 G4 W4
  have F4 := F6.same W4
  refine Jvm.Own.aloadN G4.here hx (hb hby d1_11) rfl rfl (pc' := 12) rfl ?_
  refine Jvm.Own.iconst G4.here hx (hb hby d1_12) (v := (2 : Int32)) rfl (pc' := 13) rfl ?_
  refine Jvm.Own.iloadN G4.here hx (hb hby d1_13) rfl (pc' := 14) rfl ?_
  refine Jvm.Own.imul G4.here hx (hb hby d1_14) (pc' := 15) rfl ?_
  rw [own_mul2 mm (by omega)]
  refine Jvm.Own.newarray G4 hx (hb hby d1_15) (hw _ (List.mem_of_getElem? (i := 12) rfl)) (own_nn (2 * mm) (by omega)) (cap := 6) (by rw [own_tn (2 * mm) (by omega)]; omega) (by decide) (cells' := 2) rfl (by decide) (slots' := 9) rfl (by decide) (pc' := 17) rfl ?_
  intro T7 h7 b7 k7 z7 G7 X7 V7
  have ga_b7 : Z.heap.size ≤ b7 := ge_new G4.old z7
  have E9 := (E5.wr W4)
  have ne8 : b ≠ b7 := ne_new (E9).lt z7
  have V11 := (V2p.other W4 (Ne.symm ne3))
  have ne10 : b2 ≠ b7 := ne_new (V11).lt z7
  have V7p : Arv Z h7 b7 k7 .int (Int32.ofNat (2 * mm)) (List.replicate (2 * mm) (.int (0 : Int32))) (.int (0 : Int32)) := V7.pad (pad_rep [] (.int (0 : Int32)) (2 * mm))
  have E13 := (E9.ext X7)
  have F14 := (((F_spans.ext X2).other W4 (Or.inr (slot_ne (Or.inl (hw _ (List.mem_of_getElem? (i := 14) rfl))) (Or.inl (hw _ (List.mem_of_getElem? (i := 11) rfl))) (by decide) (t := (.array .int)) (t' := (.array .byte)) (by decide) (by decide)))).ext X7)
  refine Jvm.Own.putfield G7 hx (hb hby d1_17) (host := "") (Or.inl (hw _ (List.mem_of_getElem? (i := 13) rfl))) Via.refl F14 E13 (Or.inl (hw _ (List.mem_of_getElem? (i := 14) rfl))) (hw _ (List.mem_of_getElem? (i := 1) rfl)) (ty := (.array .int)) (by decide) rfl rfl ga (pc' := 20) rfl ?_
  intro T12 h12 G12 W12
  have F12 := F14.same W12
  have E15 := (E13.wr W12)
  have F16 := ((F4.ext X7).other W12 (Or.inr (slot_ne (Or.inl (hw _ (List.mem_of_getElem? (i := 11) rfl))) (Or.inl (hw _ (List.mem_of_getElem? (i := 14) rfl))) (by decide) (t := (.array .byte)) (t' := (.array .int)) (by decide) (by decide))))
  have F17 := ((((F_count.ext X2).other W4 (Or.inr (slot_ne (Or.inl (hw _ (List.mem_of_getElem? (i := 26) rfl))) (Or.inl (hw _ (List.mem_of_getElem? (i := 11) rfl))) (by decide) (t := .int) (t' := (.array .byte)) (by decide) (by decide)))).ext X7).other W12 (Or.inr (slot_ne (Or.inl (hw _ (List.mem_of_getElem? (i := 26) rfl))) (Or.inl (hw _ (List.mem_of_getElem? (i := 14) rfl))) (by decide) (t := .int) (t' := (.array .int)) (by decide) (by decide))))
  have V18 := ((V11.ext X7).other W12 (Ne.symm ne3))
  have V19 := (V7p.other W12 (Ne.symm ne8))
  exact Jvm.Own.ret0 G12 hx (hb hby d1_20) hret hlk (by decide) (by decide) ⟨rfl, (own_bi0 Z h12 b mm hm b2 b7 k2 k7 E15 F16 F12 F17 ga ga_b2 ga_b7 ne10 ne3 ne8 V18 V19 kf sf)⟩
def q_rm_ord (x : Int32) (w : Value) : Prop := w = (.int x)
theorem d8_0 : decode jdk_37_method_2_code 0 = .ok (.aload_n 0, 1) := by decide +kernel
theorem d8_1 : decode jdk_37_method_2_code 1 = .ok (.getfield 7, 3) := by decide +kernel
theorem d8_4 : decode jdk_37_method_2_code 4 = .ok (.ireturn, 1) := by decide +kernel
theorem ef_rm_ord (m : MethodId) (x0 : Addr)  : entryFrame m #[(.ref x0)] 1 = mkF m 0 #[.val (.ref x0)] [] := by first | (simp [entryFrame, mkF, argsToLocals, catI, catR, catJ, catN]; done) | rfl
theorem pn_5 : plainName "java/lang/Enum" = true := by first | (simp [plainName, overriddenIn]; done) | decide +kernel
set_option maxRecDepth 65536 in
set_option maxHeartbeats 4000000 in
theorem rm_ord (l : Launch) (Z : State) (a0 : Array Value) (hw : ∀ d ∈ tables_1, d.before a0 Z = true) (a : Addr) (x : Int32) (h0 : Heap) (O0 : Ext Z.heap h0) (Fa : Fld Z h0 a "java/lang/Enum" "ordinal" "I" (.int x)) :
    Met1 true l Z (⟨"java/lang/Enum", "ordinal", "()I"⟩ : MethodName) jdk_37_method_2_code 1 (Option.some Jvm.ClassFile.FieldType.int) [] ({ frames := 0, cells := 0, slots := 0, locals := 0 } : Room) #[(.ref a)] h0 (fun w h' => h' = h0 ∧ q_rm_ord x w) := by
  refine met_body (plainFor_of_name pn_5) O0 ?_
  intro p e s m below meth ck T0 hx hby hml hret hlk hnm G0
  refine Fz.entry (ef_rm_ord m a ) ?_
  refine Jvm.Own.aloadN G0.here hx (hb hby d8_0) rfl rfl (pc' := 1) rfl ?_
  refine Jvm.Own.getfield G0 hx (hb hby d8_1) (host := "") (Or.inl (hw _ (List.mem_of_getElem? (i := 55) rfl))) Via.refl Fa (pc' := 4) rfl ?_
  intro T1 G1
  exact Jvm.Own.retI G1 hx (hb hby d8_4) hret hlk (by simp) rfl (by decide) (by decide) ⟨_, rfl, ⟨rfl, rfl⟩⟩
def q_ad (Z : State) (b : Addr) (n : Nat) (kf sf : Nat → Value) (o x y : Int32) (w : Value) (h : Heap) : Prop := w = .int (Int32.ofNat n) ∧ BI Z h b (n + 1) (upd kf n (.int o)) (upd (upd sf (2 * n) (.int x)) (2 * n + 1) (.int y))
theorem d3_0 : decode prog_29_method_2_code 0 = .ok (.aload_n 0, 1) := by decide +kernel
theorem d3_1 : decode prog_29_method_2_code 1 = .ok (.getfield 21, 3) := by decide +kernel
theorem d3_4 : decode prog_29_method_2_code 4 = .ok (.aload_n 0, 1) := by decide +kernel
theorem d3_5 : decode prog_29_method_2_code 5 = .ok (.getfield 11, 3) := by decide +kernel
theorem d3_8 : decode prog_29_method_2_code 8 = .ok (.arraylength, 1) := by decide +kernel
theorem d3_9 : decode prog_29_method_2_code 9 = .ok (.if_icmp .ne 70, 3) := by decide +kernel
theorem d3_79 : decode prog_29_method_2_code 79 = .ok (.aload_n 0, 1) := by decide +kernel
theorem d3_80 : decode prog_29_method_2_code 80 = .ok (.dup, 1) := by decide +kernel
theorem d3_81 : decode prog_29_method_2_code 81 = .ok (.getfield 21, 3) := by decide +kernel
theorem d3_84 : decode prog_29_method_2_code 84 = .ok (.dup_x1, 1) := by decide +kernel
theorem d3_85 : decode prog_29_method_2_code 85 = .ok (.iconst 1, 1) := by decide +kernel
theorem d3_86 : decode prog_29_method_2_code 86 = .ok (.iadd, 1) := by decide +kernel
theorem d3_87 : decode prog_29_method_2_code 87 = .ok (.putfield 21, 3) := by decide +kernel
theorem d3_90 : decode prog_29_method_2_code 90 = .ok (.istore 5, 2) := by decide +kernel
theorem d3_92 : decode prog_29_method_2_code 92 = .ok (.aload_n 0, 1) := by decide +kernel
theorem d3_93 : decode prog_29_method_2_code 93 = .ok (.getfield 11, 3) := by decide +kernel
theorem d3_96 : decode prog_29_method_2_code 96 = .ok (.iload 5, 2) := by decide +kernel
theorem d3_98 : decode prog_29_method_2_code 98 = .ok (.aload_n 1, 1) := by decide +kernel
theorem d3_99 : decode prog_29_method_2_code 99 = .ok (.invokevirtual 52, 3) := by decide +kernel
theorem pd_2 : parseMethodDescriptor "()I" = some ⟨[], some .int⟩ := by decide +kernel
theorem d3_102 : decode prog_29_method_2_code 102 = .ok (.iload_n 2, 1) := by decide +kernel
theorem d3_103 : decode prog_29_method_2_code 103 = .ok (.ifCond .eq 8, 3) := by decide +kernel
theorem d3_111 : decode prog_29_method_2_code 111 = .ok (.iconst 0, 1) := by decide +kernel
theorem d3_112 : decode prog_29_method_2_code 112 = .ok (.ior, 1) := by decide +kernel
theorem d3_113 : decode prog_29_method_2_code 113 = .ok (.i2b, 1) := by decide +kernel
theorem d3_114 : decode prog_29_method_2_code 114 = .ok (.bastore, 1) := by decide +kernel
theorem d3_115 : decode prog_29_method_2_code 115 = .ok (.aload_n 0, 1) := by decide +kernel
theorem d3_116 : decode prog_29_method_2_code 116 = .ok (.getfield 17, 3) := by decide +kernel
theorem d3_119 : decode prog_29_method_2_code 119 = .ok (.iconst 2, 1) := by decide +kernel
theorem d3_120 : decode prog_29_method_2_code 120 = .ok (.iload 5, 2) := by decide +kernel
theorem d3_122 : decode prog_29_method_2_code 122 = .ok (.imul, 1) := by decide +kernel
theorem d3_123 : decode prog_29_method_2_code 123 = .ok (.iload_n 3, 1) := by decide +kernel
theorem d3_124 : decode prog_29_method_2_code 124 = .ok (.iastore, 1) := by decide +kernel
theorem d3_125 : decode prog_29_method_2_code 125 = .ok (.aload_n 0, 1) := by decide +kernel
theorem d3_126 : decode prog_29_method_2_code 126 = .ok (.getfield 17, 3) := by decide +kernel
theorem d3_129 : decode prog_29_method_2_code 129 = .ok (.iconst 2, 1) := by decide +kernel
theorem d3_130 : decode prog_29_method_2_code 130 = .ok (.iload 5, 2) := by decide +kernel
theorem d3_132 : decode prog_29_method_2_code 132 = .ok (.imul, 1) := by decide +kernel
theorem d3_133 : decode prog_29_method_2_code 133 = .ok (.iconst 1, 1) := by decide +kernel
theorem d3_134 : decode prog_29_method_2_code 134 = .ok (.iadd, 1) := by decide +kernel
theorem d3_135 : decode prog_29_method_2_code 135 = .ok (.iload 4, 2) := by decide +kernel
theorem d3_137 : decode prog_29_method_2_code 137 = .ok (.iastore, 1) := by decide +kernel
theorem d3_138 : decode prog_29_method_2_code 138 = .ok (.iload 5, 2) := by decide +kernel
theorem d3_140 : decode prog_29_method_2_code 140 = .ok (.ireturn, 1) := by decide +kernel
theorem d3_12 : decode prog_29_method_2_code 12 = .ok (.aload_n 0, 1) := by decide +kernel
theorem d3_13 : decode prog_29_method_2_code 13 = .ok (.getfield 21, 3) := by decide +kernel
theorem d3_16 : decode prog_29_method_2_code 16 = .ok (.ldc 25, 2) := by decide +kernel
theorem d3_18 : decode prog_29_method_2_code 18 = .ok (.if_icmp .ne 13, 3) := by decide +kernel
theorem d3_31 : decode prog_29_method_2_code 31 = .ok (.ldc2_w 33, 3) := by decide +kernel
theorem d3_34 : decode prog_29_method_2_code 34 = .ok (.aload_n 0, 1) := by decide +kernel
theorem d3_35 : decode prog_29_method_2_code 35 = .ok (.getfield 21, 3) := by decide +kernel
theorem d3_38 : decode prog_29_method_2_code 38 = .ok (.i2l, 1) := by decide +kernel
theorem d3_39 : decode prog_29_method_2_code 39 = .ok (.lmul, 1) := by decide +kernel
theorem d3_40 : decode prog_29_method_2_code 40 = .ok (.lconst 1, 1) := by decide +kernel
theorem d3_41 : decode prog_29_method_2_code 41 = .ok (.ladd, 1) := by decide +kernel
theorem d3_42 : decode prog_29_method_2_code 42 = .ok (.ldc2_w 35, 3) := by decide +kernel
theorem d3_45 : decode prog_29_method_2_code 45 = .ok (.invokestatic 37, 3) := by decide +kernel
theorem pd_3 : parseMethodDescriptor "(JJ)J" = some ⟨[.long, .long], some .long⟩ := by decide +kernel
theorem d3_48 : decode prog_29_method_2_code 48 = .ok (.l2i, 1) := by decide +kernel
theorem d3_49 : decode prog_29_method_2_code 49 = .ok (.istore 5, 2) := by decide +kernel
theorem d3_51 : decode prog_29_method_2_code 51 = .ok (.aload_n 0, 1) := by decide +kernel
theorem d3_52 : decode prog_29_method_2_code 52 = .ok (.aload_n 0, 1) := by decide +kernel
theorem d3_53 : decode prog_29_method_2_code 53 = .ok (.getfield 11, 3) := by decide +kernel
theorem d3_56 : decode prog_29_method_2_code 56 = .ok (.iload 5, 2) := by decide +kernel
theorem d3_58 : decode prog_29_method_2_code 58 = .ok (.invokestatic 43, 3) := by decide +kernel
theorem pd_4 : parseMethodDescriptor "([BI)[B" = some ⟨[(.array .byte), .int], some (.array .byte)⟩ := by decide +kernel
theorem d3_61 : decode prog_29_method_2_code 61 = .ok (.putfield 11, 3) := by decide +kernel
theorem d3_64 : decode prog_29_method_2_code 64 = .ok (.aload_n 0, 1) := by decide +kernel
theorem d3_65 : decode prog_29_method_2_code 65 = .ok (.aload_n 0, 1) := by decide +kernel
theorem d3_66 : decode prog_29_method_2_code 66 = .ok (.getfield 17, 3) := by decide +kernel
theorem d3_69 : decode prog_29_method_2_code 69 = .ok (.iconst 2, 1) := by decide +kernel
theorem d3_70 : decode prog_29_method_2_code 70 = .ok (.iload 5, 2) := by decide +kernel
theorem d3_72 : decode prog_29_method_2_code 72 = .ok (.imul, 1) := by decide +kernel
theorem d3_73 : decode prog_29_method_2_code 73 = .ok (.invokestatic 49, 3) := by decide +kernel
theorem pd_5 : parseMethodDescriptor "([II)[I" = some ⟨[(.array .int), .int], some (.array .int)⟩ := by decide +kernel
theorem d3_76 : decode prog_29_method_2_code 76 = .ok (.putfield 17, 3) := by decide +kernel
theorem ef_rm_ad (m : MethodId) (x0 : Addr) (x1 : Addr) (x3 : Int32) (x4 : Int32)  : entryFrame m #[(.ref x0), (.ref x1), (.int (0 : Int32)), (.int x3), (.int x4)] 6 = mkF m 0 #[.val (.ref x0), .val (.ref x1), .val (.int (0 : Int32)), .val (.int x3), .val (.int x4), .unset] [] := by first | (simp [entryFrame, mkF, argsToLocals, catI, catR, catJ, catN]; done) | rfl
set_option maxRecDepth 65536 in
set_option maxHeartbeats 4000000 in
theorem rm_ad (l : Launch) (Z : State) (a0 : Array Value) (hw : ∀ d ∈ tables_1, d.before a0 Z = true) (b kd : Addr) (n : Nat) (kf sf : Nat → Value) (o x y : Int32) (h0 : Heap) (O0 : Ext Z.heap h0) (Bi : BI Z h0 b n kf sf) (hn4 : n ≤ 4) (Ekd : Exa Z Z.heap kd "com/example/tailhead/tailhead/json/JsonDocument$Kind") (Fo : Fld Z Z.heap kd "java/lang/Enum" "ordinal" "I" (.int o)) (ho : o = 0 ∨ o = 1) :
    Met1 true l Z (⟨"com/example/tailhead/tailhead/json/JsonDocument$Builder", "add", "(Lcom/example/tailhead/tailhead/json/JsonDocument$Kind;ZII)I"⟩ : MethodName) prog_29_method_2_code 6 (Option.some Jvm.ClassFile.FieldType.int) [] ({ frames := 2, cells := 2, slots := 27, locals := 33 } : Room) #[(.ref b), (.ref kd), (.int (0 : Int32)), (.int x), (.int y)] h0 (q_ad Z b n kf sf o x y) := by
  refine met_body (plainFor_of_name pn_4) O0 ?_
  intro p e s m below meth ck T0 hx hby hml hret hlk hnm G0
  refine Fz.entry (ef_rm_ad m b kd x y ) ?_
  obtain ⟨kA, sA, kk, ks, cap, vk, vs, Eb, Fk, Fs, Fc, gb, gk, gs, nks, nbk, nbs, Vk, lk, Vs, ls, hnc, hc9, hck, cs⟩ := Bi
  refine Jvm.Own.aloadN G0.here hx (hb hby d3_0) rfl rfl (pc' := 1) rfl ?_
  refine Jvm.Own.getfield G0 hx (hb hby d3_1) (host := "") (Or.inl (hw _ (List.mem_of_getElem? (i := 25) rfl))) Via.refl Fc (pc' := 4) rfl ?_
  intro T1 G1
  refine Jvm.Own.aloadN G1.here hx (hb hby d3_4) rfl rfl (pc' := 5) rfl ?_
  refine Jvm.Own.getfield G1 hx (hb hby d3_5) (host := "") (Or.inl (hw _ (List.mem_of_getElem? (i := 10) rfl))) Via.refl Fk (pc' := 8) rfl ?_
  intro T2 G2
  refine Jvm.Own.arraylength G2 hx (hb hby d3_8) Vk (pc' := 9) rfl ?_
  have K3 : ∀ (T4 : State) (h4 : Heap), Go true p l e ({ frames := 2, cells := 2, slots := 27, locals := 33 } : Room) s m #[(.ref b), (.ref kd), (.int (0 : Int32)), (.int x), (.int y)] below meth ck Z "com/example/tailhead/tailhead/json/JsonDocument$Builder" T4 h4 2 27 → ∀ (kA1 : Addr) (sA1 : Addr) (kk1 : ClassId) (ks1 : ClassId) (cp1 : Nat) (vk1 : List Value) (vs1 : List Value) (l5 : Slot), (Exa Z h4 b "com/example/tailhead/tailhead/json/JsonDocument$Builder") → (Fld Z h4 b "com/example/tailhead/tailhead/json/JsonDocument$Builder" "kinds" "[B" (.ref kA1)) → (Fld Z h4 b "com/example/tailhead/tailhead/json/JsonDocument$Builder" "spans" "[I" (.ref sA1)) → (Fld Z h4 b "com/example/tailhead/tailhead/json/JsonDocument$Builder" "count" "I" (.int (Int32.ofNat n))) → (Z.heap.size ≤ kA1) → (Z.heap.size ≤ sA1) → (kA1 ≠ sA1) → (b ≠ kA1) → (b ≠ sA1) → (Arv Z h4 kA1 kk1 .byte (Int32.ofNat cp1) vk1 (.int (0 : Int32))) → (vk1.length = cp1) → (Arv Z h4 sA1 ks1 .int (Int32.ofNat (2 * cp1)) vs1 (.int (0 : Int32))) → (vs1.length = 2 * cp1) → (n < cp1) → (cp1 ≤ 9) → (∀ i, i < n → vk1.getD i (.int (0 : Int32)) = kf i) → (∀ j, j < 2 * n → vs1.getD j (.int (0 : Int32)) = sf j) → (l5 = .unset ∨ ∃ v : Int32, l5 = .val (.int v)) → Fz true p e ({ frames := 2, cells := 2, slots := 27, locals := 33 } : Room) s below Z (fun v h' => ∃ w, v = some w ∧ q_ad Z b n kf sf o x y w h') (T4.setTop (mkF m 79 #[.val (.ref b), .val (.ref kd), .val (.int (0 : Int32)), .val (.int x), .val (.int y), l5] [])) := by
    intro T4 h4 G4 kA1 sA1 kk1 ks1 cp1 vk1 vs1 l5 Eb1 Fk1 Fs1 Fc1 gk1 gs1 nks1 nbk1 nbs1 Vk1 lk1 Vs1 ls1 hnc1 hc91 ck1 cs1 h5
    refine Jvm.Own.aloadN G4.here hx (hb hby d3_79) rfl rfl (pc' := 80) rfl ?_
    refine Jvm.Own.dup G4.here hx (hb hby d3_80) rfl (pc' := 81) rfl ?_
    refine Jvm.Own.getfield G4 hx (hb hby d3_81) (host := "") (Or.inl (hw _ (List.mem_of_getElem? (i := 25) rfl))) Via.refl Fc1 (pc' := 84) rfl ?_
    intro T5 G5
    refine Jvm.Own.dupX1 G5.here hx (hb hby d3_84) rfl rfl (pc' := 85) rfl ?_
    refine Jvm.Own.iconst G5.here hx (hb hby d3_85) (v := (1 : Int32)) rfl (pc' := 86) rfl ?_
    refine Jvm.Own.iadd G5.here hx (hb hby d3_86) (pc' := 87) rfl ?_
    rw [own_succ n (by omega)]
    refine Jvm.Own.putfield G5 hx (hb hby d3_87) (host := "") (Or.inl (hw _ (List.mem_of_getElem? (i := 25) rfl))) Via.refl Fc1 Eb1 (Or.inl (hw _ (List.mem_of_getElem? (i := 26) rfl))) (hw _ (List.mem_of_getElem? (i := 1) rfl)) (ty := .int) (by decide) rfl rfl gb (pc' := 90) rfl ?_
    intro T6 h6 G6 W6
    have F6 := Fc1.same W6
    refine Jvm.Own.istore G6.here hx (hb hby d3_90) (Ls' := #[.val (.ref b), .val (.ref kd), .val (.int (0 : Int32)), .val (.int x), .val (.int y), .val (.int (Int32.ofNat n))]) (by rcases h5 with rfl | ⟨_, rfl⟩ <;> rfl) (pc' := 92) rfl ?_
    refine Jvm.Own.aloadN G6.here hx (hb hby d3_92) rfl rfl (pc' := 93) rfl ?_
    have F7 := (Fk1.other W6 (Or.inr (slot_ne (Or.inl (hw _ (List.mem_of_getElem? (i := 11) rfl))) (Or.inl (hw _ (List.mem_of_getElem? (i := 26) rfl))) (by decide) (t := (.array .byte)) (t' := .int) (by decide) (by decide))))
    refine Jvm.Own.getfield G6 hx (hb hby d3_93) (host := "") (Or.inl (hw _ (List.mem_of_getElem? (i := 10) rfl))) Via.refl F7 (pc' := 96) rfl ?_
    intro T8 G8
    refine Jvm.Own.iload G8.here hx (hb hby d3_96) rfl (pc' := 98) rfl ?_
    refine Jvm.Own.aloadN G8.here hx (hb hby d3_98) rfl rfl (pc' := 99) rfl ?_
    refine Jvm.Own.callUP (y := (⟨"java/lang/Enum", "ordinal", "()I"⟩ : MethodName)) (z := (⟨"com/example/tailhead/tailhead/json/JsonDocument$Kind", "ordinal", "()I"⟩ : MethodName)) (owner := "java/lang/Enum") G8 hx (hb hby d3_99) (hw _ (List.mem_of_getElem? (i := 48) rfl)) (hw _ (List.mem_of_getElem? (i := 49) rfl)) (hw _ (List.mem_of_getElem? (i := 50) rfl)) (hw _ (List.mem_of_getElem? (i := 52) rfl)) (hw _ (List.mem_of_getElem? (i := 51) rfl)) (hw _ (List.mem_of_getElem? (i := 53) rfl)) (hw _ (List.mem_of_getElem? (i := 54) rfl)) (by decide) (Ekd.ext G8.old) (rm_ord l Z a0 hw kd o h6 G8.old (Fo.ext G8.old)) (by decide) (W := 2) (by decide) (by rw [hml]; rfl) (argsL := []) (lenOf pd_2 rfl) rfl (Nat.le_of_eq rfl) (cells' := 2) rfl (by decide) (slots' := 27) rfl (by decide) (pc' := 102) rfl ?_
    intro T9 r9 G9 Q9
    obtain rfl : r9 = (.int o) := Q9
    refine Jvm.Own.iloadN G9.here hx (hb hby d3_102) rfl (pc' := 103) rfl ?_
    refine Jvm.Own.ifY G9.here hx (hb hby d3_103) ((if0 _ _).trans (teq (by decide : (0 : Int32) = (0 : Int32))).1) (pc' := 111) (by decide) (by decide) ?_
    refine Jvm.Own.iconst G9.here hx (hb hby d3_111) (v := (0 : Int32)) rfl (pc' := 112) rfl ?_
    refine Jvm.Own.ior G9.here hx (hb hby d3_112) (pc' := 113) rfl ?_
    refine Jvm.Own.i2b G9.here hx (hb hby d3_113) (pc' := 114) rfl ?_
    have V11 := (Vk1.other W6 (Ne.symm nbk1))
    refine Jvm.Own.bastore G9 hx (hb hby d3_114) V11 ⟨own_nn n (by omega), own_lt n cp1 hnc1 (by omega)⟩ (i := n) (own_tn n (by omega)) (by omega) gk1 (pc' := 115) rfl ?_
    intro T10 h10 G10 W10 V10
    rw [own_ob o ho] at V10
    refine Jvm.Own.aloadN G10.here hx (hb hby d3_115) rfl rfl (pc' := 116) rfl ?_
    have F12 := ((Fs1.other W6 (Or.inr (slot_ne (Or.inl (hw _ (List.mem_of_getElem? (i := 14) rfl))) (Or.inl (hw _ (List.mem_of_getElem? (i := 26) rfl))) (by decide) (t := (.array .int)) (t' := .int) (by decide) (by decide)))).other W10 (Or.inl nbk1))
    refine Jvm.Own.getfield G10 hx (hb hby d3_116) (host := "") (Or.inl (hw _ (List.mem_of_getElem? (i := 13) rfl))) Via.refl F12 (pc' := 119) rfl ?_
    intro T13 G13
    refine Jvm.Own.iconst G13.here hx (hb hby d3_119) (v := (2 : Int32)) rfl (pc' := 120) rfl ?_
    refine Jvm.Own.iload G13.here hx (hb hby d3_120) rfl (pc' := 122) rfl ?_
    refine Jvm.Own.imul G13.here hx (hb hby d3_122) (pc' := 123) rfl ?_
    rw [own_mul2 n (by omega)]
    refine Jvm.Own.iloadN G13.here hx (hb hby d3_123) rfl (pc' := 124) rfl ?_
    have V15 := ((Vs1.other W6 (Ne.symm nbs1)).other W10 (Ne.symm nks1))
    refine Jvm.Own.iastore G13 hx (hb hby d3_124) V15 ⟨own_nn (2 * n) (by omega), own_lt (2 * n) (2 * cp1) (by omega) (by omega)⟩ (i := (2 * n)) (own_tn (2 * n) (by omega)) (by omega) gs1 (pc' := 125) rfl ?_
    intro T14 h14 G14 W14 V14
    refine Jvm.Own.aloadN G14.here hx (hb hby d3_125) rfl rfl (pc' := 126) rfl ?_
    have F16 := (F12.other W14 (Or.inl nbs1))
    refine Jvm.Own.getfield G14 hx (hb hby d3_126) (host := "") (Or.inl (hw _ (List.mem_of_getElem? (i := 13) rfl))) Via.refl F16 (pc' := 129) rfl ?_
    intro T17 G17
    refine Jvm.Own.iconst G17.here hx (hb hby d3_129) (v := (2 : Int32)) rfl (pc' := 130) rfl ?_
    refine Jvm.Own.iload G17.here hx (hb hby d3_130) rfl (pc' := 132) rfl ?_
    refine Jvm.Own.imul G17.here hx (hb hby d3_132) (pc' := 133) rfl ?_
    rw [own_mul2 n (by omega)]
    refine Jvm.Own.iconst G17.here hx (hb hby d3_133) (v := (1 : Int32)) rfl (pc' := 134) rfl ?_
    refine Jvm.Own.iadd G17.here hx (hb hby d3_134) (pc' := 135) rfl ?_
    rw [own_succ (2 * n) (by omega)]
    refine Jvm.Own.iload G17.here hx (hb hby d3_135) rfl (pc' := 137) rfl ?_
    refine Jvm.Own.iastore G17 hx (hb hby d3_137) V14 ⟨own_nn (2 * n + 1) (by omega), own_lt (2 * n + 1) (2 * cp1) (by omega) (by omega)⟩ (i := (2 * n + 1)) (own_tn (2 * n + 1) (by omega)) (by simp only [List.length_set]; omega) gs1 (pc' := 138) rfl ?_
    intro T18 h18 G18 W18 V18
    refine Jvm.Own.iload G18.here hx (hb hby d3_138) rfl (pc' := 140) rfl ?_
    have E19 := ((((Eb1.wr W6).wr W10).wr W14).wr W18)
    have F20 := (((F7.other W10 (Or.inl nbk1)).other W14 (Or.inl nbs1)).other W18 (Or.inl nbs1))
    have F21 := (F16.other W18 (Or.inl nbs1))
    have F22 := (((F6.other W10 (Or.inl nbk1)).other W14 (Or.inl nbs1)).other W18 (Or.inl nbs1))
    have V23 := ((V10.other W14 nks1).other W18 nks1)
    exact Jvm.Own.retI G18 hx (hb hby d3_140) hret hlk (by simp) rfl (by decide) (by decide) ⟨_, rfl, ⟨rfl, kA1, sA1, kk1, ks1, cp1, _, _, E19, F20, F21, F22, gb, gk1, gs1, nks1, nbk1, nbs1, V23, (by simp only [List.length_set]; exact lk1), V18, (by simp only [List.length_set]; exact ls1), (by omega), hc91, own_set vk1 n _ _ kf (by omega) ck1, own_set _ (2 * n + 1) _ _ _ (by simp only [List.length_set]; omega) (own_set vs1 (2 * n) _ _ sf (by omega) cs1)⟩⟩
  by_cases hb9 : (Int32.ofNat n) = (Int32.ofNat cap)
  · skip
    refine Jvm.Own.icmpN G2.here hx (hb hby d3_9) (teq hb9).2 (pc' := 12) rfl ?_
    have hnc0 : n = cap := own_inj n cap (by omega) (by omega) hb9
    subst hnc0
    refine Jvm.Own.aloadN G2.here hx (hb hby d3_12) rfl rfl (pc' := 13) rfl ?_
    refine Jvm.Own.getfield G2 hx (hb hby d3_13) (host := "") (Or.inl (hw _ (List.mem_of_getElem? (i := 25) rfl))) Via.refl Fc (pc' := 16) rfl ?_
    intro T24 G24
    refine Jvm.Own.ldcI G24 hx (hb hby d3_16) (hw _ (List.mem_of_getElem? (i := 27) rfl)) (pc' := 18) rfl ?_
    refine Jvm.Own.icmpY G24.here hx (hb hby d3_18) (feq ((fun q => by have u := congrArg Int32.toInt q; rw [own_ti n (by omega), show (1073741819 : Int32).toInt = 1073741819 from by decide] at u; omega) : ¬ (Int32.ofNat n) = (1073741819 : Int32))).2 (pc' := 31) (by decide) (by decide) ?_
    refine Jvm.Own.ldcJ G24 hx (hb hby d3_31) (hw _ (List.mem_of_getElem? (i := 28) rfl)) (pc' := 34) rfl ?_
    refine Jvm.Own.aloadN G24.here hx (hb hby d3_34) rfl rfl (pc' := 35) rfl ?_
    refine Jvm.Own.getfield G24 hx (hb hby d3_35) (host := "") (Or.inl (hw _ (List.mem_of_getElem? (i := 25) rfl))) Via.refl Fc (pc' := 38) rfl ?_
    intro T27 G27
    refine Jvm.Own.i2l G27.here hx (hb hby d3_38) (pc' := 39) rfl ?_
    refine Jvm.Own.lmul G27.here hx (hb hby d3_39) (pc' := 40) rfl ?_
    refine Jvm.Own.lconst G27.here hx (hb hby d3_40) (v := (1 : Int64)) rfl (pc' := 41) rfl ?_
    refine Jvm.Own.ladd G27.here hx (hb hby d3_41) (pc' := 42) rfl ?_
    refine Jvm.Own.ldcJ G27 hx (hb hby d3_42) (hw _ (List.mem_of_getElem? (i := 29) rfl)) (pc' := 45) rfl ?_
    refine Jvm.Own.callSP (y := (⟨"java/lang/Math", "min", "(JJ)J"⟩ : MethodName)) G27 hx (hb hby d3_45) (hw _ (List.mem_of_getElem? (i := 30) rfl)) (hw _ (List.mem_of_getElem? (i := 31) rfl)) (hw _ (List.mem_of_getElem? (i := 32) rfl)) (hw _ (List.mem_of_getElem? (i := 33) rfl)) (by decide) (rm_ml l Z a0 hw (((2 : Int64) * (Int32.ofNat n).toInt64) + (1 : Int64)) (1073741819 : Int64) h0 G27.old) (by decide) (W := 0) (by decide) (by rw [hml]; rfl) (argsL := [(.long (((2 : Int64) * (Int32.ofNat n).toInt64) + (1 : Int64))), (.long (1073741819 : Int64))]) (lenOf pd_3 rfl) rfl (Nat.le_of_eq rfl) (cells' := 0) rfl (by decide) (slots' := 0) rfl (by decide) (pc' := 48) rfl ?_
    intro T29 r29 G29 Q29
    obtain rfl : r29 = .long (own_ml (((2 : Int64) * (Int32.ofNat n).toInt64) + (1 : Int64)) (1073741819 : Int64)) := Q29
    refine Jvm.Own.l2i G29.here hx (hb hby d3_48) (pc' := 49) rfl ?_
    refine Jvm.Own.istore G29.here hx (hb hby d3_49) (Ls' := #[.val (.ref b), .val (.ref kd), .val (.int (0 : Int32)), .val (.int x), .val (.int y), .val (.int (own_ml (((2 : Int64) * (Int32.ofNat n).toInt64) + (1 : Int64)) (1073741819 : Int64)).toInt32)]) rfl (pc' := 51) rfl ?_
    rw [own_nc n (by omega)]
    refine Jvm.Own.aloadN G29.here hx (hb hby d3_51) rfl rfl (pc' := 52) rfl ?_
    refine Jvm.Own.aloadN G29.here hx (hb hby d3_52) rfl rfl (pc' := 53) rfl ?_
    refine Jvm.Own.getfield G29 hx (hb hby d3_53) (host := "") (Or.inl (hw _ (List.mem_of_getElem? (i := 10) rfl))) Via.refl Fk (pc' := 56) rfl ?_
    intro T30 G30
    refine Jvm.Own.iload G30.here hx (hb hby d3_56) rfl (pc' := 58) rfl ?_
    refine Jvm.Own.callS1 (y := (⟨"java/util/Arrays", "copyOf", "([BI)[B"⟩ : MethodName)) G30 hx (hb hby d3_58) (hw _ (List.mem_of_getElem? (i := 34) rfl)) (hw _ (List.mem_of_getElem? (i := 35) rfl)) (hw _ (List.mem_of_getElem? (i := 36) rfl)) (hw _ (List.mem_of_getElem? (i := 37) rfl)) (by decide) (rm_cb l Z a0 hw kA kk n (2 * n + 1) vk h0 G30.old Vk lk (by omega) (by omega)) (by decide) (W := 1) (by decide) (by rw [hml]; rfl) (argsL := [(.ref kA), (.int (Int32.ofNat (2 * n + 1)))]) (lenOf pd_4 rfl) rfl (Nat.le_of_eq rfl) (cells' := 1) rfl (by decide) (slots' := 9) rfl (by decide) (pc' := 61) rfl ?_
    intro T31 h31 r31 G31 Q31
    obtain ⟨x31, kx31, rfl, ge31, K31, V31⟩ := Q31
    have ga_x31 : Z.heap.size ≤ x31 := Nat.le_trans G30.old.1 ge31
    have ne32 : b ≠ x31 := ne_ge (Eb).lt ge31
    have ne33 : kA ≠ x31 := ne_ge (Vk).lt ge31
    have ne34 : sA ≠ x31 := ne_ge (Vs).lt ge31
    have E36 := (Eb.keep K31)
    have F37 := (Fk.keep K31 nin0)
    refine Jvm.Own.putfield G31 hx (hb hby d3_61) (host := "") (Or.inl (hw _ (List.mem_of_getElem? (i := 10) rfl))) Via.refl F37 E36 (Or.inl (hw _ (List.mem_of_getElem? (i := 11) rfl))) (hw _ (List.mem_of_getElem? (i := 1) rfl)) (ty := (.array .byte)) (by decide) rfl rfl gb (pc' := 64) rfl ?_
    intro T35 h35 G35 W35
    have F35 := F37.same W35
    refine Jvm.Own.aloadN G35.here hx (hb hby d3_64) rfl rfl (pc' := 65) rfl ?_
    refine Jvm.Own.aloadN G35.here hx (hb hby d3_65) rfl rfl (pc' := 66) rfl ?_
    have F38 := ((Fs.keep K31 nin0).other W35 (Or.inr (slot_ne (Or.inl (hw _ (List.mem_of_getElem? (i := 14) rfl))) (Or.inl (hw _ (List.mem_of_getElem? (i := 11) rfl))) (by decide) (t := (.array .int)) (t' := (.array .byte)) (by decide) (by decide))))
    refine Jvm.Own.getfield G35 hx (hb hby d3_66) (host := "") (Or.inl (hw _ (List.mem_of_getElem? (i := 13) rfl))) Via.refl F38 (pc' := 69) rfl ?_
    intro T39 G39
    refine Jvm.Own.iconst G39.here hx (hb hby d3_69) (v := (2 : Int32)) rfl (pc' := 70) rfl ?_
    refine Jvm.Own.iload G39.here hx (hb hby d3_70) rfl (pc' := 72) rfl ?_
    refine Jvm.Own.imul G39.here hx (hb hby d3_72) (pc' := 73) rfl ?_
    rw [own_mul2 (2 * n + 1) (by omega)]
    have V40 := ((Vs.keep K31 nin0).other W35 (Ne.symm nbs))
    refine Jvm.Own.callS1 (y := (⟨"java/util/Arrays", "copyOf", "([II)[I"⟩ : MethodName)) G39 hx (hb hby d3_73) (hw _ (List.mem_of_getElem? (i := 45) rfl)) (hw _ (List.mem_of_getElem? (i := 46) rfl)) (hw _ (List.mem_of_getElem? (i := 36) rfl)) (hw _ (List.mem_of_getElem? (i := 47) rfl)) (by decide) (rm_ci l Z a0 hw sA ks (2 * n) (2 * (2 * n + 1)) vs h35 G39.old V40 ls (by omega) (by omega)) (by decide) (W := 1) (by decide) (by rw [hml]; rfl) (argsL := [(.ref sA), (.int (Int32.ofNat (2 * (2 * n + 1))))]) (lenOf pd_5 rfl) rfl (Nat.le_of_eq rfl) (cells' := 2) rfl (by decide) (slots' := 27) rfl (by decide) (pc' := 76) rfl ?_
    intro T41 h41 r41 G41 Q41
    obtain ⟨x41, kx41, rfl, ge41, K41, V41⟩ := Q41
    have ga_x41 : Z.heap.size ≤ x41 := Nat.le_trans G39.old.1 ge41
    have E43 := (E36.wr W35)
    have ne42 : b ≠ x41 := ne_ge (E43).lt ge41
    have V45 := ((Vk.keep K31 nin0).other W35 (Ne.symm nbk))
    have ne44 : kA ≠ x41 := ne_ge (V45).lt ge41
    have ne46 : sA ≠ x41 := ne_ge (V40).lt ge41
    have V48 := (V31.other W35 (Ne.symm ne32))
    have ne47 : x31 ≠ x41 := ne_ge (V48).lt ge41
    have E50 := (E43.keep K41)
    have F51 := (F38.keep K41 nin0)
    refine Jvm.Own.putfield G41 hx (hb hby d3_76) (host := "") (Or.inl (hw _ (List.mem_of_getElem? (i := 13) rfl))) Via.refl F51 E50 (Or.inl (hw _ (List.mem_of_getElem? (i := 14) rfl))) (hw _ (List.mem_of_getElem? (i := 1) rfl)) (ty := (.array .int)) (by decide) rfl rfl gb (pc' := 79) rfl ?_
    intro T49 h49 G49 W49
    have F49 := F51.same W49
    have E52 := (E50.wr W49)
    have F53 := ((F35.keep K41 nin0).other W49 (Or.inr (slot_ne (Or.inl (hw _ (List.mem_of_getElem? (i := 11) rfl))) (Or.inl (hw _ (List.mem_of_getElem? (i := 14) rfl))) (by decide) (t := (.array .byte)) (t' := (.array .int)) (by decide) (by decide))))
    have F54 := ((((Fc.keep K31 nin0).other W35 (Or.inr (slot_ne (Or.inl (hw _ (List.mem_of_getElem? (i := 26) rfl))) (Or.inl (hw _ (List.mem_of_getElem? (i := 11) rfl))) (by decide) (t := .int) (t' := (.array .byte)) (by decide) (by decide)))).keep K41 nin0).other W49 (Or.inr (slot_ne (Or.inl (hw _ (List.mem_of_getElem? (i := 26) rfl))) (Or.inl (hw _ (List.mem_of_getElem? (i := 14) rfl))) (by decide) (t := .int) (t' := (.array .int)) (by decide) (by decide))))
    have V55 := ((V48.keep K41 nin0).other W49 (Ne.symm ne32))
    have V56 := (V41.other W49 (Ne.symm ne42))
    exact K3 T49 h49 (G49.mono (by decide) (by decide)) x31 x41 kx31 kx41 (2 * n + 1) (vk ++ List.replicate ((2 * n + 1) - n) (.int (0 : Int32))) (vs ++ List.replicate ((2 * (2 * n + 1)) - (2 * n)) (.int (0 : Int32))) (.val (.int (Int32.ofNat (2 * n + 1)))) E52 F53 F49 F54 ga_x31 ga_x41 ne47 ne32 ne42 V55 (by simp only [List.length_append, List.length_replicate]; omega) V56 (by simp only [List.length_append, List.length_replicate]; omega) (by omega) (by omega) (own_app vk n _ _ kf (by omega) hck) (own_app vs (2 * n) _ _ sf (by omega) cs) (Or.inr ⟨_, rfl⟩)
  · skip
    refine Jvm.Own.icmpY G2.here hx (hb hby d3_9) (feq hb9).2 (pc' := 79) (by decide) (by decide) ?_
    have hlt : n < cap := Nat.lt_of_le_of_ne hnc (fun q => hb9 (congrArg Int32.ofNat q))
    exact K3 T2 h0 (G2.mono (by decide) (by decide)) kA sA kk ks cap vk vs (.unset) Eb Fk Fs Fc gk gs nks nbk nbs Vk lk Vs ls hlt hc9 hck cs (Or.inl rfl)
def q_co (Z : State) (b : Addr) (n i : Nat) (kf sf : Nat → Value) (sz : Int32) (h : Heap) : Prop := BI Z h b n kf (upd (upd sf (2 * i) (.int (Int32.ofNat n))) (2 * i + 1) (.int sz))
theorem d9_0 : decode prog_29_method_3_code 0 = .ok (.aload_n 0, 1) := by decide +kernel
theorem d9_1 : decode prog_29_method_3_code 1 = .ok (.getfield 17, 3) := by decide +kernel
theorem d9_4 : decode prog_29_method_3_code 4 = .ok (.iconst 2, 1) := by decide +kernel
theorem d9_5 : decode prog_29_method_3_code 5 = .ok (.iload_n 1, 1) := by decide +kernel
theorem d9_6 : decode prog_29_method_3_code 6 = .ok (.imul, 1) := by decide +kernel
theorem d9_7 : decode prog_29_method_3_code 7 = .ok (.aload_n 0, 1) := by decide +kernel
theorem d9_8 : decode prog_29_method_3_code 8 = .ok (.getfield 21, 3) := by decide +kernel
theorem d9_11 : decode prog_29_method_3_code 11 = .ok (.iastore, 1) := by decide +kernel
theorem d9_12 : decode prog_29_method_3_code 12 = .ok (.aload_n 0, 1) := by decide +kernel
theorem d9_13 : decode prog_29_method_3_code 13 = .ok (.getfield 17, 3) := by decide +kernel
theorem d9_16 : decode prog_29_method_3_code 16 = .ok (.iconst 2, 1) := by decide +kernel
theorem d9_17 : decode prog_29_method_3_code 17 = .ok (.iload_n 1, 1) := by decide +kernel
theorem d9_18 : decode prog_29_method_3_code 18 = .ok (.imul, 1) := by decide +kernel
theorem d9_19 : decode prog_29_method_3_code 19 = .ok (.iconst 1, 1) := by decide +kernel
theorem d9_20 : decode prog_29_method_3_code 20 = .ok (.iadd, 1) := by decide +kernel
theorem d9_21 : decode prog_29_method_3_code 21 = .ok (.iload_n 2, 1) := by decide +kernel
theorem d9_22 : decode prog_29_method_3_code 22 = .ok (.iastore, 1) := by decide +kernel
theorem d9_23 : decode prog_29_method_3_code 23 = .ok (.return_, 1) := by decide +kernel
theorem ef_rm_co (m : MethodId) (x0 : Addr) (x1 : Int32) (x2 : Int32)  : entryFrame m #[(.ref x0), (.int x1), (.int x2)] 3 = mkF m 0 #[.val (.ref x0), .val (.int x1), .val (.int x2)] [] := by first | (simp [entryFrame, mkF, argsToLocals, catI, catR, catJ, catN]; done) | rfl
set_option maxRecDepth 65536 in
set_option maxHeartbeats 4000000 in
theorem rm_co (l : Launch) (Z : State) (a0 : Array Value) (hw : ∀ d ∈ tables_1, d.before a0 Z = true) (b : Addr) (n i : Nat) (kf sf : Nat → Value) (sz : Int32) (h0 : Heap) (O0 : Ext Z.heap h0) (Bi : BI Z h0 b n kf sf) (hin : i < n) :
    Met0 true l Z (⟨"com/example/tailhead/tailhead/json/JsonDocument$Builder", "complete", "(II)V"⟩ : MethodName) prog_29_method_3_code 3 (Option.none : Option Jvm.ClassFile.FieldType) [] ({ frames := 0, cells := 0, slots := 0, locals := 0 } : Room) #[(.ref b), (.int (Int32.ofNat i)), (.int sz)] h0 (q_co Z b n i kf sf sz) := by
  refine met_body (plainFor_of_name pn_4) O0 ?_
  intro p e s m below meth ck T0 hx hby hml hret hlk hnm G0
  refine Fz.entry (ef_rm_co m b (Int32.ofNat i) sz ) ?_
  obtain ⟨kA, sA, kk, ks, cap, vk, vs, Eb, Fk, Fs, Fc, gb, gk, gs, nks, nbk, nbs, Vk, lk, Vs, ls, hnc, hc9, hck, cs⟩ := Bi
  refine Jvm.Own.aloadN G0.here hx (hb hby d9_0) rfl rfl (pc' := 1) rfl ?_
  refine Jvm.Own.getfield G0 hx (hb hby d9_1) (host := "") (Or.inl (hw _ (List.mem_of_getElem? (i := 13) rfl))) Via.refl Fs (pc' := 4) rfl ?_
  intro T1 G1
  refine Jvm.Own.iconst G1.here hx (hb hby d9_4) (v := (2 : Int32)) rfl (pc' := 5) rfl ?_
  refine Jvm.Own.iloadN G1.here hx (hb hby d9_5) rfl (pc' := 6) rfl ?_
  refine Jvm.Own.imul G1.here hx (hb hby d9_6) (pc' := 7) rfl ?_
  rw [own_mul2 i (by omega)]
  refine Jvm.Own.aloadN G1.here hx (hb hby d9_7) rfl rfl (pc' := 8) rfl ?_
  refine Jvm.Own.getfield G1 hx (hb hby d9_8) (host := "") (Or.inl (hw _ (List.mem_of_getElem? (i := 25) rfl))) Via.refl Fc (pc' := 11) rfl ?_
  intro T2 G2
  refine Jvm.Own.iastore G2 hx (hb hby d9_11) Vs ⟨own_nn (2 * i) (by omega), own_lt (2 * i) (2 * cap) (by omega) (by omega)⟩ (i := (2 * i)) (own_tn (2 * i) (by omega)) (by omega) gs (pc' := 12) rfl ?_
  intro T3 h3 G3 W3 V3
  refine Jvm.Own.aloadN G3.here hx (hb hby d9_12) rfl rfl (pc' := 13) rfl ?_
  have F4 := (Fs.other W3 (Or.inl nbs))
  refine Jvm.Own.getfield G3 hx (hb hby d9_13) (host := "") (Or.inl (hw _ (List.mem_of_getElem? (i := 13) rfl))) Via.refl F4 (pc' := 16) rfl ?_
  intro T5 G5
  refine Jvm.Own.iconst G5.here hx (hb hby d9_16) (v := (2 : Int32)) rfl (pc' := 17) rfl ?_
  refine Jvm.Own.iloadN G5.here hx (hb hby d9_17) rfl (pc' := 18) rfl ?_
  refine Jvm.Own.imul G5.here hx (hb hby d9_18) (pc' := 19) rfl ?_
  rw [own_mul2 i (by omega)]
  refine Jvm.Own.iconst G5.here hx (hb hby d9_19) (v := (1 : Int32)) rfl (pc' := 20) rfl ?_
  refine Jvm.Own.iadd G5.here hx (hb hby d9_20) (pc' := 21) rfl ?_
  rw [own_succ (2 * i) (by omega)]
  refine Jvm.Own.iloadN G5.here hx (hb hby d9_21) rfl (pc' := 22) rfl ?_
  refine Jvm.Own.iastore G5 hx (hb hby d9_22) V3 ⟨own_nn (2 * i + 1) (by omega), own_lt (2 * i + 1) (2 * cap) (by omega) (by omega)⟩ (i := (2 * i + 1)) (own_tn (2 * i + 1) (by omega)) (by simp only [List.length_set]; omega) gs (pc' := 23) rfl ?_
  intro T6 h6 G6 W6 V6
  have E7 := ((Eb.wr W3).wr W6)
  have F8 := ((Fk.other W3 (Or.inl nbs)).other W6 (Or.inl nbs))
  have F9 := (F4.other W6 (Or.inl nbs))
  have F10 := ((Fc.other W3 (Or.inl nbs)).other W6 (Or.inl nbs))
  have V11 := ((Vk.other W3 nks).other W6 nks)
  exact Jvm.Own.ret0 G6 hx (hb hby d9_23) hret hlk (by decide) (by decide) ⟨rfl, ⟨kA, sA, kk, ks, cap, _, _, E7, F8, F9, F10, gb, gk, gs, nks, nbk, nbs, V11, lk, V6, (by simp only [List.length_set]; exact ls), hnc, hc9, hck, own_set2 _ (2 * i + 1) (2 * n) _ _ _ (by simp only [List.length_set]; omega) (own_set2 vs (2 * i) (2 * n) _ _ sf (by omega) cs)⟩⟩
def DI (Z : State) (h : Heap) (d : Addr) (n : Nat) (kf sf : Nat → Value) : Prop := ∃ (kA sA : Addr) (kk ks : ClassId) (cap : Nat) (vk vs : List Value), Exa Z h d "com/example/tailhead/tailhead/json/JsonDocument" ∧ Fld Z h d "com/example/tailhead/tailhead/json/JsonDocument" "kinds" "[B" (.ref kA) ∧ Fld Z h d "com/example/tailhead/tailhead/json/JsonDocument" "spans" "[I" (.ref sA) ∧ Arv Z h kA kk .byte (Int32.ofNat cap) vk (.int (0 : Int32)) ∧ Arv Z h sA ks .int (Int32.ofNat (2 * cap)) vs (.int (0 : Int32)) ∧ n ≤ cap ∧ cap ≤ 9 ∧ (∀ i, i < n → vk.getD i (.int (0 : Int32)) = kf i) ∧ (∀ j, j < 2 * n → vs.getD j (.int (0 : Int32)) = sf j)
def q_rm_jd (Z : State) (h0 : Heap) (a : Addr) (b : Addr) (tx : Addr) (kA : Addr) (sA : Addr) (h : Heap) : Prop := Keep h0 h [a] ∧ Exa Z h a "com/example/tailhead/tailhead/json/JsonDocument" ∧ Fld Z h a "com/example/tailhead/tailhead/json/JsonDocument" "kinds" "[B" (.ref kA) ∧ Fld Z h a "com/example/tailhead/tailhead/json/JsonDocument" "spans" "[I" (.ref sA)
theorem d11_0 : decode prog_28_method_1_code 0 = .ok (.aload_n 0, 1) := by decide +kernel
theorem d11_1 : decode prog_28_method_1_code 1 = .ok (.invokespecial 1, 3) := by decide +kernel
theorem d11_4 : decode prog_28_method_1_code 4 = .ok (.aload_n 0, 1) := by decide +kernel
theorem d11_5 : decode prog_28_method_1_code 5 = .ok (.sipush 512, 3) := by decide +kernel
theorem d11_8 : decode prog_28_method_1_code 8 = .ok (.anewarray 9, 3) := by decide +kernel
theorem d11_11 : decode prog_28_method_1_code 11 = .ok (.putfield 11, 3) := by decide +kernel
theorem d11_14 : decode prog_28_method_1_code 14 = .ok (.aload_n 0, 1) := by decide +kernel
theorem d11_15 : decode prog_28_method_1_code 15 = .ok (.aload_n 2, 1) := by decide +kernel
theorem d11_16 : decode prog_28_method_1_code 16 = .ok (.putfield 15, 3) := by decide +kernel
theorem d11_19 : decode prog_28_method_1_code 19 = .ok (.aload_n 0, 1) := by decide +kernel
theorem d11_20 : decode prog_28_method_1_code 20 = .ok (.aload_n 1, 1) := by decide +kernel
theorem d11_21 : decode prog_28_method_1_code 21 = .ok (.getfield 19, 3) := by decide +kernel
theorem d11_24 : decode prog_28_method_1_code 24 = .ok (.putfield 25, 3) := by decide +kernel
theorem d11_27 : decode prog_28_method_1_code 27 = .ok (.aload_n 0, 1) := by decide +kernel
theorem d11_28 : decode prog_28_method_1_code 28 = .ok (.aload_n 1, 1) := by decide +kernel
theorem d11_29 : decode prog_28_method_1_code 29 = .ok (.getfield 26, 3) := by decide +kernel
theorem d11_32 : decode prog_28_method_1_code 32 = .ok (.putfield 30, 3) := by decide +kernel
theorem d11_35 : decode prog_28_method_1_code 35 = .ok (.return_, 1) := by decide +kernel
theorem ef_rm_jd (m : MethodId) (x0 : Addr) (x1 : Addr) (x2 : Addr)  : entryFrame m #[(.ref x0), (.ref x1), (.ref x2)] 3 = mkF m 0 #[.val (.ref x0), .val (.ref x1), .val (.ref x2)] [] := by first | (simp [entryFrame, mkF, argsToLocals, catI, catR, catJ, catN]; done) | rfl
theorem pn_6 : plainName "com/example/tailhead/tailhead/json/JsonDocument" = true := by first | (simp [plainName, overriddenIn]; done) | decide +kernel
set_option maxRecDepth 65536 in
set_option maxHeartbeats 4000000 in
theorem rm_jd (l : Launch) (Z : State) (a0 : Array Value) (hw : ∀ d ∈ tables_1, d.before a0 Z = true) (a : Addr) (b tx kA sA : Addr) (h0 : Heap) (O0 : Ext Z.heap h0) (ga : Z.heap.size ≤ a) (Ea : Exa Z h0 a "com/example/tailhead/tailhead/json/JsonDocument") (F_shared : Fld Z h0 a "com/example/tailhead/tailhead/json/JsonDocument" "shared" "[Ljava/lang/String;" .null) (F_text : Fld Z h0 a "com/example/tailhead/tailhead/json/JsonDocument" "text" "Ljava/lang/String;" .null) (F_kinds : Fld Z h0 a "com/example/tailhead/tailhead/json/JsonDocument" "kinds" "[B" .null) (F_spans : Fld Z h0 a "com/example/tailhead/tailhead/json/JsonDocument" "spans" "[I" .null) (Fbk : Fld Z h0 b "com/example/tailhead/tailhead/json/JsonDocument$Builder" "kinds" "[B" (.ref kA)) (Fbs : Fld Z h0 b "com/example/tailhead/tailhead/json/JsonDocument$Builder" "spans" "[I" (.ref sA)) (nab : b ≠ a) :
    Met0 true l Z (⟨"com/example/tailhead/tailhead/json/JsonDocument", "<init>", "(Lcom/example/tailhead/tailhead/json/JsonDocument$Builder;Ljava/lang/String;)V"⟩ : MethodName) prog_28_method_1_code 3 (Option.none : Option Jvm.ClassFile.FieldType) [] ({ frames := 1, cells := 1, slots := 512, locals := 12 } : Room) #[(.ref a), (.ref b), (.ref tx)] h0 (q_rm_jd Z h0 a b tx kA sA) := by
  refine met_body (plainFor_of_name pn_6) O0 ?_
  intro p e s m below meth ck T0 hx hby hml hret hlk hnm G0
  refine Fz.entry (ef_rm_jd m a b tx ) ?_
  have K0 : Keep h0 h0 [a] := Keep.refl _ _
  refine Jvm.Own.aloadN G0.here hx (hb hby d11_0) rfl rfl (pc' := 1) rfl ?_
  refine Jvm.Own.initObj G0 hx (hb hby d11_1) (hw _ (List.mem_of_getElem? (i := 80) rfl)) (hw _ (List.mem_of_getElem? (i := 7) rfl)) (hw _ (List.mem_of_getElem? (i := 8) rfl)) (by rw [hml]; rfl) (by decide) (W := 0) (Nat.le_of_eq rfl) (by decide) (pc' := 4) rfl ?_
  intro T1 G1
  refine Jvm.Own.aloadN G1.here hx (hb hby d11_4) rfl rfl (pc' := 5) rfl ?_
  refine Jvm.Own.sipush G1.here hx (hb hby d11_5) (v := (512 : Int32)) rfl (pc' := 8) rfl ?_
  refine Jvm.Own.anewarray G1 hx (hb hby d11_8) (hw _ (List.mem_of_getElem? (i := 81) rfl)) (hw _ (List.mem_of_getElem? (i := 82) rfl)) (by decide) (cap := 512) (by decide) (by decide) (cells' := 1) rfl (by decide) (slots' := 512) rfl (by decide) (pc' := 11) rfl ?_
  intro T2 h2 b2 k2 z2 G2 X2 V2 O2
  have ga_b2 : Z.heap.size ≤ b2 := ge_new G1.old z2
  have sz_b2 : h0.size ≤ b2 := by rw [z2]; exact K0.1
  have ne3 : a ≠ b2 := ne_new (Ea).lt z2
  have ne4 : b ≠ b2 := ne_new (Fbk).lt z2
  have K5 : Keep h0 h2 [a] := K0.ext X2
  have E7 := (Ea.ext X2)
  have F8 := (F_shared.ext X2)
  refine Jvm.Own.putfield G2 hx (hb hby d11_11) (host := "") (Or.inl (hw _ (List.mem_of_getElem? (i := 83) rfl))) Via.refl F8 E7 (Or.inr ⟨(hw _ (List.mem_of_getElem? (i := 84) rfl)), rfl, hnm⟩) (hw _ (List.mem_of_getElem? (i := 75) rfl)) (ty := (.array (.object "java/lang/String"))) (by decide) rfl rfl ga (pc' := 14) rfl ?_
  intro T6 h6 G6 W6
  have F6 := F8.same W6
  have K9 : Keep h0 h6 [a] := K5.wr W6 (Or.inl (List.mem_of_getElem? (i := 0) rfl))
  refine Jvm.Own.aloadN G6.here hx (hb hby d11_14) rfl rfl (pc' := 15) rfl ?_
  refine Jvm.Own.aloadN G6.here hx (hb hby d11_15) rfl rfl (pc' := 16) rfl ?_
  have E11 := (E7.wr W6)
  have F12 := ((F_text.ext X2).other W6 (Or.inr (slot_ne (Or.inr (hw _ (List.mem_of_getElem? (i := 86) rfl))) (Or.inr (hw _ (List.mem_of_getElem? (i := 84) rfl))) (by decide) (t := (.object "java/lang/String")) (t' := (.array (.object "java/lang/String"))) (by decide) (by decide))))
  refine Jvm.Own.putfield G6 hx (hb hby d11_16) (host := "") (Or.inl (hw _ (List.mem_of_getElem? (i := 85) rfl))) Via.refl F12 E11 (Or.inr ⟨(hw _ (List.mem_of_getElem? (i := 86) rfl)), rfl, hnm⟩) (hw _ (List.mem_of_getElem? (i := 75) rfl)) (ty := (.object "java/lang/String")) (by decide) rfl rfl ga (pc' := 19) rfl ?_
  intro T10 h10 G10 W10
  have F10 := F12.same W10
  have K13 : Keep h0 h10 [a] := K9.wr W10 (Or.inl (List.mem_of_getElem? (i := 0) rfl))
  refine Jvm.Own.aloadN G10.here hx (hb hby d11_19) rfl rfl (pc' := 20) rfl ?_
  refine Jvm.Own.aloadN G10.here hx (hb hby d11_20) rfl rfl (pc' := 21) rfl ?_
  have F14 := (((Fbk.ext X2).other W6 (Or.inl nab)).other W10 (Or.inl nab))
  refine Jvm.Own.getfieldRef G10 hx (hb hby d11_21) (hw _ (List.mem_of_getElem? (i := 87) rfl)) F14 (pc' := 24) rfl ?_
  have E17 := (E11.wr W10)
  have F18 := (((F_kinds.ext X2).other W6 (Or.inr (slot_ne (Or.inr (hw _ (List.mem_of_getElem? (i := 89) rfl))) (Or.inr (hw _ (List.mem_of_getElem? (i := 84) rfl))) (by decide) (t := (.array .byte)) (t' := (.array (.object "java/lang/String"))) (by decide) (by decide)))).other W10 (Or.inr (slot_ne (Or.inr (hw _ (List.mem_of_getElem? (i := 89) rfl))) (Or.inr (hw _ (List.mem_of_getElem? (i := 86) rfl))) (by decide) (t := (.array .byte)) (t' := (.object "java/lang/String")) (by decide) (by decide))))
  refine Jvm.Own.putfield G10 hx (hb hby d11_24) (host := "") (Or.inl (hw _ (List.mem_of_getElem? (i := 88) rfl))) Via.refl F18 E17 (Or.inr ⟨(hw _ (List.mem_of_getElem? (i := 89) rfl)), rfl, hnm⟩) (hw _ (List.mem_of_getElem? (i := 75) rfl)) (ty := (.array .byte)) (by decide) rfl rfl ga (pc' := 27) rfl ?_
  intro T16 h16 G16 W16
  have F16 := F18.same W16
  have K19 : Keep h0 h16 [a] := K13.wr W16 (Or.inl (List.mem_of_getElem? (i := 0) rfl))
  refine Jvm.Own.aloadN G16.here hx (hb hby d11_27) rfl rfl (pc' := 28) rfl ?_
  refine Jvm.Own.aloadN G16.here hx (hb hby d11_28) rfl rfl (pc' := 29) rfl ?_
  have F20 := ((((Fbs.ext X2).other W6 (Or.inl nab)).other W10 (Or.inl nab)).other W16 (Or.inl nab))
  refine Jvm.Own.getfieldRef G16 hx (hb hby d11_29) (hw _ (List.mem_of_getElem? (i := 90) rfl)) F20 (pc' := 32) rfl ?_
  have E23 := (E17.wr W16)
  have F24 := ((((F_spans.ext X2).other W6 (Or.inr (slot_ne (Or.inr (hw _ (List.mem_of_getElem? (i := 92) rfl))) (Or.inr (hw _ (List.mem_of_getElem? (i := 84) rfl))) (by decide) (t := (.array .int)) (t' := (.array (.object "java/lang/String"))) (by decide) (by decide)))).other W10 (Or.inr (slot_ne (Or.inr (hw _ (List.mem_of_getElem? (i := 92) rfl))) (Or.inr (hw _ (List.mem_of_getElem? (i := 86) rfl))) (by decide) (t := (.array .int)) (t' := (.object "java/lang/String")) (by decide) (by decide)))).other W16 (Or.inr (slot_ne (Or.inr (hw _ (List.mem_of_getElem? (i := 92) rfl))) (Or.inr (hw _ (List.mem_of_getElem? (i := 89) rfl))) (by decide) (t := (.array .int)) (t' := (.array .byte)) (by decide) (by decide))))
  refine Jvm.Own.putfield G16 hx (hb hby d11_32) (host := "") (Or.inl (hw _ (List.mem_of_getElem? (i := 91) rfl))) Via.refl F24 E23 (Or.inr ⟨(hw _ (List.mem_of_getElem? (i := 92) rfl)), rfl, hnm⟩) (hw _ (List.mem_of_getElem? (i := 75) rfl)) (ty := (.array .int)) (by decide) rfl rfl ga (pc' := 35) rfl ?_
  intro T22 h22 G22 W22
  have F22 := F24.same W22
  have K25 : Keep h0 h22 [a] := K19.wr W22 (Or.inl (List.mem_of_getElem? (i := 0) rfl))
  have E26 := (E23.wr W22)
  have F27 := (F16.other W22 (Or.inr (slot_ne (Or.inr (hw _ (List.mem_of_getElem? (i := 89) rfl))) (Or.inr (hw _ (List.mem_of_getElem? (i := 92) rfl))) (by decide) (t := (.array .byte)) (t' := (.array .int)) (by decide) (by decide))))
  exact Jvm.Own.ret0 G22 hx (hb hby d11_35) hret hlk (by decide) (by decide) ⟨rfl, ⟨K25, E26, F27, F22⟩⟩
def q_bu (Z : State) (n : Nat) (kf sf : Nat → Value) (w : Value) (h : Heap) : Prop := ∃ d, w = .ref d ∧ DI Z h d n kf sf
theorem d10_0 : decode prog_29_method_6_code 0 = .ok (.new 3, 3) := by decide +kernel
theorem d10_3 : decode prog_29_method_6_code 3 = .ok (.dup, 1) := by decide +kernel
theorem d10_4 : decode prog_29_method_6_code 4 = .ok (.aload_n 0, 1) := by decide +kernel
theorem d10_5 : decode prog_29_method_6_code 5 = .ok (.aload_n 1, 1) := by decide +kernel
theorem d10_6 : decode prog_29_method_6_code 6 = .ok (.invokespecial 81, 3) := by decide +kernel
theorem pd_6 : parseMethodDescriptor "(Lcom/example/tailhead/tailhead/json/JsonDocument$Builder;Ljava/lang/String;)V" = some ⟨[(.object "com/example/tailhead/tailhead/json/JsonDocument$Builder"), (.object "java/lang/String")], none⟩ := by decide +kernel
theorem d10_9 : decode prog_29_method_6_code 9 = .ok (.areturn, 1) := by decide +kernel
theorem ef_rm_bu (m : MethodId) (x0 : Addr) (x1 : Addr)  : entryFrame m #[(.ref x0), (.ref x1)] 2 = mkF m 0 #[.val (.ref x0), .val (.ref x1)] [] := by first | (simp [entryFrame, mkF, argsToLocals, catI, catR, catJ, catN]; done) | rfl
set_option maxRecDepth 65536 in
set_option maxHeartbeats 4000000 in
theorem rm_bu (l : Launch) (Z : State) (a0 : Array Value) (hw : ∀ d ∈ tables_1, d.before a0 Z = true) (b tx : Addr) (n : Nat) (kf sf : Nat → Value) (h0 : Heap) (O0 : Ext Z.heap h0) (Bi : BI Z h0 b n kf sf) :
    Met1 true l Z (⟨"com/example/tailhead/tailhead/json/JsonDocument$Builder", "build", "(Ljava/lang/String;)Lcom/example/tailhead/tailhead/json/JsonDocument;"⟩ : MethodName) prog_29_method_6_code 2 (Option.some (Jvm.ClassFile.FieldType.object "com/example/tailhead/tailhead/json/JsonDocument")) [] ({ frames := 2, cells := 2, slots := 516, locals := 27 } : Room) #[(.ref b), (.ref tx)] h0 (q_bu Z n kf sf) := by
  refine met_body (plainFor_of_name pn_4) O0 ?_
  intro p e s m below meth ck T0 hx hby hml hret hlk hnm G0
  refine Fz.entry (ef_rm_bu m b tx ) ?_
  obtain ⟨kA, sA, kk, ks, cap, vk, vs, Eb, Fk, Fs, Fc, gb, gk, gs, nks, nbk, nbs, Vk, lk, Vs, ls, hnc, hc9, hck, cs⟩ := Bi
  refine Jvm.Own.new G0 hx (hb hby d10_0) (hw _ (List.mem_of_getElem? (i := 74) rfl)) (hw _ (List.mem_of_getElem? (i := 75) rfl)) (hw _ (List.mem_of_getElem? (i := 76) rfl)) (cells' := 1) rfl (by decide) (slots' := 4) rfl (by decide) (pc' := 3) rfl ?_
  intro T1 h1 b1 z1 G1 X1 E1 D1
  have ga_b1 : Z.heap.size ≤ b1 := ge_new G0.old z1
  have ne2 : b ≠ b1 := ne_new (Eb).lt z1
  have ne3 : kA ≠ b1 := ne_new (Vk).lt z1
  have ne4 : sA ≠ b1 := ne_new (Vs).lt z1
  have F5 : Fld Z h1 b1 "com/example/tailhead/tailhead/json/JsonDocument" "shared" "[Ljava/lang/String;" .null := D1 (Or.inr (hw _ (List.mem_of_getElem? (i := 84) rfl))) (ty := (.array (.object "java/lang/String"))) (by decide)
  have F6 : Fld Z h1 b1 "com/example/tailhead/tailhead/json/JsonDocument" "text" "Ljava/lang/String;" .null := D1 (Or.inr (hw _ (List.mem_of_getElem? (i := 86) rfl))) (ty := (.object "java/lang/String")) (by decide)
  have F7 : Fld Z h1 b1 "com/example/tailhead/tailhead/json/JsonDocument" "kinds" "[B" .null := D1 (Or.inr (hw _ (List.mem_of_getElem? (i := 89) rfl))) (ty := (.array .byte)) (by decide)
  have F8 : Fld Z h1 b1 "com/example/tailhead/tailhead/json/JsonDocument" "spans" "[I" .null := D1 (Or.inr (hw _ (List.mem_of_getElem? (i := 92) rfl))) (ty := (.array .int)) (by decide)
  refine Jvm.Own.dup G1.here hx (hb hby d10_3) rfl (pc' := 4) rfl ?_
  refine Jvm.Own.aloadN G1.here hx (hb hby d10_4) rfl rfl (pc' := 5) rfl ?_
  refine Jvm.Own.aloadN G1.here hx (hb hby d10_5) rfl rfl (pc' := 6) rfl ?_
  have F9 := (Fk.ext X1)
  have F10 := (Fs.ext X1)
  refine Jvm.Own.callIN0 (y := (⟨"com/example/tailhead/tailhead/json/JsonDocument", "<init>", "(Lcom/example/tailhead/tailhead/json/JsonDocument$Builder;Ljava/lang/String;)V"⟩ : MethodName)) (host := "com/example/tailhead/tailhead/json/JsonDocument") G1 hx (hb hby d10_6) rfl (hw _ (List.mem_of_getElem? (i := 77) rfl)) (hw _ (List.mem_of_getElem? (i := 78) rfl)) (hw _ (List.mem_of_getElem? (i := 76) rfl)) (hw _ (List.mem_of_getElem? (i := 79) rfl)) (by decide) (rm_jd l Z a0 hw b1 b tx kA sA h1 G1.old ga_b1 E1 F5 F6 F7 F8 F9 F10 ne2) (by decide) (W := 1) (by decide) (by rw [hml]; rfl) (argsL := [(.ref b), (.ref tx)]) (lenOf pd_6 rfl) rfl (Nat.le_of_eq rfl) (cells' := 2) rfl (by decide) (slots' := 516) rfl (by decide) (pc' := 9) rfl ?_
  intro T11 h11 G11 Q11
  obtain ⟨K11, E11, Fk11, Fs11⟩ := Q11
  have V12 := ((Vk.ext X1).keep K11 (ninS ne3 nin0))
  have V13 := ((Vs.ext X1).keep K11 (ninS ne4 nin0))
  exact Jvm.Own.retA G11 hx (hb hby d10_9) hret hlk rfl rfl rfl (by decide) (by decide) ⟨_, rfl, ⟨_, rfl, kA, sA, kk, ks, cap, vk, vs, E11, Fk11, Fs11, V12, V13, hnc, hc9, hck, cs⟩⟩
def q_in (x : Int32) (w : Value) : Prop := w = .int x
theorem d12_0 : decode prog_28_method_4_code 0 = .ok (.aload_n 0, 1) := by decide +kernel
theorem d12_1 : decode prog_28_method_4_code 1 = .ok (.getfield 30, 3) := by decide +kernel
theorem d12_4 : decode prog_28_method_4_code 4 = .ok (.iconst 2, 1) := by decide +kernel
theorem d12_5 : decode prog_28_method_4_code 5 = .ok (.iload_n 1, 1) := by decide +kernel
theorem d12_6 : decode prog_28_method_4_code 6 = .ok (.imul, 1) := by decide +kernel
theorem d12_7 : decode prog_28_method_4_code 7 = .ok (.iconst 1, 1) := by decide +kernel
theorem d12_8 : decode prog_28_method_4_code 8 = .ok (.iadd, 1) := by decide +kernel
theorem d12_9 : decode prog_28_method_4_code 9 = .ok (.iaload, 1) := by decide +kernel
theorem d12_10 : decode prog_28_method_4_code 10 = .ok (.ireturn, 1) := by decide +kernel
theorem ef_rm_sz (m : MethodId) (x0 : Addr) (x1 : Int32)  : entryFrame m #[(.ref x0), (.int x1)] 2 = mkF m 0 #[.val (.ref x0), .val (.int x1)] [] := by first | (simp [entryFrame, mkF, argsToLocals, catI, catR, catJ, catN]; done) | rfl
set_option maxRecDepth 65536 in
set_option maxHeartbeats 4000000 in
theorem rm_sz (l : Launch) (Z : State) (a0 : Array Value) (hw : ∀ d ∈ tables_1, d.before a0 Z = true) (d : Addr) (n i : Nat) (kf sf : Nat → Value) (x : Int32) (h0 : Heap) (O0 : Ext Z.heap h0) (Di : DI Z h0 d n kf sf) (hin : i < n) (hx1 : sf (2 * i + 1) = .int x) :
    Met1 true l Z (⟨"com/example/tailhead/tailhead/json/JsonDocument", "size", "(I)I"⟩ : MethodName) prog_28_method_4_code 2 (Option.some Jvm.ClassFile.FieldType.int) [] ({ frames := 0, cells := 0, slots := 0, locals := 0 } : Room) #[(.ref d), (.int (Int32.ofNat i))] h0 (fun w h' => h' = h0 ∧ q_in x w) := by
  refine met_body (plainFor_of_name pn_6) O0 ?_
  intro p e s m below meth ck T0 hx hby hml hret hlk hnm G0
  refine Fz.entry (ef_rm_sz m d (Int32.ofNat i) ) ?_
  obtain ⟨kA, sA, kk, ks, cap, vk, vs, Ed, Fk, Fs, Vk, Vs, hnc, hc9, hck, cs⟩ := Di
  have hx' := hx1
  refine Jvm.Own.aloadN G0.here hx (hb hby d12_0) rfl rfl (pc' := 1) rfl ?_
  refine Jvm.Own.getfield G0 hx (hb hby d12_1) (host := "") (Or.inl (hw _ (List.mem_of_getElem? (i := 91) rfl))) Via.refl Fs (pc' := 4) rfl ?_
  intro T1 G1
  refine Jvm.Own.iconst G1.here hx (hb hby d12_4) (v := (2 : Int32)) rfl (pc' := 5) rfl ?_
  refine Jvm.Own.iloadN G1.here hx (hb hby d12_5) rfl (pc' := 6) rfl ?_
  refine Jvm.Own.imul G1.here hx (hb hby d12_6) (pc' := 7) rfl ?_
  rw [own_mul2 i (by omega)]
  refine Jvm.Own.iconst G1.here hx (hb hby d12_7) (v := (1 : Int32)) rfl (pc' := 8) rfl ?_
  refine Jvm.Own.iadd G1.here hx (hb hby d12_8) (pc' := 9) rfl ?_
  rw [own_succ (2 * i) (by omega)]
  refine Jvm.Own.iaload G1 hx (hb hby d12_9) Vs ⟨own_nn (2 * i + 1) (by omega), own_lt (2 * i + 1) (2 * cap) (by omega) (by omega)⟩ (v := (.int x)) (by rw [own_tn (2 * i + 1) (by omega), cs (2 * i + 1) (by omega)]; exact hx') (pc' := 10) rfl ?_
  exact Jvm.Own.retI G1 hx (hb hby d12_10) hret hlk (by simp) rfl (by decide) (by decide) ⟨_, rfl, ⟨rfl, rfl⟩⟩
theorem d13_0 : decode prog_28_method_6_code 0 = .ok (.aload_n 0, 1) := by decide +kernel
theorem d13_1 : decode prog_28_method_6_code 1 = .ok (.getfield 25, 3) := by decide +kernel
theorem d13_4 : decode prog_28_method_6_code 4 = .ok (.iload_n 1, 1) := by decide +kernel
theorem d13_5 : decode prog_28_method_6_code 5 = .ok (.baload, 1) := by decide +kernel
theorem d13_6 : decode prog_28_method_6_code 6 = .ok (.getstatic 35, 3) := by decide +kernel
theorem d13_9 : decode prog_28_method_6_code 9 = .ok (.if_icmp .gt 14, 3) := by decide +kernel
theorem d13_12 : decode prog_28_method_6_code 12 = .ok (.aload_n 0, 1) := by decide +kernel
theorem d13_13 : decode prog_28_method_6_code 13 = .ok (.getfield 30, 3) := by decide +kernel
theorem d13_16 : decode prog_28_method_6_code 16 = .ok (.iconst 2, 1) := by decide +kernel
theorem d13_17 : decode prog_28_method_6_code 17 = .ok (.iload_n 1, 1) := by decide +kernel
theorem d13_18 : decode prog_28_method_6_code 18 = .ok (.imul, 1) := by decide +kernel
theorem d13_19 : decode prog_28_method_6_code 19 = .ok (.iaload, 1) := by decide +kernel
theorem d13_20 : decode prog_28_method_6_code 20 = .ok (.goto 6, 3) := by decide +kernel
theorem d13_26 : decode prog_28_method_6_code 26 = .ok (.ireturn, 1) := by decide +kernel
theorem ef_rm_nx (m : MethodId) (x0 : Addr) (x1 : Int32)  : entryFrame m #[(.ref x0), (.int x1)] 2 = mkF m 0 #[.val (.ref x0), .val (.int x1)] [] := by first | (simp [entryFrame, mkF, argsToLocals, catI, catR, catJ, catN]; done) | rfl
set_option maxRecDepth 65536 in
set_option maxHeartbeats 4000000 in
theorem rm_nx (l : Launch) (Z : State) (a0 : Array Value) (hw : ∀ d ∈ tables_1, d.before a0 Z = true) (d : Addr) (n i : Nat) (kf sf : Nat → Value) (kb x : Int32) (w_s_JsonDocument_Kind_OBJECT : Addr) (w_s_JsonDocument_Kind_ARRAY : Addr) (h0 : Heap) (O0 : Ext Z.heap h0) (Di : DI Z h0 d n kf sf) (hin : i < n) (hkb : kf i = .int kb) (hle : ¬ (1 : Int32) < kb) (hx1 : sf (2 * i) = .int x) (S_s_JsonDocument_Kind_OBJECT : Sta Z Z.heap "com/example/tailhead/tailhead/json/JsonDocument$Kind" "OBJECT" "Lcom/example/tailhead/tailhead/json/JsonDocument$Kind;" (.ref w_s_JsonDocument_Kind_OBJECT)) (E_s_JsonDocument_Kind_OBJECT : Exa Z Z.heap w_s_JsonDocument_Kind_OBJECT "com/example/tailhead/tailhead/json/JsonDocument$Kind") (S_s_JsonDocument_Kind_ARRAY : Sta Z Z.heap "com/example/tailhead/tailhead/json/JsonDocument$Kind" "ARRAY" "Lcom/example/tailhead/tailhead/json/JsonDocument$Kind;" (.ref w_s_JsonDocument_Kind_ARRAY)) (E_s_JsonDocument_Kind_ARRAY : Exa Z Z.heap w_s_JsonDocument_Kind_ARRAY "com/example/tailhead/tailhead/json/JsonDocument$Kind") (F_s_JsonDocument_Kind_ARRAY_ordinal : Fld Z Z.heap w_s_JsonDocument_Kind_ARRAY "java/lang/Enum" "ordinal" "I" (.int (1 : Int32))) (F_s_JsonDocument_Kind_OBJECT_ordinal : Fld Z Z.heap w_s_JsonDocument_Kind_OBJECT "java/lang/Enum" "ordinal" "I" (.int (0 : Int32))) (S_s_JsonDocument_LAST_HOLDING : Sta Z Z.heap "com/example/tailhead/tailhead/json/JsonDocument" "LAST_HOLDING" "I" (.int (1 : Int32))) :
    Met1 true l Z (⟨"com/example/tailhead/tailhead/json/JsonDocument", "next", "(I)I"⟩ : MethodName) prog_28_method_6_code 2 (Option.some Jvm.ClassFile.FieldType.int) [] ({ frames := 0, cells := 0, slots := 0, locals := 0 } : Room) #[(.ref d), (.int (Int32.ofNat i))] h0 (fun w h' => h' = h0 ∧ q_in x w) := by
  refine met_body (plainFor_of_name pn_6) O0 ?_
  intro p e s m below meth ck T0 hx hby hml hret hlk hnm G0
  refine Fz.entry (ef_rm_nx m d (Int32.ofNat i) ) ?_
  obtain ⟨kA, sA, kk, ks, cap, vk, vs, Ed, Fk, Fs, Vk, Vs, hnc, hc9, hck, cs⟩ := Di
  refine Jvm.Own.aloadN G0.here hx (hb hby d13_0) rfl rfl (pc' := 1) rfl ?_
  refine Jvm.Own.getfield G0 hx (hb hby d13_1) (host := "") (Or.inl (hw _ (List.mem_of_getElem? (i := 88) rfl))) Via.refl Fk (pc' := 4) rfl ?_
  intro T1 G1
  refine Jvm.Own.iloadN G1.here hx (hb hby d13_4) rfl (pc' := 5) rfl ?_
  refine Jvm.Own.baload G1 hx (hb hby d13_5) Vk ⟨own_nn i (by omega), own_lt i cap (by omega) (by omega)⟩ (v := (.int kb)) (by rw [own_tn i (by omega), hck i hin]; exact hkb) (pc' := 6) rfl ?_
  refine Jvm.Own.getstatic G1 hx (hb hby d13_6) (host := "") (Or.inl (hw _ (List.mem_of_getElem? (i := 103) rfl))) Via.refl S_s_JsonDocument_LAST_HOLDING (pc' := 9) rfl ?_
  intro T2 G2
  refine Jvm.Own.icmpN G2.here hx (hb hby d13_9) (flt (hle : ¬ (1 : Int32) < kb)).2.2.1 (pc' := 12) rfl ?_
  refine Jvm.Own.aloadN G2.here hx (hb hby d13_12) rfl rfl (pc' := 13) rfl ?_
  refine Jvm.Own.getfield G2 hx (hb hby d13_13) (host := "") (Or.inl (hw _ (List.mem_of_getElem? (i := 91) rfl))) Via.refl Fs (pc' := 16) rfl ?_
  intro T3 G3
  refine Jvm.Own.iconst G3.here hx (hb hby d13_16) (v := (2 : Int32)) rfl (pc' := 17) rfl ?_
  refine Jvm.Own.iloadN G3.here hx (hb hby d13_17) rfl (pc' := 18) rfl ?_
  refine Jvm.Own.imul G3.here hx (hb hby d13_18) (pc' := 19) rfl ?_
  rw [own_mul2 i (by omega)]
  refine Jvm.Own.iaload G3 hx (hb hby d13_19) Vs ⟨own_nn (2 * i) (by omega), own_lt (2 * i) (2 * cap) (by omega) (by omega)⟩ (v := (.int x)) (by rw [own_tn (2 * i) (by omega), cs (2 * i) (by omega)]; exact hx1) (pc' := 20) rfl ?_
  refine Jvm.Own.goto G3.here hx (hb hby d13_20) (pc' := 26) (by decide) (by decide) ?_
  exact Jvm.Own.retI G3 hx (hb hby d13_26) hret hlk (by simp) rfl (by decide) (by decide) ⟨_, rfl, ⟨rfl, rfl⟩⟩
theorem own_and3 (y : Int32) : y &&& (3 : Int32) = 0 ∨ y &&& (3 : Int32) = 1 ∨ y &&& (3 : Int32) = 2 ∨ y &&& (3 : Int32) = 3 := by
  have h1 := c_mask y 3 2 (by decide) (by decide)
  have e : ∀ k : Int32, (y &&& (3 : Int32)).toInt = k.toInt → y &&& (3 : Int32) = k := fun k q => Int32.toInt_inj.mp q
  have h : (y &&& (3 : Int32)).toInt = 0 ∨ (y &&& (3 : Int32)).toInt = 1 ∨ (y &&& (3 : Int32)).toInt = 2 ∨ (y &&& (3 : Int32)).toInt = 3 := by omega
  rcases h with q | q | q | q
  · exact Or.inl (e 0 (q.trans (by decide)))
  · exact Or.inr (Or.inl (e 1 (q.trans (by decide))))
  · exact Or.inr (Or.inr (Or.inl (e 2 (q.trans (by decide)))))
  · exact Or.inr (Or.inr (Or.inr (e 3 (q.trans (by decide)))))
theorem own_cap (y : Int32) : ∃ mm : Nat, mm ≤ 3 ∧ y &&& (3 : Int32) = Int32.ofNat mm := by
  rcases own_and3 y with q | q | q | q
  · exact ⟨0, by decide, q.trans (by decide)⟩
  · exact ⟨1, by decide, q.trans (by decide)⟩
  · exact ⟨2, by decide, q.trans (by decide)⟩
  · exact ⟨3, by decide, q.trans (by decide)⟩
theorem own_biE {Z : State} {h : Heap} {b : Addr} {n : Nat} {kf sf : Nat → Value} (B : BI Z h b n kf sf) : Exa Z h b "com/example/tailhead/tailhead/json/JsonDocument$Builder" := by
  obtain ⟨_, _, _, _, _, _, _, E, _⟩ := B; exact E
theorem own_biX {Z : State} {h h' : Heap} {b : Addr} {n : Nat} {kf sf : Nat → Value} (B : BI Z h b n kf sf) (X : Ext h h') : BI Z h' b n kf sf := by
  obtain ⟨kA, sA, kk, ks, cap, vk, vs, Eb, Fk, Fs, Fc, gb, gk, gs, nks, nbk, nbs, Vk, lk, Vs, ls, hnc, hc9, hck, cs⟩ := B
  exact ⟨kA, sA, kk, ks, cap, vk, vs, Eb.ext X, Fk.ext X, Fs.ext X, Fc.ext X, gb, gk, gs, nks, nbk, nbs, Vk.ext X, lk, Vs.ext X, ls, hnc, hc9, hck, cs⟩
theorem own_diE {Z : State} {h : Heap} {d : Addr} {n : Nat} {kf sf : Nat → Value} (D : DI Z h d n kf sf) : Exa Z h d "com/example/tailhead/tailhead/json/JsonDocument" := by
  obtain ⟨_, _, _, _, _, _, _, E, _⟩ := D; exact E
theorem own_o1 (o : Int32) (h : o = 0 ∨ o = 1) : ¬ (1 : Int32) < o := by rcases h with rfl | rfl <;> decide
def own_f0 : Nat → Value := fun _ => .null
def q0 (w : Value) (h : Heap) : Prop := w = .int 1
theorem pd_7 : parseMethodDescriptor "(I)V" = some ⟨[.int], none⟩ := by decide +kernel
theorem pd_8 : parseMethodDescriptor "(Lcom/example/tailhead/tailhead/json/JsonDocument$Kind;ZII)I" = some ⟨[(.object "com/example/tailhead/tailhead/json/JsonDocument$Kind"), .boolean, .int, .int], some .int⟩ := by decide +kernel
theorem pd_9 : parseMethodDescriptor "(II)V" = some ⟨[.int, .int], none⟩ := by decide +kernel
theorem pd_10 : parseMethodDescriptor "(Ljava/lang/String;)Lcom/example/tailhead/tailhead/json/JsonDocument;" = some ⟨[(.object "java/lang/String")], some (.object "com/example/tailhead/tailhead/json/JsonDocument")⟩ := by decide +kernel
theorem pd_11 : parseMethodDescriptor "(I)I" = some ⟨[.int], some .int⟩ := by decide +kernel
theorem ef_rm0 (m : MethodId) (x0 : Int32) (x1 : Int32) (x2 : Int32) (x3 : Int32) (x4 : Int32)  : entryFrame m #[(.int x0), (.int x1), (.int x2), (.int x3), (.int x4)] maxLocals = mkF m 0 #[.val (.int x0), .val (.int x1), .val (.int x2), .val (.int x3), .val (.int x4), .unset, .unset, .unset, .unset, .unset, .unset, .unset] [] := by first | (simp [entryFrame, mkF, argsToLocals, catI, catR, catJ, catN, maxLocals]; done) | rfl
theorem pn_7 : plainName "com/example/tailhead/tailhead/json/BuilderCompletePinLaw" = true := by first | (simp [plainName, overriddenIn]; done) | decide +kernel
set_option maxRecDepth 65536 in
set_option maxHeartbeats 4000000 in
theorem rm0 (l : Launch) (Z : State) (a0 : Array Value) (hw : ∀ d ∈ tables_1, d.before a0 Z = true) (p0 p1 p2 p3 p4 : Int32) (w_s_JsonDocument_Kind_OBJECT : Addr) (w_s_JsonDocument_Kind_ARRAY : Addr) (h0 : Heap) (O0 : Ext Z.heap h0) (S_s_JsonDocument_Kind_OBJECT : Sta Z Z.heap "com/example/tailhead/tailhead/json/JsonDocument$Kind" "OBJECT" "Lcom/example/tailhead/tailhead/json/JsonDocument$Kind;" (.ref w_s_JsonDocument_Kind_OBJECT)) (E_s_JsonDocument_Kind_OBJECT : Exa Z Z.heap w_s_JsonDocument_Kind_OBJECT "com/example/tailhead/tailhead/json/JsonDocument$Kind") (S_s_JsonDocument_Kind_ARRAY : Sta Z Z.heap "com/example/tailhead/tailhead/json/JsonDocument$Kind" "ARRAY" "Lcom/example/tailhead/tailhead/json/JsonDocument$Kind;" (.ref w_s_JsonDocument_Kind_ARRAY)) (E_s_JsonDocument_Kind_ARRAY : Exa Z Z.heap w_s_JsonDocument_Kind_ARRAY "com/example/tailhead/tailhead/json/JsonDocument$Kind") (F_s_JsonDocument_Kind_ARRAY_ordinal : Fld Z Z.heap w_s_JsonDocument_Kind_ARRAY "java/lang/Enum" "ordinal" "I" (.int (1 : Int32))) (F_s_JsonDocument_Kind_OBJECT_ordinal : Fld Z Z.heap w_s_JsonDocument_Kind_OBJECT "java/lang/Enum" "ordinal" "I" (.int (0 : Int32))) (S_s_JsonDocument_LAST_HOLDING : Sta Z Z.heap "com/example/tailhead/tailhead/json/JsonDocument" "LAST_HOLDING" "I" (.int (1 : Int32))) :
    Met1 true l Z x code maxLocals ret tables_1 room_1 #[(.int p0), (.int p1), (.int p2), (.int p3), (.int p4)] h0 (q0) := by
  refine met_body (plainFor_of_name pn_7) O0 ?_
  intro p e s m below meth ck T0 hx hby hml hret hlk hnm G0
  have hml : ck.maxLocals = 12 := hml
  refine Fz.entry (ef_rm0 m p0 p1 p2 p3 p4 ) ?_
  refine Jvm.Own.new G0 hx (hb hby at_0) (hw _ (List.mem_of_getElem? (i := 0) rfl)) (hw _ (List.mem_of_getElem? (i := 1) rfl)) (hw _ (List.mem_of_getElem? (i := 2) rfl)) (cells' := 1) rfl (by decide) (slots' := 3) rfl (by decide) (pc' := 3) rfl ?_
  intro T1 h1 b1 z1 G1 X1 E1 D1
  have ga_b1 : Z.heap.size ≤ b1 := ge_new G0.old z1
  have F2 : Fld Z h1 b1 "com/example/tailhead/tailhead/json/JsonDocument$Builder" "kinds" "[B" .null := D1 (Or.inl (hw _ (List.mem_of_getElem? (i := 11) rfl))) (ty := (.array .byte)) (by decide)
  have F3 : Fld Z h1 b1 "com/example/tailhead/tailhead/json/JsonDocument$Builder" "spans" "[I" .null := D1 (Or.inl (hw _ (List.mem_of_getElem? (i := 14) rfl))) (ty := (.array .int)) (by decide)
  have F4 : Fld Z h1 b1 "com/example/tailhead/tailhead/json/JsonDocument$Builder" "count" "I" (.int (0 : Int32)) := D1 (Or.inl (hw _ (List.mem_of_getElem? (i := 26) rfl))) (ty := .int) (by decide)
  refine Jvm.Own.dup G1.here hx (hb hby at_3) rfl (pc' := 4) rfl ?_
  refine Jvm.Own.iloadN G1.here hx (hb hby at_4) rfl (pc' := 5) rfl ?_
  refine Jvm.Own.iconst G1.here hx (hb hby at_5) (v := (3 : Int32)) rfl (pc' := 6) rfl ?_
  refine Jvm.Own.iand G1.here hx (hb hby at_6) (pc' := 7) rfl ?_
  obtain ⟨mm, hm, em⟩ := own_cap p0
  rw [em]
  refine Jvm.Own.callI0 (y := (⟨"com/example/tailhead/tailhead/json/JsonDocument$Builder", "<init>", "(I)V"⟩ : MethodName)) G1 hx (hb hby at_7) rfl (hw _ (List.mem_of_getElem? (i := 3) rfl)) (hw _ (List.mem_of_getElem? (i := 4) rfl)) (hw _ (List.mem_of_getElem? (i := 2) rfl)) (hw _ (List.mem_of_getElem? (i := 5) rfl)) (by decide) (rm_bi l Z a0 hw b1 mm own_f0 own_f0 h1 G1.old ga_b1 E1 F2 F3 F4 hm) (by decide) (W := 1) (by decide) (by rw [hml]; rfl) (argsL := [(.int (Int32.ofNat mm))]) (lenOf pd_7 rfl) rfl (Nat.le_of_eq rfl) (cells' := 3) rfl (by decide) (slots' := 12) rfl (by decide) (pc' := 10) rfl ?_
  intro T5 h5 G5 Q5
  have Bi5 : BI Z h5 b1 0 own_f0 own_f0 := Q5
  have E5 := own_biE Bi5
  refine Jvm.Own.astore G5.here hx (hb hby at_10) rfl (Ls' := #[.val (.int p0), .val (.int p1), .val (.int p2), .val (.int p3), .val (.int p4), .val (.ref b1), .unset, .unset, .unset, .unset, .unset, .unset]) rfl (pc' := 12) rfl ?_
  refine Jvm.Own.iloadN G5.here hx (hb hby at_12) rfl (pc' := 13) rfl ?_
  refine Jvm.Own.iconst G5.here hx (hb hby at_13) (v := (1 : Int32)) rfl (pc' := 14) rfl ?_
  refine Jvm.Own.iand G5.here hx (hb hby at_14) (pc' := 15) rfl ?_
  by_cases hc15 : (p1 &&& (1 : Int32)) = (0 : Int32)
  · skip
    refine Jvm.Own.ifY G5.here hx (hb hby at_15) ((if0 _ _).trans (teq hc15).1) (pc' := 22) (by decide) (by decide) ?_
    refine Jvm.Own.iconst G5.here hx (hb hby at_22) (v := (0 : Int32)) rfl (pc' := 23) rfl ?_
    refine Jvm.Own.istore G5.here hx (hb hby at_23) (Ls' := #[.val (.int p0), .val (.int p1), .val (.int p2), .val (.int p3), .val (.int p4), .val (.ref b1), .val (.int (0 : Int32)), .unset, .unset, .unset, .unset, .unset]) rfl (pc' := 25) rfl ?_
    refine Jvm.Own.iloadN G5.here hx (hb hby at_25) rfl (pc' := 26) rfl ?_
    refine Jvm.Own.iconst G5.here hx (hb hby at_26) (v := (2 : Int32)) rfl (pc' := 27) rfl ?_
    refine Jvm.Own.iand G5.here hx (hb hby at_27) (pc' := 28) rfl ?_
    have K6 : ∀ (T7 : State), Go true p l e room_1 s m #[(.int p0), (.int p1), (.int p2), (.int p3), (.int p4)] below meth ck Z "com/example/tailhead/tailhead/json/BuilderCompletePinLaw" T7 h5 3 12 → ∀ (kd : Addr) (o : Int32), (Exa Z Z.heap kd "com/example/tailhead/tailhead/json/JsonDocument$Kind") → (Fld Z Z.heap kd "java/lang/Enum" "ordinal" "I" (.int o)) → (o = 0 ∨ o = 1) → Fz true p e room_1 s below Z (fun v h' => ∃ w, v = some w ∧ q0 w h') (T7.setTop (mkF m 40 #[.val (.int p0), .val (.int p1), .val (.int p2), .val (.int p3), .val (.int p4), .val (.ref b1), .val (.int (0 : Int32)), .unset, .unset, .unset, .unset, .unset] [(.ref kd)])) := by
      intro T7 G7 kd o Ekd Fo ho
      refine Jvm.Own.astore G7.here hx (hb hby at_40) rfl (Ls' := #[.val (.int p0), .val (.int p1), .val (.int p2), .val (.int p3), .val (.int p4), .val (.ref b1), .val (.int (0 : Int32)), .val (.ref kd), .unset, .unset, .unset, .unset]) rfl (pc' := 42) rfl ?_
      refine Jvm.Own.iloadN G7.here hx (hb hby at_42) rfl (pc' := 43) rfl ?_
      refine Jvm.Own.iconst G7.here hx (hb hby at_43) (v := (2 : Int32)) rfl (pc' := 44) rfl ?_
      refine Jvm.Own.iushr G7.here hx (hb hby at_44) (pc' := 45) rfl ?_
      refine Jvm.Own.iconst G7.here hx (hb hby at_45) (v := (3 : Int32)) rfl (pc' := 46) rfl ?_
      refine Jvm.Own.iand G7.here hx (hb hby at_46) (pc' := 47) rfl ?_
      rcases own_and3 ((p1.toUInt32 >>> ((2 : Int32) &&& 31).toUInt32).toInt32) with ek | ek | ek | ek
      · rw [ek]
        refine Jvm.Own.istore G7.here hx (hb hby at_47) (Ls' := #[.val (.int p0), .val (.int p1), .val (.int p2), .val (.int p3), .val (.int p4), .val (.ref b1), .val (.int (0 : Int32)), .val (.ref kd), .val (.int (0 : Int32)), .unset, .unset, .unset]) rfl (pc' := 49) rfl ?_
        refine Jvm.Own.iload G7.here hx (hb hby at_49) rfl (pc' := 51) rfl ?_
        refine Jvm.Own.ifY G7.here hx (hb hby at_51) ((if0 _ _).trans (teq (by decide : (0 : Int32) = (0 : Int32))).1) (pc' := 67) (by decide) (by decide) ?_
        refine Jvm.Own.aload G7.here hx (hb hby at_67) rfl rfl (pc' := 69) rfl ?_
        refine Jvm.Own.aload G7.here hx (hb hby at_69) rfl rfl (pc' := 71) rfl ?_
        refine Jvm.Own.iconst G7.here hx (hb hby at_71) (v := (0 : Int32)) rfl (pc' := 72) rfl ?_
        refine Jvm.Own.iload G7.here hx (hb hby at_72) rfl (pc' := 74) rfl ?_
        refine Jvm.Own.iloadN G7.here hx (hb hby at_74) rfl (pc' := 75) rfl ?_
        refine Jvm.Own.callV1 (y := (⟨"com/example/tailhead/tailhead/json/JsonDocument$Builder", "add", "(Lcom/example/tailhead/tailhead/json/JsonDocument$Kind;ZII)I"⟩ : MethodName)) (z := (⟨"com/example/tailhead/tailhead/json/JsonDocument$Builder", "add", "(Lcom/example/tailhead/tailhead/json/JsonDocument$Kind;ZII)I"⟩ : MethodName)) G7 hx (hb hby at_75) (nfOf (y := (⟨"com/example/tailhead/tailhead/json/JsonDocument$Builder", "add", "(Lcom/example/tailhead/tailhead/json/JsonDocument$Kind;ZII)I"⟩ : MethodName)) (z := (⟨"com/example/tailhead/tailhead/json/JsonDocument$Builder", "add", "(Lcom/example/tailhead/tailhead/json/JsonDocument$Kind;ZII)I"⟩ : MethodName)) rfl (hw _ (List.mem_of_getElem? (i := 23) rfl))) (hw _ (List.mem_of_getElem? (i := 20) rfl)) (hw _ (List.mem_of_getElem? (i := 21) rfl)) (hw _ (List.mem_of_getElem? (i := 23) rfl)) (hw _ (List.mem_of_getElem? (i := 22) rfl)) (hw _ (List.mem_of_getElem? (i := 2) rfl)) (hw _ (List.mem_of_getElem? (i := 24) rfl)) (by decide) E5 (rm_ad l Z a0 hw b1 kd 0 own_f0 own_f0 o p4 p3 h5 G7.old Bi5 (by decide) Ekd Fo ho) (by decide) (W := 0) (by decide) (by rw [hml]; rfl) (argsL := [(.ref kd), (.int (0 : Int32)), (.int p4), (.int p3)]) (lenOf pd_8 rfl) rfl (Nat.le_of_eq rfl) (cells' := 5) rfl (by decide) (slots' := 39) rfl (by decide) (pc' := 78) rfl ?_
        intro T8 h8 r8 G8 Q8
        obtain ⟨hr8, Bz8⟩ := Q8
        subst hr8
        have Bi8 : BI Z h8 b1 1 (upd own_f0 0 (.int o)) (upd (upd own_f0 (2 * 0) (.int p4)) (2 * 0 + 1) (.int p3)) := Bz8
        have E8 := own_biE Bi8
        refine Jvm.Own.istore G8.here hx (hb hby at_78) (Ls' := #[.val (.int p0), .val (.int p1), .val (.int p2), .val (.int p3), .val (.int p4), .val (.ref b1), .val (.int (0 : Int32)), .val (.ref kd), .val (.int (0 : Int32)), .val (.int (Int32.ofNat 0)), .unset, .unset]) rfl (pc' := 80) rfl ?_
        refine Jvm.Own.iload G8.here hx (hb hby at_80) rfl (pc' := 82) rfl ?_
        refine Jvm.Own.iconst G8.here hx (hb hby at_82) (v := (1 : Int32)) rfl (pc' := 83) rfl ?_
        refine Jvm.Own.icmpY G8.here hx (hb hby at_83) (tlt (by decide : (0 : Int32) < (1 : Int32))).1 (pc' := 99) (by decide) (by decide) ?_
        refine Jvm.Own.iload G8.here hx (hb hby at_99) rfl (pc' := 101) rfl ?_
        refine Jvm.Own.iconst G8.here hx (hb hby at_101) (v := (2 : Int32)) rfl (pc' := 102) rfl ?_
        refine Jvm.Own.icmpY G8.here hx (hb hby at_102) (tlt (by decide : (0 : Int32) < (2 : Int32))).1 (pc' := 118) (by decide) (by decide) ?_
        refine Jvm.Own.iload G8.here hx (hb hby at_118) rfl (pc' := 120) rfl ?_
        refine Jvm.Own.iconst G8.here hx (hb hby at_120) (v := (3 : Int32)) rfl (pc' := 121) rfl ?_
        refine Jvm.Own.icmpY G8.here hx (hb hby at_121) (tlt (by decide : (0 : Int32) < (3 : Int32))).1 (pc' := 137) (by decide) (by decide) ?_
        refine Jvm.Own.aload G8.here hx (hb hby at_137) rfl rfl (pc' := 139) rfl ?_
        refine Jvm.Own.iload G8.here hx (hb hby at_139) rfl (pc' := 141) rfl ?_
        refine Jvm.Own.iloadN G8.here hx (hb hby at_141) rfl (pc' := 142) rfl ?_
        refine Jvm.Own.callV0 (y := (⟨"com/example/tailhead/tailhead/json/JsonDocument$Builder", "complete", "(II)V"⟩ : MethodName)) (z := (⟨"com/example/tailhead/tailhead/json/JsonDocument$Builder", "complete", "(II)V"⟩ : MethodName)) G8 hx (hb hby at_142) (nfOf (y := (⟨"com/example/tailhead/tailhead/json/JsonDocument$Builder", "complete", "(II)V"⟩ : MethodName)) (z := (⟨"com/example/tailhead/tailhead/json/JsonDocument$Builder", "add", "(Lcom/example/tailhead/tailhead/json/JsonDocument$Kind;ZII)I"⟩ : MethodName)) rfl (hw _ (List.mem_of_getElem? (i := 23) rfl))) (hw _ (List.mem_of_getElem? (i := 57) rfl)) (hw _ (List.mem_of_getElem? (i := 58) rfl)) (hw _ (List.mem_of_getElem? (i := 60) rfl)) (hw _ (List.mem_of_getElem? (i := 59) rfl)) (hw _ (List.mem_of_getElem? (i := 2) rfl)) (hw _ (List.mem_of_getElem? (i := 61) rfl)) (by decide) E8 (rm_co l Z a0 hw b1 1 0 (upd own_f0 0 (.int o)) (upd (upd own_f0 (2 * 0) (.int p4)) (2 * 0 + 1) (.int p3)) p2 h8 G8.old Bi8 (by decide)) (by decide) (W := 0) (by decide) (by rw [hml]; rfl) (argsL := [(.int (Int32.ofNat 0)), (.int p2)]) (lenOf pd_9 rfl) rfl (Nat.le_of_eq rfl) (cells' := 5) rfl (by decide) (slots' := 39) rfl (by decide) (pc' := 145) rfl ?_
        intro T9 h9 G9 Q9
        have Bi9 : BI Z h9 b1 1 (upd own_f0 0 (.int o)) (upd (upd (upd (upd own_f0 (2 * 0) (.int p4)) (2 * 0 + 1) (.int p3)) (2 * 0) (.int (Int32.ofNat 1))) (2 * 0 + 1) (.int p2)) := Q9
        have E9 := own_biE Bi9
        refine Jvm.Own.aload G9.here hx (hb hby at_145) rfl rfl (pc' := 147) rfl ?_
        refine Jvm.Own.ldcS (n := 0) rfl G9 hx (hb hby at_147) (hw _ (List.mem_of_getElem? (i := 62) rfl)) (own_wS hw) (by decide) (by decide) (cells' := 7) rfl (by decide) (slots' := 43) rfl (by decide) (pc' := 149) rfl ?_
        intro T10 h10 a10 G10 X10
        have E12 := (E9.ext X10)
        refine Jvm.Own.callV1 (y := (⟨"com/example/tailhead/tailhead/json/JsonDocument$Builder", "build", "(Ljava/lang/String;)Lcom/example/tailhead/tailhead/json/JsonDocument;"⟩ : MethodName)) (z := (⟨"com/example/tailhead/tailhead/json/JsonDocument$Builder", "build", "(Ljava/lang/String;)Lcom/example/tailhead/tailhead/json/JsonDocument;"⟩ : MethodName)) G10 hx (hb hby at_149) (nfOf (y := (⟨"com/example/tailhead/tailhead/json/JsonDocument$Builder", "build", "(Ljava/lang/String;)Lcom/example/tailhead/tailhead/json/JsonDocument;"⟩ : MethodName)) (z := (⟨"com/example/tailhead/tailhead/json/JsonDocument$Builder", "add", "(Lcom/example/tailhead/tailhead/json/JsonDocument$Kind;ZII)I"⟩ : MethodName)) rfl (hw _ (List.mem_of_getElem? (i := 23) rfl))) (hw _ (List.mem_of_getElem? (i := 69) rfl)) (hw _ (List.mem_of_getElem? (i := 70) rfl)) (hw _ (List.mem_of_getElem? (i := 72) rfl)) (hw _ (List.mem_of_getElem? (i := 71) rfl)) (hw _ (List.mem_of_getElem? (i := 2) rfl)) (hw _ (List.mem_of_getElem? (i := 73) rfl)) (by decide) E12 (rm_bu l Z a0 hw b1 a10 1 (upd own_f0 0 (.int o)) (upd (upd (upd (upd own_f0 (2 * 0) (.int p4)) (2 * 0 + 1) (.int p3)) (2 * 0) (.int (Int32.ofNat 1))) (2 * 0 + 1) (.int p2)) h10 G10.old (own_biX Bi9 X10)) (by decide) (W := 0) (by decide) (by rw [hml]; rfl) (argsL := [(.ref a10)]) (lenOf pd_10 rfl) rfl (Nat.le_of_eq rfl) (cells' := 9) rfl (by decide) (slots' := 559) rfl (by decide) (pc' := 152) rfl ?_
        intro T11 h11 r11 G11 Q11
        obtain ⟨d11, hr11, Di11⟩ := Q11
        subst hr11
        have E11 := own_diE Di11
        refine Jvm.Own.astore G11.here hx (hb hby at_152) rfl (Ls' := #[.val (.int p0), .val (.int p1), .val (.int p2), .val (.int p3), .val (.int p4), .val (.ref b1), .val (.int (0 : Int32)), .val (.ref kd), .val (.int (0 : Int32)), .val (.int (Int32.ofNat 0)), .val (.ref d11), .unset]) rfl (pc' := 154) rfl ?_
        refine Jvm.Own.iload G11.here hx (hb hby at_154) rfl (pc' := 156) rfl ?_
        refine Jvm.Own.iload G11.here hx (hb hby at_156) rfl (pc' := 158) rfl ?_
        refine Jvm.Own.ifY G11.here hx (hb hby at_158) ((if0 _ _).trans (teq (by decide : (0 : Int32) = (0 : Int32))).1) (pc' := 165) (by decide) (by decide) ?_
        refine Jvm.Own.iconst G11.here hx (hb hby at_165) (v := (0 : Int32)) rfl (pc' := 166) rfl ?_
        refine Jvm.Own.icmpN G11.here hx (hb hby at_166) (teq ((by decide) : (Int32.ofNat 0) = (0 : Int32))).2 (pc' := 169) rfl ?_
        refine Jvm.Own.iconst G11.here hx (hb hby at_169) (v := (1 : Int32)) rfl (pc' := 170) rfl ?_
        refine Jvm.Own.goto G11.here hx (hb hby at_170) (pc' := 174) (by decide) (by decide) ?_
        refine Jvm.Own.istore G11.here hx (hb hby at_174) (Ls' := #[.val (.int p0), .val (.int p1), .val (.int p2), .val (.int p3), .val (.int p4), .val (.ref b1), .val (.int (0 : Int32)), .val (.ref kd), .val (.int (0 : Int32)), .val (.int (Int32.ofNat 0)), .val (.ref d11), .val (.int (1 : Int32))]) rfl (pc' := 176) rfl ?_
        refine Jvm.Own.iload G11.here hx (hb hby at_176) rfl (pc' := 178) rfl ?_
        refine Jvm.Own.ifN G11.here hx (hb hby at_178) ((if0 _ _).trans (feq (by decide : ¬ (1 : Int32) = (0 : Int32))).1) (pc' := 181) rfl ?_
        refine Jvm.Own.aload G11.here hx (hb hby at_181) rfl rfl (pc' := 183) rfl ?_
        refine Jvm.Own.iload G11.here hx (hb hby at_183) rfl (pc' := 185) rfl ?_
        refine Jvm.Own.callVP (y := (⟨"com/example/tailhead/tailhead/json/JsonDocument", "size", "(I)I"⟩ : MethodName)) (z := (⟨"com/example/tailhead/tailhead/json/JsonDocument", "size", "(I)I"⟩ : MethodName)) G11 hx (hb hby at_185) (nfOf (y := (⟨"com/example/tailhead/tailhead/json/JsonDocument", "size", "(I)I"⟩ : MethodName)) (z := (⟨"com/example/tailhead/tailhead/json/JsonDocument", "size", "(I)I"⟩ : MethodName)) rfl (hw _ (List.mem_of_getElem? (i := 96) rfl))) (hw _ (List.mem_of_getElem? (i := 93) rfl)) (hw _ (List.mem_of_getElem? (i := 94) rfl)) (hw _ (List.mem_of_getElem? (i := 96) rfl)) (hw _ (List.mem_of_getElem? (i := 95) rfl)) (hw _ (List.mem_of_getElem? (i := 76) rfl)) (hw _ (List.mem_of_getElem? (i := 97) rfl)) (by decide) E11 (rm_sz l Z a0 hw d11 1 0 (upd own_f0 0 (.int o)) (upd (upd (upd (upd own_f0 (2 * 0) (.int p4)) (2 * 0 + 1) (.int p3)) (2 * 0) (.int (Int32.ofNat 1))) (2 * 0 + 1) (.int p2)) p2 h11 G11.old Di11 (by decide) (by simp [upd])) (by decide) (W := 0) (by decide) (by rw [hml]; rfl) (argsL := [(.int (Int32.ofNat 0))]) (lenOf pd_11 rfl) rfl (Nat.le_of_eq rfl) (cells' := 9) rfl (by decide) (slots' := 559) rfl (by decide) (pc' := 188) rfl ?_
        intro T13 r13 G13 Q13
        obtain rfl : r13 = .int p2 := Q13
        refine Jvm.Own.iloadN G13.here hx (hb hby at_188) rfl (pc' := 189) rfl ?_
        refine Jvm.Own.icmpN G13.here hx (hb hby at_189) (teq (rfl : p2 = p2)).2 (pc' := 192) rfl ?_
        refine Jvm.Own.aload G13.here hx (hb hby at_192) rfl rfl (pc' := 194) rfl ?_
        refine Jvm.Own.iload G13.here hx (hb hby at_194) rfl (pc' := 196) rfl ?_
        refine Jvm.Own.callVP (y := (⟨"com/example/tailhead/tailhead/json/JsonDocument", "next", "(I)I"⟩ : MethodName)) (z := (⟨"com/example/tailhead/tailhead/json/JsonDocument", "next", "(I)I"⟩ : MethodName)) G13 hx (hb hby at_196) (nfOf (y := (⟨"com/example/tailhead/tailhead/json/JsonDocument", "next", "(I)I"⟩ : MethodName)) (z := (⟨"com/example/tailhead/tailhead/json/JsonDocument", "size", "(I)I"⟩ : MethodName)) rfl (hw _ (List.mem_of_getElem? (i := 96) rfl))) (hw _ (List.mem_of_getElem? (i := 98) rfl)) (hw _ (List.mem_of_getElem? (i := 99) rfl)) (hw _ (List.mem_of_getElem? (i := 101) rfl)) (hw _ (List.mem_of_getElem? (i := 100) rfl)) (hw _ (List.mem_of_getElem? (i := 76) rfl)) (hw _ (List.mem_of_getElem? (i := 102) rfl)) (by decide) E11 (rm_nx l Z a0 hw d11 1 0 (upd own_f0 0 (.int o)) (upd (upd (upd (upd own_f0 (2 * 0) (.int p4)) (2 * 0 + 1) (.int p3)) (2 * 0) (.int (Int32.ofNat 1))) (2 * 0 + 1) (.int p2)) o (Int32.ofNat 1) w_s_JsonDocument_Kind_OBJECT w_s_JsonDocument_Kind_ARRAY h11 G13.old Di11 (by decide) (by simp [upd]) (own_o1 o ho) (by simp [upd]) S_s_JsonDocument_Kind_OBJECT E_s_JsonDocument_Kind_OBJECT S_s_JsonDocument_Kind_ARRAY E_s_JsonDocument_Kind_ARRAY F_s_JsonDocument_Kind_ARRAY_ordinal F_s_JsonDocument_Kind_OBJECT_ordinal S_s_JsonDocument_LAST_HOLDING) (by decide) (W := 0) (by decide) (by rw [hml]; rfl) (argsL := [(.int (Int32.ofNat 0))]) (lenOf pd_11 rfl) rfl (Nat.le_of_eq rfl) (cells' := 9) rfl (by decide) (slots' := 559) rfl (by decide) (pc' := 199) rfl ?_
        intro T14 r14 G14 Q14
        obtain rfl : r14 = .int (Int32.ofNat 1) := Q14
        refine Jvm.Own.iload G14.here hx (hb hby at_199) rfl (pc' := 201) rfl ?_
        refine Jvm.Own.iconst G14.here hx (hb hby at_201) (v := (1 : Int32)) rfl (pc' := 202) rfl ?_
        refine Jvm.Own.iadd G14.here hx (hb hby at_202) (pc' := 203) rfl ?_
        refine Jvm.Own.iload G14.here hx (hb hby at_203) rfl (pc' := 205) rfl ?_
        refine Jvm.Own.iadd G14.here hx (hb hby at_205) (pc' := 206) rfl ?_
        refine Jvm.Own.icmpN G14.here hx (hb hby at_206) (teq ((by decide) : (Int32.ofNat 1) = (((Int32.ofNat 0) + (1 : Int32)) + (0 : Int32)))).2 (pc' := 209) rfl ?_
        refine Jvm.Own.iconst G14.here hx (hb hby at_209) (v := (1 : Int32)) rfl (pc' := 210) rfl ?_
        refine Jvm.Own.goto G14.here hx (hb hby at_210) (pc' := 214) (by decide) (by decide) ?_
        refine Jvm.Own.istore G14.here hx (hb hby at_214) (Ls' := #[.val (.int p0), .val (.int p1), .val (.int p2), .val (.int p3), .val (.int p4), .val (.ref b1), .val (.int (0 : Int32)), .val (.ref kd), .val (.int (0 : Int32)), .val (.int (Int32.ofNat 0)), .val (.ref d11), .val (.int (1 : Int32))]) rfl (pc' := 216) rfl ?_
        refine Jvm.Own.iload G14.here hx (hb hby at_216) rfl (pc' := 218) rfl ?_
        refine Jvm.Own.ifY G14.here hx (hb hby at_218) ((if0 _ _).trans (teq (by decide : (0 : Int32) = (0 : Int32))).1) (pc' := 247) (by decide) (by decide) ?_
        refine Jvm.Own.iload G14.here hx (hb hby at_247) rfl (pc' := 249) rfl ?_
        refine Jvm.Own.iconst G14.here hx (hb hby at_249) (v := (1 : Int32)) rfl (pc' := 250) rfl ?_
        refine Jvm.Own.icmpY G14.here hx (hb hby at_250) (tlt (by decide : (0 : Int32) < (1 : Int32))).1 (pc' := 278) (by decide) (by decide) ?_
        refine Jvm.Own.iload G14.here hx (hb hby at_278) rfl (pc' := 280) rfl ?_
        exact Jvm.Own.retI G14 hx (hb hby at_280) hret hlk (by simp) rfl (by decide) (by decide) ⟨_, rfl, rfl⟩
      · rw [ek]
        refine Jvm.Own.istore G7.here hx (hb hby at_47) (Ls' := #[.val (.int p0), .val (.int p1), .val (.int p2), .val (.int p3), .val (.int p4), .val (.ref b1), .val (.int (0 : Int32)), .val (.ref kd), .val (.int (1 : Int32)), .unset, .unset, .unset]) rfl (pc' := 49) rfl ?_
        refine Jvm.Own.iload G7.here hx (hb hby at_49) rfl (pc' := 51) rfl ?_
        refine Jvm.Own.ifY G7.here hx (hb hby at_51) ((if0 _ _).trans (teq (by decide : (0 : Int32) = (0 : Int32))).1) (pc' := 67) (by decide) (by decide) ?_
        refine Jvm.Own.aload G7.here hx (hb hby at_67) rfl rfl (pc' := 69) rfl ?_
        refine Jvm.Own.aload G7.here hx (hb hby at_69) rfl rfl (pc' := 71) rfl ?_
        refine Jvm.Own.iconst G7.here hx (hb hby at_71) (v := (0 : Int32)) rfl (pc' := 72) rfl ?_
        refine Jvm.Own.iload G7.here hx (hb hby at_72) rfl (pc' := 74) rfl ?_
        refine Jvm.Own.iloadN G7.here hx (hb hby at_74) rfl (pc' := 75) rfl ?_
        refine Jvm.Own.callV1 (y := (⟨"com/example/tailhead/tailhead/json/JsonDocument$Builder", "add", "(Lcom/example/tailhead/tailhead/json/JsonDocument$Kind;ZII)I"⟩ : MethodName)) (z := (⟨"com/example/tailhead/tailhead/json/JsonDocument$Builder", "add", "(Lcom/example/tailhead/tailhead/json/JsonDocument$Kind;ZII)I"⟩ : MethodName)) G7 hx (hb hby at_75) (nfOf (y := (⟨"com/example/tailhead/tailhead/json/JsonDocument$Builder", "add", "(Lcom/example/tailhead/tailhead/json/JsonDocument$Kind;ZII)I"⟩ : MethodName)) (z := (⟨"com/example/tailhead/tailhead/json/JsonDocument$Builder", "add", "(Lcom/example/tailhead/tailhead/json/JsonDocument$Kind;ZII)I"⟩ : MethodName)) rfl (hw _ (List.mem_of_getElem? (i := 23) rfl))) (hw _ (List.mem_of_getElem? (i := 20) rfl)) (hw _ (List.mem_of_getElem? (i := 21) rfl)) (hw _ (List.mem_of_getElem? (i := 23) rfl)) (hw _ (List.mem_of_getElem? (i := 22) rfl)) (hw _ (List.mem_of_getElem? (i := 2) rfl)) (hw _ (List.mem_of_getElem? (i := 24) rfl)) (by decide) E5 (rm_ad l Z a0 hw b1 kd 0 own_f0 own_f0 o p4 p3 h5 G7.old Bi5 (by decide) Ekd Fo ho) (by decide) (W := 0) (by decide) (by rw [hml]; rfl) (argsL := [(.ref kd), (.int (0 : Int32)), (.int p4), (.int p3)]) (lenOf pd_8 rfl) rfl (Nat.le_of_eq rfl) (cells' := 5) rfl (by decide) (slots' := 39) rfl (by decide) (pc' := 78) rfl ?_
        intro T15 h15 r15 G15 Q15
        obtain ⟨hr15, Bz15⟩ := Q15
        subst hr15
        have Bi15 : BI Z h15 b1 1 (upd own_f0 0 (.int o)) (upd (upd own_f0 (2 * 0) (.int p4)) (2 * 0 + 1) (.int p3)) := Bz15
        have E15 := own_biE Bi15
        refine Jvm.Own.istore G15.here hx (hb hby at_78) (Ls' := #[.val (.int p0), .val (.int p1), .val (.int p2), .val (.int p3), .val (.int p4), .val (.ref b1), .val (.int (0 : Int32)), .val (.ref kd), .val (.int (1 : Int32)), .val (.int (Int32.ofNat 0)), .unset, .unset]) rfl (pc' := 80) rfl ?_
        refine Jvm.Own.iload G15.here hx (hb hby at_80) rfl (pc' := 82) rfl ?_
        refine Jvm.Own.iconst G15.here hx (hb hby at_82) (v := (1 : Int32)) rfl (pc' := 83) rfl ?_
        refine Jvm.Own.icmpN G15.here hx (hb hby at_83) (flt (by decide : ¬ (1 : Int32) < (1 : Int32))).1 (pc' := 86) rfl ?_
        refine Jvm.Own.aload G15.here hx (hb hby at_86) rfl rfl (pc' := 88) rfl ?_
        refine Jvm.Own.getstatic G15 hx (hb hby at_88) (host := "") (Or.inl (hw _ (List.mem_of_getElem? (i := 18) rfl))) Via.refl S_s_JsonDocument_Kind_ARRAY (pc' := 91) rfl ?_
        intro T16 G16
        refine Jvm.Own.iconst G16.here hx (hb hby at_91) (v := (0 : Int32)) rfl (pc' := 92) rfl ?_
        refine Jvm.Own.iloadN G16.here hx (hb hby at_92) rfl (pc' := 93) rfl ?_
        refine Jvm.Own.iload G16.here hx (hb hby at_93) rfl (pc' := 95) rfl ?_
        refine Jvm.Own.callV1 (y := (⟨"com/example/tailhead/tailhead/json/JsonDocument$Builder", "add", "(Lcom/example/tailhead/tailhead/json/JsonDocument$Kind;ZII)I"⟩ : MethodName)) (z := (⟨"com/example/tailhead/tailhead/json/JsonDocument$Builder", "add", "(Lcom/example/tailhead/tailhead/json/JsonDocument$Kind;ZII)I"⟩ : MethodName)) G16 hx (hb hby at_95) (nfOf (y := (⟨"com/example/tailhead/tailhead/json/JsonDocument$Builder", "add", "(Lcom/example/tailhead/tailhead/json/JsonDocument$Kind;ZII)I"⟩ : MethodName)) (z := (⟨"com/example/tailhead/tailhead/json/JsonDocument$Builder", "add", "(Lcom/example/tailhead/tailhead/json/JsonDocument$Kind;ZII)I"⟩ : MethodName)) rfl (hw _ (List.mem_of_getElem? (i := 23) rfl))) (hw _ (List.mem_of_getElem? (i := 20) rfl)) (hw _ (List.mem_of_getElem? (i := 21) rfl)) (hw _ (List.mem_of_getElem? (i := 23) rfl)) (hw _ (List.mem_of_getElem? (i := 22) rfl)) (hw _ (List.mem_of_getElem? (i := 2) rfl)) (hw _ (List.mem_of_getElem? (i := 24) rfl)) (by decide) E15 (rm_ad l Z a0 hw b1 w_s_JsonDocument_Kind_ARRAY 1 (upd own_f0 0 (.int o)) (upd (upd own_f0 (2 * 0) (.int p4)) (2 * 0 + 1) (.int p3)) (1 : Int32) p3 p4 h15 G16.old Bi15 (by decide) E_s_JsonDocument_Kind_ARRAY F_s_JsonDocument_Kind_ARRAY_ordinal (Or.inr rfl)) (by decide) (W := 0) (by decide) (by rw [hml]; rfl) (argsL := [(.ref w_s_JsonDocument_Kind_ARRAY), (.int (0 : Int32)), (.int p3), (.int p4)]) (lenOf pd_8 rfl) rfl (Nat.le_of_eq rfl) (cells' := 7) rfl (by decide) (slots' := 66) rfl (by decide) (pc' := 98) rfl ?_
        intro T17 h17 r17 G17 Q17
        obtain ⟨hr17, Bz17⟩ := Q17
        subst hr17
        have Bi17 : BI Z h17 b1 2 (upd (upd own_f0 0 (.int o)) 1 (.int (1 : Int32))) (upd (upd (upd (upd own_f0 (2 * 0) (.int p4)) (2 * 0 + 1) (.int p3)) (2 * 1) (.int p3)) (2 * 1 + 1) (.int p4)) := Bz17
        have E17 := own_biE Bi17
        refine Jvm.Own.pop G17.here hx (hb hby at_98) rfl (pc' := 99) rfl ?_
        refine Jvm.Own.iload G17.here hx (hb hby at_99) rfl (pc' := 101) rfl ?_
        refine Jvm.Own.iconst G17.here hx (hb hby at_101) (v := (2 : Int32)) rfl (pc' := 102) rfl ?_
        refine Jvm.Own.icmpY G17.here hx (hb hby at_102) (tlt (by decide : (1 : Int32) < (2 : Int32))).1 (pc' := 118) (by decide) (by decide) ?_
        refine Jvm.Own.iload G17.here hx (hb hby at_118) rfl (pc' := 120) rfl ?_
        refine Jvm.Own.iconst G17.here hx (hb hby at_120) (v := (3 : Int32)) rfl (pc' := 121) rfl ?_
        refine Jvm.Own.icmpY G17.here hx (hb hby at_121) (tlt (by decide : (1 : Int32) < (3 : Int32))).1 (pc' := 137) (by decide) (by decide) ?_
        refine Jvm.Own.aload G17.here hx (hb hby at_137) rfl rfl (pc' := 139) rfl ?_
        refine Jvm.Own.iload G17.here hx (hb hby at_139) rfl (pc' := 141) rfl ?_
        refine Jvm.Own.iloadN G17.here hx (hb hby at_141) rfl (pc' := 142) rfl ?_
        refine Jvm.Own.callV0 (y := (⟨"com/example/tailhead/tailhead/json/JsonDocument$Builder", "complete", "(II)V"⟩ : MethodName)) (z := (⟨"com/example/tailhead/tailhead/json/JsonDocument$Builder", "complete", "(II)V"⟩ : MethodName)) G17 hx (hb hby at_142) (nfOf (y := (⟨"com/example/tailhead/tailhead/json/JsonDocument$Builder", "complete", "(II)V"⟩ : MethodName)) (z := (⟨"com/example/tailhead/tailhead/json/JsonDocument$Builder", "add", "(Lcom/example/tailhead/tailhead/json/JsonDocument$Kind;ZII)I"⟩ : MethodName)) rfl (hw _ (List.mem_of_getElem? (i := 23) rfl))) (hw _ (List.mem_of_getElem? (i := 57) rfl)) (hw _ (List.mem_of_getElem? (i := 58) rfl)) (hw _ (List.mem_of_getElem? (i := 60) rfl)) (hw _ (List.mem_of_getElem? (i := 59) rfl)) (hw _ (List.mem_of_getElem? (i := 2) rfl)) (hw _ (List.mem_of_getElem? (i := 61) rfl)) (by decide) E17 (rm_co l Z a0 hw b1 2 0 (upd (upd own_f0 0 (.int o)) 1 (.int (1 : Int32))) (upd (upd (upd (upd own_f0 (2 * 0) (.int p4)) (2 * 0 + 1) (.int p3)) (2 * 1) (.int p3)) (2 * 1 + 1) (.int p4)) p2 h17 G17.old Bi17 (by decide)) (by decide) (W := 0) (by decide) (by rw [hml]; rfl) (argsL := [(.int (Int32.ofNat 0)), (.int p2)]) (lenOf pd_9 rfl) rfl (Nat.le_of_eq rfl) (cells' := 7) rfl (by decide) (slots' := 66) rfl (by decide) (pc' := 145) rfl ?_
        intro T18 h18 G18 Q18
        have Bi18 : BI Z h18 b1 2 (upd (upd own_f0 0 (.int o)) 1 (.int (1 : Int32))) (upd (upd (upd (upd (upd (upd own_f0 (2 * 0) (.int p4)) (2 * 0 + 1) (.int p3)) (2 * 1) (.int p3)) (2 * 1 + 1) (.int p4)) (2 * 0) (.int (Int32.ofNat 2))) (2 * 0 + 1) (.int p2)) := Q18
        have E18 := own_biE Bi18
        refine Jvm.Own.aload G18.here hx (hb hby at_145) rfl rfl (pc' := 147) rfl ?_
        refine Jvm.Own.ldcS (n := 0) rfl G18 hx (hb hby at_147) (hw _ (List.mem_of_getElem? (i := 62) rfl)) (own_wS hw) (by decide) (by decide) (cells' := 9) rfl (by decide) (slots' := 70) rfl (by decide) (pc' := 149) rfl ?_
        intro T19 h19 a19 G19 X19
        have E21 := (E18.ext X19)
        refine Jvm.Own.callV1 (y := (⟨"com/example/tailhead/tailhead/json/JsonDocument$Builder", "build", "(Ljava/lang/String;)Lcom/example/tailhead/tailhead/json/JsonDocument;"⟩ : MethodName)) (z := (⟨"com/example/tailhead/tailhead/json/JsonDocument$Builder", "build", "(Ljava/lang/String;)Lcom/example/tailhead/tailhead/json/JsonDocument;"⟩ : MethodName)) G19 hx (hb hby at_149) (nfOf (y := (⟨"com/example/tailhead/tailhead/json/JsonDocument$Builder", "build", "(Ljava/lang/String;)Lcom/example/tailhead/tailhead/json/JsonDocument;"⟩ : MethodName)) (z := (⟨"com/example/tailhead/tailhead/json/JsonDocument$Builder", "add", "(Lcom/example/tailhead/tailhead/json/JsonDocument$Kind;ZII)I"⟩ : MethodName)) rfl (hw _ (List.mem_of_getElem? (i := 23) rfl))) (hw _ (List.mem_of_getElem? (i := 69) rfl)) (hw _ (List.mem_of_getElem? (i := 70) rfl)) (hw _ (List.mem_of_getElem? (i := 72) rfl)) (hw _ (List.mem_of_getElem? (i := 71) rfl)) (hw _ (List.mem_of_getElem? (i := 2) rfl)) (hw _ (List.mem_of_getElem? (i := 73) rfl)) (by decide) E21 (rm_bu l Z a0 hw b1 a19 2 (upd (upd own_f0 0 (.int o)) 1 (.int (1 : Int32))) (upd (upd (upd (upd (upd (upd own_f0 (2 * 0) (.int p4)) (2 * 0 + 1) (.int p3)) (2 * 1) (.int p3)) (2 * 1 + 1) (.int p4)) (2 * 0) (.int (Int32.ofNat 2))) (2 * 0 + 1) (.int p2)) h19 G19.old (own_biX Bi18 X19)) (by decide) (W := 0) (by decide) (by rw [hml]; rfl) (argsL := [(.ref a19)]) (lenOf pd_10 rfl) rfl (Nat.le_of_eq rfl) (cells' := 11) rfl (by decide) (slots' := 586) rfl (by decide) (pc' := 152) rfl ?_
        intro T20 h20 r20 G20 Q20
        obtain ⟨d20, hr20, Di20⟩ := Q20
        subst hr20
        have E20 := own_diE Di20
        refine Jvm.Own.astore G20.here hx (hb hby at_152) rfl (Ls' := #[.val (.int p0), .val (.int p1), .val (.int p2), .val (.int p3), .val (.int p4), .val (.ref b1), .val (.int (0 : Int32)), .val (.ref kd), .val (.int (1 : Int32)), .val (.int (Int32.ofNat 0)), .val (.ref d20), .unset]) rfl (pc' := 154) rfl ?_
        refine Jvm.Own.iload G20.here hx (hb hby at_154) rfl (pc' := 156) rfl ?_
        refine Jvm.Own.iload G20.here hx (hb hby at_156) rfl (pc' := 158) rfl ?_
        refine Jvm.Own.ifY G20.here hx (hb hby at_158) ((if0 _ _).trans (teq (by decide : (0 : Int32) = (0 : Int32))).1) (pc' := 165) (by decide) (by decide) ?_
        refine Jvm.Own.iconst G20.here hx (hb hby at_165) (v := (0 : Int32)) rfl (pc' := 166) rfl ?_
        refine Jvm.Own.icmpN G20.here hx (hb hby at_166) (teq ((by decide) : (Int32.ofNat 0) = (0 : Int32))).2 (pc' := 169) rfl ?_
        refine Jvm.Own.iconst G20.here hx (hb hby at_169) (v := (1 : Int32)) rfl (pc' := 170) rfl ?_
        refine Jvm.Own.goto G20.here hx (hb hby at_170) (pc' := 174) (by decide) (by decide) ?_
        refine Jvm.Own.istore G20.here hx (hb hby at_174) (Ls' := #[.val (.int p0), .val (.int p1), .val (.int p2), .val (.int p3), .val (.int p4), .val (.ref b1), .val (.int (0 : Int32)), .val (.ref kd), .val (.int (1 : Int32)), .val (.int (Int32.ofNat 0)), .val (.ref d20), .val (.int (1 : Int32))]) rfl (pc' := 176) rfl ?_
        refine Jvm.Own.iload G20.here hx (hb hby at_176) rfl (pc' := 178) rfl ?_
        refine Jvm.Own.ifN G20.here hx (hb hby at_178) ((if0 _ _).trans (feq (by decide : ¬ (1 : Int32) = (0 : Int32))).1) (pc' := 181) rfl ?_
        refine Jvm.Own.aload G20.here hx (hb hby at_181) rfl rfl (pc' := 183) rfl ?_
        refine Jvm.Own.iload G20.here hx (hb hby at_183) rfl (pc' := 185) rfl ?_
        refine Jvm.Own.callVP (y := (⟨"com/example/tailhead/tailhead/json/JsonDocument", "size", "(I)I"⟩ : MethodName)) (z := (⟨"com/example/tailhead/tailhead/json/JsonDocument", "size", "(I)I"⟩ : MethodName)) G20 hx (hb hby at_185) (nfOf (y := (⟨"com/example/tailhead/tailhead/json/JsonDocument", "size", "(I)I"⟩ : MethodName)) (z := (⟨"com/example/tailhead/tailhead/json/JsonDocument", "size", "(I)I"⟩ : MethodName)) rfl (hw _ (List.mem_of_getElem? (i := 96) rfl))) (hw _ (List.mem_of_getElem? (i := 93) rfl)) (hw _ (List.mem_of_getElem? (i := 94) rfl)) (hw _ (List.mem_of_getElem? (i := 96) rfl)) (hw _ (List.mem_of_getElem? (i := 95) rfl)) (hw _ (List.mem_of_getElem? (i := 76) rfl)) (hw _ (List.mem_of_getElem? (i := 97) rfl)) (by decide) E20 (rm_sz l Z a0 hw d20 2 0 (upd (upd own_f0 0 (.int o)) 1 (.int (1 : Int32))) (upd (upd (upd (upd (upd (upd own_f0 (2 * 0) (.int p4)) (2 * 0 + 1) (.int p3)) (2 * 1) (.int p3)) (2 * 1 + 1) (.int p4)) (2 * 0) (.int (Int32.ofNat 2))) (2 * 0 + 1) (.int p2)) p2 h20 G20.old Di20 (by decide) (by simp [upd])) (by decide) (W := 0) (by decide) (by rw [hml]; rfl) (argsL := [(.int (Int32.ofNat 0))]) (lenOf pd_11 rfl) rfl (Nat.le_of_eq rfl) (cells' := 11) rfl (by decide) (slots' := 586) rfl (by decide) (pc' := 188) rfl ?_
        intro T22 r22 G22 Q22
        obtain rfl : r22 = .int p2 := Q22
        refine Jvm.Own.iloadN G22.here hx (hb hby at_188) rfl (pc' := 189) rfl ?_
        refine Jvm.Own.icmpN G22.here hx (hb hby at_189) (teq (rfl : p2 = p2)).2 (pc' := 192) rfl ?_
        refine Jvm.Own.aload G22.here hx (hb hby at_192) rfl rfl (pc' := 194) rfl ?_
        refine Jvm.Own.iload G22.here hx (hb hby at_194) rfl (pc' := 196) rfl ?_
        refine Jvm.Own.callVP (y := (⟨"com/example/tailhead/tailhead/json/JsonDocument", "next", "(I)I"⟩ : MethodName)) (z := (⟨"com/example/tailhead/tailhead/json/JsonDocument", "next", "(I)I"⟩ : MethodName)) G22 hx (hb hby at_196) (nfOf (y := (⟨"com/example/tailhead/tailhead/json/JsonDocument", "next", "(I)I"⟩ : MethodName)) (z := (⟨"com/example/tailhead/tailhead/json/JsonDocument", "size", "(I)I"⟩ : MethodName)) rfl (hw _ (List.mem_of_getElem? (i := 96) rfl))) (hw _ (List.mem_of_getElem? (i := 98) rfl)) (hw _ (List.mem_of_getElem? (i := 99) rfl)) (hw _ (List.mem_of_getElem? (i := 101) rfl)) (hw _ (List.mem_of_getElem? (i := 100) rfl)) (hw _ (List.mem_of_getElem? (i := 76) rfl)) (hw _ (List.mem_of_getElem? (i := 102) rfl)) (by decide) E20 (rm_nx l Z a0 hw d20 2 0 (upd (upd own_f0 0 (.int o)) 1 (.int (1 : Int32))) (upd (upd (upd (upd (upd (upd own_f0 (2 * 0) (.int p4)) (2 * 0 + 1) (.int p3)) (2 * 1) (.int p3)) (2 * 1 + 1) (.int p4)) (2 * 0) (.int (Int32.ofNat 2))) (2 * 0 + 1) (.int p2)) o (Int32.ofNat 2) w_s_JsonDocument_Kind_OBJECT w_s_JsonDocument_Kind_ARRAY h20 G22.old Di20 (by decide) (by simp [upd]) (own_o1 o ho) (by simp [upd]) S_s_JsonDocument_Kind_OBJECT E_s_JsonDocument_Kind_OBJECT S_s_JsonDocument_Kind_ARRAY E_s_JsonDocument_Kind_ARRAY F_s_JsonDocument_Kind_ARRAY_ordinal F_s_JsonDocument_Kind_OBJECT_ordinal S_s_JsonDocument_LAST_HOLDING) (by decide) (W := 0) (by decide) (by rw [hml]; rfl) (argsL := [(.int (Int32.ofNat 0))]) (lenOf pd_11 rfl) rfl (Nat.le_of_eq rfl) (cells' := 11) rfl (by decide) (slots' := 586) rfl (by decide) (pc' := 199) rfl ?_
        intro T23 r23 G23 Q23
        obtain rfl : r23 = .int (Int32.ofNat 2) := Q23
        refine Jvm.Own.iload G23.here hx (hb hby at_199) rfl (pc' := 201) rfl ?_
        refine Jvm.Own.iconst G23.here hx (hb hby at_201) (v := (1 : Int32)) rfl (pc' := 202) rfl ?_
        refine Jvm.Own.iadd G23.here hx (hb hby at_202) (pc' := 203) rfl ?_
        refine Jvm.Own.iload G23.here hx (hb hby at_203) rfl (pc' := 205) rfl ?_
        refine Jvm.Own.iadd G23.here hx (hb hby at_205) (pc' := 206) rfl ?_
        refine Jvm.Own.icmpN G23.here hx (hb hby at_206) (teq ((by decide) : (Int32.ofNat 2) = (((Int32.ofNat 0) + (1 : Int32)) + (1 : Int32)))).2 (pc' := 209) rfl ?_
        refine Jvm.Own.iconst G23.here hx (hb hby at_209) (v := (1 : Int32)) rfl (pc' := 210) rfl ?_
        refine Jvm.Own.goto G23.here hx (hb hby at_210) (pc' := 214) (by decide) (by decide) ?_
        refine Jvm.Own.istore G23.here hx (hb hby at_214) (Ls' := #[.val (.int p0), .val (.int p1), .val (.int p2), .val (.int p3), .val (.int p4), .val (.ref b1), .val (.int (0 : Int32)), .val (.ref kd), .val (.int (1 : Int32)), .val (.int (Int32.ofNat 0)), .val (.ref d20), .val (.int (1 : Int32))]) rfl (pc' := 216) rfl ?_
        refine Jvm.Own.iload G23.here hx (hb hby at_216) rfl (pc' := 218) rfl ?_
        refine Jvm.Own.ifY G23.here hx (hb hby at_218) ((if0 _ _).trans (teq (by decide : (0 : Int32) = (0 : Int32))).1) (pc' := 247) (by decide) (by decide) ?_
        refine Jvm.Own.iload G23.here hx (hb hby at_247) rfl (pc' := 249) rfl ?_
        refine Jvm.Own.iconst G23.here hx (hb hby at_249) (v := (1 : Int32)) rfl (pc' := 250) rfl ?_
        refine Jvm.Own.icmpN G23.here hx (hb hby at_250) (flt (by decide : ¬ (1 : Int32) < (1 : Int32))).1 (pc' := 253) rfl ?_
        refine Jvm.Own.iload G23.here hx (hb hby at_253) rfl (pc' := 255) rfl ?_
        refine Jvm.Own.ifN G23.here hx (hb hby at_255) ((if0 _ _).trans (feq (by decide : ¬ (1 : Int32) = (0 : Int32))).1) (pc' := 258) rfl ?_
        refine Jvm.Own.aload G23.here hx (hb hby at_258) rfl rfl (pc' := 260) rfl ?_
        refine Jvm.Own.iload G23.here hx (hb hby at_260) rfl (pc' := 262) rfl ?_
        refine Jvm.Own.iconst G23.here hx (hb hby at_262) (v := (1 : Int32)) rfl (pc' := 263) rfl ?_
        refine Jvm.Own.iadd G23.here hx (hb hby at_263) (pc' := 264) rfl ?_
        rw [show (Int32.ofNat 0 + (1 : Int32)) = Int32.ofNat 1 from by decide]
        refine Jvm.Own.callVP (y := (⟨"com/example/tailhead/tailhead/json/JsonDocument", "next", "(I)I"⟩ : MethodName)) (z := (⟨"com/example/tailhead/tailhead/json/JsonDocument", "next", "(I)I"⟩ : MethodName)) G23 hx (hb hby at_264) (nfOf (y := (⟨"com/example/tailhead/tailhead/json/JsonDocument", "next", "(I)I"⟩ : MethodName)) (z := (⟨"com/example/tailhead/tailhead/json/JsonDocument", "size", "(I)I"⟩ : MethodName)) rfl (hw _ (List.mem_of_getElem? (i := 96) rfl))) (hw _ (List.mem_of_getElem? (i := 98) rfl)) (hw _ (List.mem_of_getElem? (i := 99) rfl)) (hw _ (List.mem_of_getElem? (i := 101) rfl)) (hw _ (List.mem_of_getElem? (i := 100) rfl)) (hw _ (List.mem_of_getElem? (i := 76) rfl)) (hw _ (List.mem_of_getElem? (i := 102) rfl)) (by decide) E20 (rm_nx l Z a0 hw d20 2 1 (upd (upd own_f0 0 (.int o)) 1 (.int (1 : Int32))) (upd (upd (upd (upd (upd (upd own_f0 (2 * 0) (.int p4)) (2 * 0 + 1) (.int p3)) (2 * 1) (.int p3)) (2 * 1 + 1) (.int p4)) (2 * 0) (.int (Int32.ofNat 2))) (2 * 0 + 1) (.int p2)) (1 : Int32) p3 w_s_JsonDocument_Kind_OBJECT w_s_JsonDocument_Kind_ARRAY h20 G23.old Di20 (by decide) (by simp [upd]) (by decide) (by simp [upd]) S_s_JsonDocument_Kind_OBJECT E_s_JsonDocument_Kind_OBJECT S_s_JsonDocument_Kind_ARRAY E_s_JsonDocument_Kind_ARRAY F_s_JsonDocument_Kind_ARRAY_ordinal F_s_JsonDocument_Kind_OBJECT_ordinal S_s_JsonDocument_LAST_HOLDING) (by decide) (W := 0) (by decide) (by rw [hml]; rfl) (argsL := [(.int (Int32.ofNat 1))]) (lenOf pd_11 rfl) rfl (Nat.le_of_eq rfl) (cells' := 11) rfl (by decide) (slots' := 586) rfl (by decide) (pc' := 267) rfl ?_
        intro T24 r24 G24 Q24
        obtain rfl : r24 = .int p3 := Q24
        refine Jvm.Own.iloadN G24.here hx (hb hby at_267) rfl (pc' := 268) rfl ?_
        refine Jvm.Own.icmpN G24.here hx (hb hby at_268) (teq (rfl : p3 = p3)).2 (pc' := 271) rfl ?_
        refine Jvm.Own.iconst G24.here hx (hb hby at_271) (v := (1 : Int32)) rfl (pc' := 272) rfl ?_
        refine Jvm.Own.goto G24.here hx (hb hby at_272) (pc' := 276) (by decide) (by decide) ?_
        refine Jvm.Own.istore G24.here hx (hb hby at_276) (Ls' := #[.val (.int p0), .val (.int p1), .val (.int p2), .val (.int p3), .val (.int p4), .val (.ref b1), .val (.int (0 : Int32)), .val (.ref kd), .val (.int (1 : Int32)), .val (.int (Int32.ofNat 0)), .val (.ref d20), .val (.int (1 : Int32))]) rfl (pc' := 278) rfl ?_
        refine Jvm.Own.iload G24.here hx (hb hby at_278) rfl (pc' := 280) rfl ?_
        exact Jvm.Own.retI G24 hx (hb hby at_280) hret hlk (by simp) rfl (by decide) (by decide) ⟨_, rfl, rfl⟩
      · rw [ek]
        refine Jvm.Own.istore G7.here hx (hb hby at_47) (Ls' := #[.val (.int p0), .val (.int p1), .val (.int p2), .val (.int p3), .val (.int p4), .val (.ref b1), .val (.int (0 : Int32)), .val (.ref kd), .val (.int (2 : Int32)), .unset, .unset, .unset]) rfl (pc' := 49) rfl ?_
        refine Jvm.Own.iload G7.here hx (hb hby at_49) rfl (pc' := 51) rfl ?_
        refine Jvm.Own.ifY G7.here hx (hb hby at_51) ((if0 _ _).trans (teq (by decide : (0 : Int32) = (0 : Int32))).1) (pc' := 67) (by decide) (by decide) ?_
        refine Jvm.Own.aload G7.here hx (hb hby at_67) rfl rfl (pc' := 69) rfl ?_
        refine Jvm.Own.aload G7.here hx (hb hby at_69) rfl rfl (pc' := 71) rfl ?_
        refine Jvm.Own.iconst G7.here hx (hb hby at_71) (v := (0 : Int32)) rfl (pc' := 72) rfl ?_
        refine Jvm.Own.iload G7.here hx (hb hby at_72) rfl (pc' := 74) rfl ?_
        refine Jvm.Own.iloadN G7.here hx (hb hby at_74) rfl (pc' := 75) rfl ?_
        refine Jvm.Own.callV1 (y := (⟨"com/example/tailhead/tailhead/json/JsonDocument$Builder", "add", "(Lcom/example/tailhead/tailhead/json/JsonDocument$Kind;ZII)I"⟩ : MethodName)) (z := (⟨"com/example/tailhead/tailhead/json/JsonDocument$Builder", "add", "(Lcom/example/tailhead/tailhead/json/JsonDocument$Kind;ZII)I"⟩ : MethodName)) G7 hx (hb hby at_75) (nfOf (y := (⟨"com/example/tailhead/tailhead/json/JsonDocument$Builder", "add", "(Lcom/example/tailhead/tailhead/json/JsonDocument$Kind;ZII)I"⟩ : MethodName)) (z := (⟨"com/example/tailhead/tailhead/json/JsonDocument$Builder", "add", "(Lcom/example/tailhead/tailhead/json/JsonDocument$Kind;ZII)I"⟩ : MethodName)) rfl (hw _ (List.mem_of_getElem? (i := 23) rfl))) (hw _ (List.mem_of_getElem? (i := 20) rfl)) (hw _ (List.mem_of_getElem? (i := 21) rfl)) (hw _ (List.mem_of_getElem? (i := 23) rfl)) (hw _ (List.mem_of_getElem? (i := 22) rfl)) (hw _ (List.mem_of_getElem? (i := 2) rfl)) (hw _ (List.mem_of_getElem? (i := 24) rfl)) (by decide) E5 (rm_ad l Z a0 hw b1 kd 0 own_f0 own_f0 o p4 p3 h5 G7.old Bi5 (by decide) Ekd Fo ho) (by decide) (W := 0) (by decide) (by rw [hml]; rfl) (argsL := [(.ref kd), (.int (0 : Int32)), (.int p4), (.int p3)]) (lenOf pd_8 rfl) rfl (Nat.le_of_eq rfl) (cells' := 5) rfl (by decide) (slots' := 39) rfl (by decide) (pc' := 78) rfl ?_
        intro T25 h25 r25 G25 Q25
        obtain ⟨hr25, Bz25⟩ := Q25
        subst hr25
        have Bi25 : BI Z h25 b1 1 (upd own_f0 0 (.int o)) (upd (upd own_f0 (2 * 0) (.int p4)) (2 * 0 + 1) (.int p3)) := Bz25
        have E25 := own_biE Bi25
        refine Jvm.Own.istore G25.here hx (hb hby at_78) (Ls' := #[.val (.int p0), .val (.int p1), .val (.int p2), .val (.int p3), .val (.int p4), .val (.ref b1), .val (.int (0 : Int32)), .val (.ref kd), .val (.int (2 : Int32)), .val (.int (Int32.ofNat 0)), .unset, .unset]) rfl (pc' := 80) rfl ?_
        refine Jvm.Own.iload G25.here hx (hb hby at_80) rfl (pc' := 82) rfl ?_
        refine Jvm.Own.iconst G25.here hx (hb hby at_82) (v := (1 : Int32)) rfl (pc' := 83) rfl ?_
        refine Jvm.Own.icmpN G25.here hx (hb hby at_83) (flt (by decide : ¬ (2 : Int32) < (1 : Int32))).1 (pc' := 86) rfl ?_
        refine Jvm.Own.aload G25.here hx (hb hby at_86) rfl rfl (pc' := 88) rfl ?_
        refine Jvm.Own.getstatic G25 hx (hb hby at_88) (host := "") (Or.inl (hw _ (List.mem_of_getElem? (i := 18) rfl))) Via.refl S_s_JsonDocument_Kind_ARRAY (pc' := 91) rfl ?_
        intro T26 G26
        refine Jvm.Own.iconst G26.here hx (hb hby at_91) (v := (0 : Int32)) rfl (pc' := 92) rfl ?_
        refine Jvm.Own.iloadN G26.here hx (hb hby at_92) rfl (pc' := 93) rfl ?_
        refine Jvm.Own.iload G26.here hx (hb hby at_93) rfl (pc' := 95) rfl ?_
        refine Jvm.Own.callV1 (y := (⟨"com/example/tailhead/tailhead/json/JsonDocument$Builder", "add", "(Lcom/example/tailhead/tailhead/json/JsonDocument$Kind;ZII)I"⟩ : MethodName)) (z := (⟨"com/example/tailhead/tailhead/json/JsonDocument$Builder", "add", "(Lcom/example/tailhead/tailhead/json/JsonDocument$Kind;ZII)I"⟩ : MethodName)) G26 hx (hb hby at_95) (nfOf (y := (⟨"com/example/tailhead/tailhead/json/JsonDocument$Builder", "add", "(Lcom/example/tailhead/tailhead/json/JsonDocument$Kind;ZII)I"⟩ : MethodName)) (z := (⟨"com/example/tailhead/tailhead/json/JsonDocument$Builder", "add", "(Lcom/example/tailhead/tailhead/json/JsonDocument$Kind;ZII)I"⟩ : MethodName)) rfl (hw _ (List.mem_of_getElem? (i := 23) rfl))) (hw _ (List.mem_of_getElem? (i := 20) rfl)) (hw _ (List.mem_of_getElem? (i := 21) rfl)) (hw _ (List.mem_of_getElem? (i := 23) rfl)) (hw _ (List.mem_of_getElem? (i := 22) rfl)) (hw _ (List.mem_of_getElem? (i := 2) rfl)) (hw _ (List.mem_of_getElem? (i := 24) rfl)) (by decide) E25 (rm_ad l Z a0 hw b1 w_s_JsonDocument_Kind_ARRAY 1 (upd own_f0 0 (.int o)) (upd (upd own_f0 (2 * 0) (.int p4)) (2 * 0 + 1) (.int p3)) (1 : Int32) p3 p4 h25 G26.old Bi25 (by decide) E_s_JsonDocument_Kind_ARRAY F_s_JsonDocument_Kind_ARRAY_ordinal (Or.inr rfl)) (by decide) (W := 0) (by decide) (by rw [hml]; rfl) (argsL := [(.ref w_s_JsonDocument_Kind_ARRAY), (.int (0 : Int32)), (.int p3), (.int p4)]) (lenOf pd_8 rfl) rfl (Nat.le_of_eq rfl) (cells' := 7) rfl (by decide) (slots' := 66) rfl (by decide) (pc' := 98) rfl ?_
        intro T27 h27 r27 G27 Q27
        obtain ⟨hr27, Bz27⟩ := Q27
        subst hr27
        have Bi27 : BI Z h27 b1 2 (upd (upd own_f0 0 (.int o)) 1 (.int (1 : Int32))) (upd (upd (upd (upd own_f0 (2 * 0) (.int p4)) (2 * 0 + 1) (.int p3)) (2 * 1) (.int p3)) (2 * 1 + 1) (.int p4)) := Bz27
        have E27 := own_biE Bi27
        refine Jvm.Own.pop G27.here hx (hb hby at_98) rfl (pc' := 99) rfl ?_
        refine Jvm.Own.iload G27.here hx (hb hby at_99) rfl (pc' := 101) rfl ?_
        refine Jvm.Own.iconst G27.here hx (hb hby at_101) (v := (2 : Int32)) rfl (pc' := 102) rfl ?_
        refine Jvm.Own.icmpN G27.here hx (hb hby at_102) (flt (by decide : ¬ (2 : Int32) < (2 : Int32))).1 (pc' := 105) rfl ?_
        refine Jvm.Own.aload G27.here hx (hb hby at_105) rfl rfl (pc' := 107) rfl ?_
        refine Jvm.Own.getstatic G27 hx (hb hby at_107) (host := "") (Or.inl (hw _ (List.mem_of_getElem? (i := 15) rfl))) Via.refl S_s_JsonDocument_Kind_OBJECT (pc' := 110) rfl ?_
        intro T28 G28
        refine Jvm.Own.iconst G28.here hx (hb hby at_110) (v := (0 : Int32)) rfl (pc' := 111) rfl ?_
        refine Jvm.Own.iloadN G28.here hx (hb hby at_111) rfl (pc' := 112) rfl ?_
        refine Jvm.Own.iload G28.here hx (hb hby at_112) rfl (pc' := 114) rfl ?_
        refine Jvm.Own.callV1 (y := (⟨"com/example/tailhead/tailhead/json/JsonDocument$Builder", "add", "(Lcom/example/tailhead/tailhead/json/JsonDocument$Kind;ZII)I"⟩ : MethodName)) (z := (⟨"com/example/tailhead/tailhead/json/JsonDocument$Builder", "add", "(Lcom/example/tailhead/tailhead/json/JsonDocument$Kind;ZII)I"⟩ : MethodName)) G28 hx (hb hby at_114) (nfOf (y := (⟨"com/example/tailhead/tailhead/json/JsonDocument$Builder", "add", "(Lcom/example/tailhead/tailhead/json/JsonDocument$Kind;ZII)I"⟩ : MethodName)) (z := (⟨"com/example/tailhead/tailhead/json/JsonDocument$Builder", "add", "(Lcom/example/tailhead/tailhead/json/JsonDocument$Kind;ZII)I"⟩ : MethodName)) rfl (hw _ (List.mem_of_getElem? (i := 23) rfl))) (hw _ (List.mem_of_getElem? (i := 20) rfl)) (hw _ (List.mem_of_getElem? (i := 21) rfl)) (hw _ (List.mem_of_getElem? (i := 23) rfl)) (hw _ (List.mem_of_getElem? (i := 22) rfl)) (hw _ (List.mem_of_getElem? (i := 2) rfl)) (hw _ (List.mem_of_getElem? (i := 24) rfl)) (by decide) E27 (rm_ad l Z a0 hw b1 w_s_JsonDocument_Kind_OBJECT 2 (upd (upd own_f0 0 (.int o)) 1 (.int (1 : Int32))) (upd (upd (upd (upd own_f0 (2 * 0) (.int p4)) (2 * 0 + 1) (.int p3)) (2 * 1) (.int p3)) (2 * 1 + 1) (.int p4)) (0 : Int32) p3 p4 h27 G28.old Bi27 (by decide) E_s_JsonDocument_Kind_OBJECT F_s_JsonDocument_Kind_OBJECT_ordinal (Or.inl rfl)) (by decide) (W := 0) (by decide) (by rw [hml]; rfl) (argsL := [(.ref w_s_JsonDocument_Kind_OBJECT), (.int (0 : Int32)), (.int p3), (.int p4)]) (lenOf pd_8 rfl) rfl (Nat.le_of_eq rfl) (cells' := 9) rfl (by decide) (slots' := 93) rfl (by decide) (pc' := 117) rfl ?_
        intro T29 h29 r29 G29 Q29
        obtain ⟨hr29, Bz29⟩ := Q29
        subst hr29
        have Bi29 : BI Z h29 b1 3 (upd (upd (upd own_f0 0 (.int o)) 1 (.int (1 : Int32))) 2 (.int (0 : Int32))) (upd (upd (upd (upd (upd (upd own_f0 (2 * 0) (.int p4)) (2 * 0 + 1) (.int p3)) (2 * 1) (.int p3)) (2 * 1 + 1) (.int p4)) (2 * 2) (.int p3)) (2 * 2 + 1) (.int p4)) := Bz29
        have E29 := own_biE Bi29
        refine Jvm.Own.pop G29.here hx (hb hby at_117) rfl (pc' := 118) rfl ?_
        refine Jvm.Own.iload G29.here hx (hb hby at_118) rfl (pc' := 120) rfl ?_
        refine Jvm.Own.iconst G29.here hx (hb hby at_120) (v := (3 : Int32)) rfl (pc' := 121) rfl ?_
        refine Jvm.Own.icmpY G29.here hx (hb hby at_121) (tlt (by decide : (2 : Int32) < (3 : Int32))).1 (pc' := 137) (by decide) (by decide) ?_
        refine Jvm.Own.aload G29.here hx (hb hby at_137) rfl rfl (pc' := 139) rfl ?_
        refine Jvm.Own.iload G29.here hx (hb hby at_139) rfl (pc' := 141) rfl ?_
        refine Jvm.Own.iloadN G29.here hx (hb hby at_141) rfl (pc' := 142) rfl ?_
        refine Jvm.Own.callV0 (y := (⟨"com/example/tailhead/tailhead/json/JsonDocument$Builder", "complete", "(II)V"⟩ : MethodName)) (z := (⟨"com/example/tailhead/tailhead/json/JsonDocument$Builder", "complete", "(II)V"⟩ : MethodName)) G29 hx (hb hby at_142) (nfOf (y := (⟨"com/example/tailhead/tailhead/json/JsonDocument$Builder", "complete", "(II)V"⟩ : MethodName)) (z := (⟨"com/example/tailhead/tailhead/json/JsonDocument$Builder", "add", "(Lcom/example/tailhead/tailhead/json/JsonDocument$Kind;ZII)I"⟩ : MethodName)) rfl (hw _ (List.mem_of_getElem? (i := 23) rfl))) (hw _ (List.mem_of_getElem? (i := 57) rfl)) (hw _ (List.mem_of_getElem? (i := 58) rfl)) (hw _ (List.mem_of_getElem? (i := 60) rfl)) (hw _ (List.mem_of_getElem? (i := 59) rfl)) (hw _ (List.mem_of_getElem? (i := 2) rfl)) (hw _ (List.mem_of_getElem? (i := 61) rfl)) (by decide) E29 (rm_co l Z a0 hw b1 3 0 (upd (upd (upd own_f0 0 (.int o)) 1 (.int (1 : Int32))) 2 (.int (0 : Int32))) (upd (upd (upd (upd (upd (upd own_f0 (2 * 0) (.int p4)) (2 * 0 + 1) (.int p3)) (2 * 1) (.int p3)) (2 * 1 + 1) (.int p4)) (2 * 2) (.int p3)) (2 * 2 + 1) (.int p4)) p2 h29 G29.old Bi29 (by decide)) (by decide) (W := 0) (by decide) (by rw [hml]; rfl) (argsL := [(.int (Int32.ofNat 0)), (.int p2)]) (lenOf pd_9 rfl) rfl (Nat.le_of_eq rfl) (cells' := 9) rfl (by decide) (slots' := 93) rfl (by decide) (pc' := 145) rfl ?_
        intro T30 h30 G30 Q30
        have Bi30 : BI Z h30 b1 3 (upd (upd (upd own_f0 0 (.int o)) 1 (.int (1 : Int32))) 2 (.int (0 : Int32))) (upd (upd (upd (upd (upd (upd (upd (upd own_f0 (2 * 0) (.int p4)) (2 * 0 + 1) (.int p3)) (2 * 1) (.int p3)) (2 * 1 + 1) (.int p4)) (2 * 2) (.int p3)) (2 * 2 + 1) (.int p4)) (2 * 0) (.int (Int32.ofNat 3))) (2 * 0 + 1) (.int p2)) := Q30
        have E30 := own_biE Bi30
        refine Jvm.Own.aload G30.here hx (hb hby at_145) rfl rfl (pc' := 147) rfl ?_
        refine Jvm.Own.ldcS (n := 0) rfl G30 hx (hb hby at_147) (hw _ (List.mem_of_getElem? (i := 62) rfl)) (own_wS hw) (by decide) (by decide) (cells' := 11) rfl (by decide) (slots' := 97) rfl (by decide) (pc' := 149) rfl ?_
        intro T31 h31 a31 G31 X31
        have E33 := (E30.ext X31)
        refine Jvm.Own.callV1 (y := (⟨"com/example/tailhead/tailhead/json/JsonDocument$Builder", "build", "(Ljava/lang/String;)Lcom/example/tailhead/tailhead/json/JsonDocument;"⟩ : MethodName)) (z := (⟨"com/example/tailhead/tailhead/json/JsonDocument$Builder", "build", "(Ljava/lang/String;)Lcom/example/tailhead/tailhead/json/JsonDocument;"⟩ : MethodName)) G31 hx (hb hby at_149) (nfOf (y := (⟨"com/example/tailhead/tailhead/json/JsonDocument$Builder", "build", "(Ljava/lang/String;)Lcom/example/tailhead/tailhead/json/JsonDocument;"⟩ : MethodName)) (z := (⟨"com/example/tailhead/tailhead/json/JsonDocument$Builder", "add", "(Lcom/example/tailhead/tailhead/json/JsonDocument$Kind;ZII)I"⟩ : MethodName)) rfl (hw _ (List.mem_of_getElem? (i := 23) rfl))) (hw _ (List.mem_of_getElem? (i := 69) rfl)) (hw _ (List.mem_of_getElem? (i := 70) rfl)) (hw _ (List.mem_of_getElem? (i := 72) rfl)) (hw _ (List.mem_of_getElem? (i := 71) rfl)) (hw _ (List.mem_of_getElem? (i := 2) rfl)) (hw _ (List.mem_of_getElem? (i := 73) rfl)) (by decide) E33 (rm_bu l Z a0 hw b1 a31 3 (upd (upd (upd own_f0 0 (.int o)) 1 (.int (1 : Int32))) 2 (.int (0 : Int32))) (upd (upd (upd (upd (upd (upd (upd (upd own_f0 (2 * 0) (.int p4)) (2 * 0 + 1) (.int p3)) (2 * 1) (.int p3)) (2 * 1 + 1) (.int p4)) (2 * 2) (.int p3)) (2 * 2 + 1) (.int p4)) (2 * 0) (.int (Int32.ofNat 3))) (2 * 0 + 1) (.int p2)) h31 G31.old (own_biX Bi30 X31)) (by decide) (W := 0) (by decide) (by rw [hml]; rfl) (argsL := [(.ref a31)]) (lenOf pd_10 rfl) rfl (Nat.le_of_eq rfl) (cells' := 13) rfl (by decide) (slots' := 613) rfl (by decide) (pc' := 152) rfl ?_
        intro T32 h32 r32 G32 Q32
        obtain ⟨d32, hr32, Di32⟩ := Q32
        subst hr32
        have E32 := own_diE Di32
        refine Jvm.Own.astore G32.here hx (hb hby at_152) rfl (Ls' := #[.val (.int p0), .val (.int p1), .val (.int p2), .val (.int p3), .val (.int p4), .val (.ref b1), .val (.int (0 : Int32)), .val (.ref kd), .val (.int (2 : Int32)), .val (.int (Int32.ofNat 0)), .val (.ref d32), .unset]) rfl (pc' := 154) rfl ?_
        refine Jvm.Own.iload G32.here hx (hb hby at_154) rfl (pc' := 156) rfl ?_
        refine Jvm.Own.iload G32.here hx (hb hby at_156) rfl (pc' := 158) rfl ?_
        refine Jvm.Own.ifY G32.here hx (hb hby at_158) ((if0 _ _).trans (teq (by decide : (0 : Int32) = (0 : Int32))).1) (pc' := 165) (by decide) (by decide) ?_
        refine Jvm.Own.iconst G32.here hx (hb hby at_165) (v := (0 : Int32)) rfl (pc' := 166) rfl ?_
        refine Jvm.Own.icmpN G32.here hx (hb hby at_166) (teq ((by decide) : (Int32.ofNat 0) = (0 : Int32))).2 (pc' := 169) rfl ?_
        refine Jvm.Own.iconst G32.here hx (hb hby at_169) (v := (1 : Int32)) rfl (pc' := 170) rfl ?_
        refine Jvm.Own.goto G32.here hx (hb hby at_170) (pc' := 174) (by decide) (by decide) ?_
        refine Jvm.Own.istore G32.here hx (hb hby at_174) (Ls' := #[.val (.int p0), .val (.int p1), .val (.int p2), .val (.int p3), .val (.int p4), .val (.ref b1), .val (.int (0 : Int32)), .val (.ref kd), .val (.int (2 : Int32)), .val (.int (Int32.ofNat 0)), .val (.ref d32), .val (.int (1 : Int32))]) rfl (pc' := 176) rfl ?_
        refine Jvm.Own.iload G32.here hx (hb hby at_176) rfl (pc' := 178) rfl ?_
        refine Jvm.Own.ifN G32.here hx (hb hby at_178) ((if0 _ _).trans (feq (by decide : ¬ (1 : Int32) = (0 : Int32))).1) (pc' := 181) rfl ?_
        refine Jvm.Own.aload G32.here hx (hb hby at_181) rfl rfl (pc' := 183) rfl ?_
        refine Jvm.Own.iload G32.here hx (hb hby at_183) rfl (pc' := 185) rfl ?_
        refine Jvm.Own.callVP (y := (⟨"com/example/tailhead/tailhead/json/JsonDocument", "size", "(I)I"⟩ : MethodName)) (z := (⟨"com/example/tailhead/tailhead/json/JsonDocument", "size", "(I)I"⟩ : MethodName)) G32 hx (hb hby at_185) (nfOf (y := (⟨"com/example/tailhead/tailhead/json/JsonDocument", "size", "(I)I"⟩ : MethodName)) (z := (⟨"com/example/tailhead/tailhead/json/JsonDocument", "size", "(I)I"⟩ : MethodName)) rfl (hw _ (List.mem_of_getElem? (i := 96) rfl))) (hw _ (List.mem_of_getElem? (i := 93) rfl)) (hw _ (List.mem_of_getElem? (i := 94) rfl)) (hw _ (List.mem_of_getElem? (i := 96) rfl)) (hw _ (List.mem_of_getElem? (i := 95) rfl)) (hw _ (List.mem_of_getElem? (i := 76) rfl)) (hw _ (List.mem_of_getElem? (i := 97) rfl)) (by decide) E32 (rm_sz l Z a0 hw d32 3 0 (upd (upd (upd own_f0 0 (.int o)) 1 (.int (1 : Int32))) 2 (.int (0 : Int32))) (upd (upd (upd (upd (upd (upd (upd (upd own_f0 (2 * 0) (.int p4)) (2 * 0 + 1) (.int p3)) (2 * 1) (.int p3)) (2 * 1 + 1) (.int p4)) (2 * 2) (.int p3)) (2 * 2 + 1) (.int p4)) (2 * 0) (.int (Int32.ofNat 3))) (2 * 0 + 1) (.int p2)) p2 h32 G32.old Di32 (by decide) (by simp [upd])) (by decide) (W := 0) (by decide) (by rw [hml]; rfl) (argsL := [(.int (Int32.ofNat 0))]) (lenOf pd_11 rfl) rfl (Nat.le_of_eq rfl) (cells' := 13) rfl (by decide) (slots' := 613) rfl (by decide) (pc' := 188) rfl ?_
        intro T34 r34 G34 Q34
        obtain rfl : r34 = .int p2 := Q34
        refine Jvm.Own.iloadN G34.here hx (hb hby at_188) rfl (pc' := 189) rfl ?_
        refine Jvm.Own.icmpN G34.here hx (hb hby at_189) (teq (rfl : p2 = p2)).2 (pc' := 192) rfl ?_
        refine Jvm.Own.aload G34.here hx (hb hby at_192) rfl rfl (pc' := 194) rfl ?_
        refine Jvm.Own.iload G34.here hx (hb hby at_194) rfl (pc' := 196) rfl ?_
        refine Jvm.Own.callVP (y := (⟨"com/example/tailhead/tailhead/json/JsonDocument", "next", "(I)I"⟩ : MethodName)) (z := (⟨"com/example/tailhead/tailhead/json/JsonDocument", "next", "(I)I"⟩ : MethodName)) G34 hx (hb hby at_196) (nfOf (y := (⟨"com/example/tailhead/tailhead/json/JsonDocument", "next", "(I)I"⟩ : MethodName)) (z := (⟨"com/example/tailhead/tailhead/json/JsonDocument", "size", "(I)I"⟩ : MethodName)) rfl (hw _ (List.mem_of_getElem? (i := 96) rfl))) (hw _ (List.mem_of_getElem? (i := 98) rfl)) (hw _ (List.mem_of_getElem? (i := 99) rfl)) (hw _ (List.mem_of_getElem? (i := 101) rfl)) (hw _ (List.mem_of_getElem? (i := 100) rfl)) (hw _ (List.mem_of_getElem? (i := 76) rfl)) (hw _ (List.mem_of_getElem? (i := 102) rfl)) (by decide) E32 (rm_nx l Z a0 hw d32 3 0 (upd (upd (upd own_f0 0 (.int o)) 1 (.int (1 : Int32))) 2 (.int (0 : Int32))) (upd (upd (upd (upd (upd (upd (upd (upd own_f0 (2 * 0) (.int p4)) (2 * 0 + 1) (.int p3)) (2 * 1) (.int p3)) (2 * 1 + 1) (.int p4)) (2 * 2) (.int p3)) (2 * 2 + 1) (.int p4)) (2 * 0) (.int (Int32.ofNat 3))) (2 * 0 + 1) (.int p2)) o (Int32.ofNat 3) w_s_JsonDocument_Kind_OBJECT w_s_JsonDocument_Kind_ARRAY h32 G34.old Di32 (by decide) (by simp [upd]) (own_o1 o ho) (by simp [upd]) S_s_JsonDocument_Kind_OBJECT E_s_JsonDocument_Kind_OBJECT S_s_JsonDocument_Kind_ARRAY E_s_JsonDocument_Kind_ARRAY F_s_JsonDocument_Kind_ARRAY_ordinal F_s_JsonDocument_Kind_OBJECT_ordinal S_s_JsonDocument_LAST_HOLDING) (by decide) (W := 0) (by decide) (by rw [hml]; rfl) (argsL := [(.int (Int32.ofNat 0))]) (lenOf pd_11 rfl) rfl (Nat.le_of_eq rfl) (cells' := 13) rfl (by decide) (slots' := 613) rfl (by decide) (pc' := 199) rfl ?_
        intro T35 r35 G35 Q35
        obtain rfl : r35 = .int (Int32.ofNat 3) := Q35
        refine Jvm.Own.iload G35.here hx (hb hby at_199) rfl (pc' := 201) rfl ?_
        refine Jvm.Own.iconst G35.here hx (hb hby at_201) (v := (1 : Int32)) rfl (pc' := 202) rfl ?_
        refine Jvm.Own.iadd G35.here hx (hb hby at_202) (pc' := 203) rfl ?_
        refine Jvm.Own.iload G35.here hx (hb hby at_203) rfl (pc' := 205) rfl ?_
        refine Jvm.Own.iadd G35.here hx (hb hby at_205) (pc' := 206) rfl ?_
        refine Jvm.Own.icmpN G35.here hx (hb hby at_206) (teq ((by decide) : (Int32.ofNat 3) = (((Int32.ofNat 0) + (1 : Int32)) + (2 : Int32)))).2 (pc' := 209) rfl ?_
        refine Jvm.Own.iconst G35.here hx (hb hby at_209) (v := (1 : Int32)) rfl (pc' := 210) rfl ?_
        refine Jvm.Own.goto G35.here hx (hb hby at_210) (pc' := 214) (by decide) (by decide) ?_
        refine Jvm.Own.istore G35.here hx (hb hby at_214) (Ls' := #[.val (.int p0), .val (.int p1), .val (.int p2), .val (.int p3), .val (.int p4), .val (.ref b1), .val (.int (0 : Int32)), .val (.ref kd), .val (.int (2 : Int32)), .val (.int (Int32.ofNat 0)), .val (.ref d32), .val (.int (1 : Int32))]) rfl (pc' := 216) rfl ?_
        refine Jvm.Own.iload G35.here hx (hb hby at_216) rfl (pc' := 218) rfl ?_
        refine Jvm.Own.ifY G35.here hx (hb hby at_218) ((if0 _ _).trans (teq (by decide : (0 : Int32) = (0 : Int32))).1) (pc' := 247) (by decide) (by decide) ?_
        refine Jvm.Own.iload G35.here hx (hb hby at_247) rfl (pc' := 249) rfl ?_
        refine Jvm.Own.iconst G35.here hx (hb hby at_249) (v := (1 : Int32)) rfl (pc' := 250) rfl ?_
        refine Jvm.Own.icmpN G35.here hx (hb hby at_250) (flt (by decide : ¬ (2 : Int32) < (1 : Int32))).1 (pc' := 253) rfl ?_
        refine Jvm.Own.iload G35.here hx (hb hby at_253) rfl (pc' := 255) rfl ?_
        refine Jvm.Own.ifN G35.here hx (hb hby at_255) ((if0 _ _).trans (feq (by decide : ¬ (1 : Int32) = (0 : Int32))).1) (pc' := 258) rfl ?_
        refine Jvm.Own.aload G35.here hx (hb hby at_258) rfl rfl (pc' := 260) rfl ?_
        refine Jvm.Own.iload G35.here hx (hb hby at_260) rfl (pc' := 262) rfl ?_
        refine Jvm.Own.iconst G35.here hx (hb hby at_262) (v := (1 : Int32)) rfl (pc' := 263) rfl ?_
        refine Jvm.Own.iadd G35.here hx (hb hby at_263) (pc' := 264) rfl ?_
        rw [show (Int32.ofNat 0 + (1 : Int32)) = Int32.ofNat 1 from by decide]
        refine Jvm.Own.callVP (y := (⟨"com/example/tailhead/tailhead/json/JsonDocument", "next", "(I)I"⟩ : MethodName)) (z := (⟨"com/example/tailhead/tailhead/json/JsonDocument", "next", "(I)I"⟩ : MethodName)) G35 hx (hb hby at_264) (nfOf (y := (⟨"com/example/tailhead/tailhead/json/JsonDocument", "next", "(I)I"⟩ : MethodName)) (z := (⟨"com/example/tailhead/tailhead/json/JsonDocument", "size", "(I)I"⟩ : MethodName)) rfl (hw _ (List.mem_of_getElem? (i := 96) rfl))) (hw _ (List.mem_of_getElem? (i := 98) rfl)) (hw _ (List.mem_of_getElem? (i := 99) rfl)) (hw _ (List.mem_of_getElem? (i := 101) rfl)) (hw _ (List.mem_of_getElem? (i := 100) rfl)) (hw _ (List.mem_of_getElem? (i := 76) rfl)) (hw _ (List.mem_of_getElem? (i := 102) rfl)) (by decide) E32 (rm_nx l Z a0 hw d32 3 1 (upd (upd (upd own_f0 0 (.int o)) 1 (.int (1 : Int32))) 2 (.int (0 : Int32))) (upd (upd (upd (upd (upd (upd (upd (upd own_f0 (2 * 0) (.int p4)) (2 * 0 + 1) (.int p3)) (2 * 1) (.int p3)) (2 * 1 + 1) (.int p4)) (2 * 2) (.int p3)) (2 * 2 + 1) (.int p4)) (2 * 0) (.int (Int32.ofNat 3))) (2 * 0 + 1) (.int p2)) (1 : Int32) p3 w_s_JsonDocument_Kind_OBJECT w_s_JsonDocument_Kind_ARRAY h32 G35.old Di32 (by decide) (by simp [upd]) (by decide) (by simp [upd]) S_s_JsonDocument_Kind_OBJECT E_s_JsonDocument_Kind_OBJECT S_s_JsonDocument_Kind_ARRAY E_s_JsonDocument_Kind_ARRAY F_s_JsonDocument_Kind_ARRAY_ordinal F_s_JsonDocument_Kind_OBJECT_ordinal S_s_JsonDocument_LAST_HOLDING) (by decide) (W := 0) (by decide) (by rw [hml]; rfl) (argsL := [(.int (Int32.ofNat 1))]) (lenOf pd_11 rfl) rfl (Nat.le_of_eq rfl) (cells' := 13) rfl (by decide) (slots' := 613) rfl (by decide) (pc' := 267) rfl ?_
        intro T36 r36 G36 Q36
        obtain rfl : r36 = .int p3 := Q36
        refine Jvm.Own.iloadN G36.here hx (hb hby at_267) rfl (pc' := 268) rfl ?_
        refine Jvm.Own.icmpN G36.here hx (hb hby at_268) (teq (rfl : p3 = p3)).2 (pc' := 271) rfl ?_
        refine Jvm.Own.iconst G36.here hx (hb hby at_271) (v := (1 : Int32)) rfl (pc' := 272) rfl ?_
        refine Jvm.Own.goto G36.here hx (hb hby at_272) (pc' := 276) (by decide) (by decide) ?_
        refine Jvm.Own.istore G36.here hx (hb hby at_276) (Ls' := #[.val (.int p0), .val (.int p1), .val (.int p2), .val (.int p3), .val (.int p4), .val (.ref b1), .val (.int (0 : Int32)), .val (.ref kd), .val (.int (2 : Int32)), .val (.int (Int32.ofNat 0)), .val (.ref d32), .val (.int (1 : Int32))]) rfl (pc' := 278) rfl ?_
        refine Jvm.Own.iload G36.here hx (hb hby at_278) rfl (pc' := 280) rfl ?_
        exact Jvm.Own.retI G36 hx (hb hby at_280) hret hlk (by simp) rfl (by decide) (by decide) ⟨_, rfl, rfl⟩
      · rw [ek]
        refine Jvm.Own.istore G7.here hx (hb hby at_47) (Ls' := #[.val (.int p0), .val (.int p1), .val (.int p2), .val (.int p3), .val (.int p4), .val (.ref b1), .val (.int (0 : Int32)), .val (.ref kd), .val (.int (3 : Int32)), .unset, .unset, .unset]) rfl (pc' := 49) rfl ?_
        refine Jvm.Own.iload G7.here hx (hb hby at_49) rfl (pc' := 51) rfl ?_
        refine Jvm.Own.ifY G7.here hx (hb hby at_51) ((if0 _ _).trans (teq (by decide : (0 : Int32) = (0 : Int32))).1) (pc' := 67) (by decide) (by decide) ?_
        refine Jvm.Own.aload G7.here hx (hb hby at_67) rfl rfl (pc' := 69) rfl ?_
        refine Jvm.Own.aload G7.here hx (hb hby at_69) rfl rfl (pc' := 71) rfl ?_
        refine Jvm.Own.iconst G7.here hx (hb hby at_71) (v := (0 : Int32)) rfl (pc' := 72) rfl ?_
        refine Jvm.Own.iload G7.here hx (hb hby at_72) rfl (pc' := 74) rfl ?_
        refine Jvm.Own.iloadN G7.here hx (hb hby at_74) rfl (pc' := 75) rfl ?_
        refine Jvm.Own.callV1 (y := (⟨"com/example/tailhead/tailhead/json/JsonDocument$Builder", "add", "(Lcom/example/tailhead/tailhead/json/JsonDocument$Kind;ZII)I"⟩ : MethodName)) (z := (⟨"com/example/tailhead/tailhead/json/JsonDocument$Builder", "add", "(Lcom/example/tailhead/tailhead/json/JsonDocument$Kind;ZII)I"⟩ : MethodName)) G7 hx (hb hby at_75) (nfOf (y := (⟨"com/example/tailhead/tailhead/json/JsonDocument$Builder", "add", "(Lcom/example/tailhead/tailhead/json/JsonDocument$Kind;ZII)I"⟩ : MethodName)) (z := (⟨"com/example/tailhead/tailhead/json/JsonDocument$Builder", "add", "(Lcom/example/tailhead/tailhead/json/JsonDocument$Kind;ZII)I"⟩ : MethodName)) rfl (hw _ (List.mem_of_getElem? (i := 23) rfl))) (hw _ (List.mem_of_getElem? (i := 20) rfl)) (hw _ (List.mem_of_getElem? (i := 21) rfl)) (hw _ (List.mem_of_getElem? (i := 23) rfl)) (hw _ (List.mem_of_getElem? (i := 22) rfl)) (hw _ (List.mem_of_getElem? (i := 2) rfl)) (hw _ (List.mem_of_getElem? (i := 24) rfl)) (by decide) E5 (rm_ad l Z a0 hw b1 kd 0 own_f0 own_f0 o p4 p3 h5 G7.old Bi5 (by decide) Ekd Fo ho) (by decide) (W := 0) (by decide) (by rw [hml]; rfl) (argsL := [(.ref kd), (.int (0 : Int32)), (.int p4), (.int p3)]) (lenOf pd_8 rfl) rfl (Nat.le_of_eq rfl) (cells' := 5) rfl (by decide) (slots' := 39) rfl (by decide) (pc' := 78) rfl ?_
        intro T37 h37 r37 G37 Q37
        obtain ⟨hr37, Bz37⟩ := Q37
        subst hr37
        have Bi37 : BI Z h37 b1 1 (upd own_f0 0 (.int o)) (upd (upd own_f0 (2 * 0) (.int p4)) (2 * 0 + 1) (.int p3)) := Bz37
        have E37 := own_biE Bi37
        refine Jvm.Own.istore G37.here hx (hb hby at_78) (Ls' := #[.val (.int p0), .val (.int p1), .val (.int p2), .val (.int p3), .val (.int p4), .val (.ref b1), .val (.int (0 : Int32)), .val (.ref kd), .val (.int (3 : Int32)), .val (.int (Int32.ofNat 0)), .unset, .unset]) rfl (pc' := 80) rfl ?_
        refine Jvm.Own.iload G37.here hx (hb hby at_80) rfl (pc' := 82) rfl ?_
        refine Jvm.Own.iconst G37.here hx (hb hby at_82) (v := (1 : Int32)) rfl (pc' := 83) rfl ?_
        refine Jvm.Own.icmpN G37.here hx (hb hby at_83) (flt (by decide : ¬ (3 : Int32) < (1 : Int32))).1 (pc' := 86) rfl ?_
        refine Jvm.Own.aload G37.here hx (hb hby at_86) rfl rfl (pc' := 88) rfl ?_
        refine Jvm.Own.getstatic G37 hx (hb hby at_88) (host := "") (Or.inl (hw _ (List.mem_of_getElem? (i := 18) rfl))) Via.refl S_s_JsonDocument_Kind_ARRAY (pc' := 91) rfl ?_
        intro T38 G38
        refine Jvm.Own.iconst G38.here hx (hb hby at_91) (v := (0 : Int32)) rfl (pc' := 92) rfl ?_
        refine Jvm.Own.iloadN G38.here hx (hb hby at_92) rfl (pc' := 93) rfl ?_
        refine Jvm.Own.iload G38.here hx (hb hby at_93) rfl (pc' := 95) rfl ?_
        refine Jvm.Own.callV1 (y := (⟨"com/example/tailhead/tailhead/json/JsonDocument$Builder", "add", "(Lcom/example/tailhead/tailhead/json/JsonDocument$Kind;ZII)I"⟩ : MethodName)) (z := (⟨"com/example/tailhead/tailhead/json/JsonDocument$Builder", "add", "(Lcom/example/tailhead/tailhead/json/JsonDocument$Kind;ZII)I"⟩ : MethodName)) G38 hx (hb hby at_95) (nfOf (y := (⟨"com/example/tailhead/tailhead/json/JsonDocument$Builder", "add", "(Lcom/example/tailhead/tailhead/json/JsonDocument$Kind;ZII)I"⟩ : MethodName)) (z := (⟨"com/example/tailhead/tailhead/json/JsonDocument$Builder", "add", "(Lcom/example/tailhead/tailhead/json/JsonDocument$Kind;ZII)I"⟩ : MethodName)) rfl (hw _ (List.mem_of_getElem? (i := 23) rfl))) (hw _ (List.mem_of_getElem? (i := 20) rfl)) (hw _ (List.mem_of_getElem? (i := 21) rfl)) (hw _ (List.mem_of_getElem? (i := 23) rfl)) (hw _ (List.mem_of_getElem? (i := 22) rfl)) (hw _ (List.mem_of_getElem? (i := 2) rfl)) (hw _ (List.mem_of_getElem? (i := 24) rfl)) (by decide) E37 (rm_ad l Z a0 hw b1 w_s_JsonDocument_Kind_ARRAY 1 (upd own_f0 0 (.int o)) (upd (upd own_f0 (2 * 0) (.int p4)) (2 * 0 + 1) (.int p3)) (1 : Int32) p3 p4 h37 G38.old Bi37 (by decide) E_s_JsonDocument_Kind_ARRAY F_s_JsonDocument_Kind_ARRAY_ordinal (Or.inr rfl)) (by decide) (W := 0) (by decide) (by rw [hml]; rfl) (argsL := [(.ref w_s_JsonDocument_Kind_ARRAY), (.int (0 : Int32)), (.int p3), (.int p4)]) (lenOf pd_8 rfl) rfl (Nat.le_of_eq rfl) (cells' := 7) rfl (by decide) (slots' := 66) rfl (by decide) (pc' := 98) rfl ?_
        intro T39 h39 r39 G39 Q39
        obtain ⟨hr39, Bz39⟩ := Q39
        subst hr39
        have Bi39 : BI Z h39 b1 2 (upd (upd own_f0 0 (.int o)) 1 (.int (1 : Int32))) (upd (upd (upd (upd own_f0 (2 * 0) (.int p4)) (2 * 0 + 1) (.int p3)) (2 * 1) (.int p3)) (2 * 1 + 1) (.int p4)) := Bz39
        have E39 := own_biE Bi39
        refine Jvm.Own.pop G39.here hx (hb hby at_98) rfl (pc' := 99) rfl ?_
        refine Jvm.Own.iload G39.here hx (hb hby at_99) rfl (pc' := 101) rfl ?_
        refine Jvm.Own.iconst G39.here hx (hb hby at_101) (v := (2 : Int32)) rfl (pc' := 102) rfl ?_
        refine Jvm.Own.icmpN G39.here hx (hb hby at_102) (flt (by decide : ¬ (3 : Int32) < (2 : Int32))).1 (pc' := 105) rfl ?_
        refine Jvm.Own.aload G39.here hx (hb hby at_105) rfl rfl (pc' := 107) rfl ?_
        refine Jvm.Own.getstatic G39 hx (hb hby at_107) (host := "") (Or.inl (hw _ (List.mem_of_getElem? (i := 15) rfl))) Via.refl S_s_JsonDocument_Kind_OBJECT (pc' := 110) rfl ?_
        intro T40 G40
        refine Jvm.Own.iconst G40.here hx (hb hby at_110) (v := (0 : Int32)) rfl (pc' := 111) rfl ?_
        refine Jvm.Own.iloadN G40.here hx (hb hby at_111) rfl (pc' := 112) rfl ?_
        refine Jvm.Own.iload G40.here hx (hb hby at_112) rfl (pc' := 114) rfl ?_
        refine Jvm.Own.callV1 (y := (⟨"com/example/tailhead/tailhead/json/JsonDocument$Builder", "add", "(Lcom/example/tailhead/tailhead/json/JsonDocument$Kind;ZII)I"⟩ : MethodName)) (z := (⟨"com/example/tailhead/tailhead/json/JsonDocument$Builder", "add", "(Lcom/example/tailhead/tailhead/json/JsonDocument$Kind;ZII)I"⟩ : MethodName)) G40 hx (hb hby at_114) (nfOf (y := (⟨"com/example/tailhead/tailhead/json/JsonDocument$Builder", "add", "(Lcom/example/tailhead/tailhead/json/JsonDocument$Kind;ZII)I"⟩ : MethodName)) (z := (⟨"com/example/tailhead/tailhead/json/JsonDocument$Builder", "add", "(Lcom/example/tailhead/tailhead/json/JsonDocument$Kind;ZII)I"⟩ : MethodName)) rfl (hw _ (List.mem_of_getElem? (i := 23) rfl))) (hw _ (List.mem_of_getElem? (i := 20) rfl)) (hw _ (List.mem_of_getElem? (i := 21) rfl)) (hw _ (List.mem_of_getElem? (i := 23) rfl)) (hw _ (List.mem_of_getElem? (i := 22) rfl)) (hw _ (List.mem_of_getElem? (i := 2) rfl)) (hw _ (List.mem_of_getElem? (i := 24) rfl)) (by decide) E39 (rm_ad l Z a0 hw b1 w_s_JsonDocument_Kind_OBJECT 2 (upd (upd own_f0 0 (.int o)) 1 (.int (1 : Int32))) (upd (upd (upd (upd own_f0 (2 * 0) (.int p4)) (2 * 0 + 1) (.int p3)) (2 * 1) (.int p3)) (2 * 1 + 1) (.int p4)) (0 : Int32) p3 p4 h39 G40.old Bi39 (by decide) E_s_JsonDocument_Kind_OBJECT F_s_JsonDocument_Kind_OBJECT_ordinal (Or.inl rfl)) (by decide) (W := 0) (by decide) (by rw [hml]; rfl) (argsL := [(.ref w_s_JsonDocument_Kind_OBJECT), (.int (0 : Int32)), (.int p3), (.int p4)]) (lenOf pd_8 rfl) rfl (Nat.le_of_eq rfl) (cells' := 9) rfl (by decide) (slots' := 93) rfl (by decide) (pc' := 117) rfl ?_
        intro T41 h41 r41 G41 Q41
        obtain ⟨hr41, Bz41⟩ := Q41
        subst hr41
        have Bi41 : BI Z h41 b1 3 (upd (upd (upd own_f0 0 (.int o)) 1 (.int (1 : Int32))) 2 (.int (0 : Int32))) (upd (upd (upd (upd (upd (upd own_f0 (2 * 0) (.int p4)) (2 * 0 + 1) (.int p3)) (2 * 1) (.int p3)) (2 * 1 + 1) (.int p4)) (2 * 2) (.int p3)) (2 * 2 + 1) (.int p4)) := Bz41
        have E41 := own_biE Bi41
        refine Jvm.Own.pop G41.here hx (hb hby at_117) rfl (pc' := 118) rfl ?_
        refine Jvm.Own.iload G41.here hx (hb hby at_118) rfl (pc' := 120) rfl ?_
        refine Jvm.Own.iconst G41.here hx (hb hby at_120) (v := (3 : Int32)) rfl (pc' := 121) rfl ?_
        refine Jvm.Own.icmpN G41.here hx (hb hby at_121) (flt (by decide : ¬ (3 : Int32) < (3 : Int32))).1 (pc' := 124) rfl ?_
        refine Jvm.Own.aload G41.here hx (hb hby at_124) rfl rfl (pc' := 126) rfl ?_
        refine Jvm.Own.getstatic G41 hx (hb hby at_126) (host := "") (Or.inl (hw _ (List.mem_of_getElem? (i := 18) rfl))) Via.refl S_s_JsonDocument_Kind_ARRAY (pc' := 129) rfl ?_
        intro T42 G42
        refine Jvm.Own.iconst G42.here hx (hb hby at_129) (v := (0 : Int32)) rfl (pc' := 130) rfl ?_
        refine Jvm.Own.iloadN G42.here hx (hb hby at_130) rfl (pc' := 131) rfl ?_
        refine Jvm.Own.iload G42.here hx (hb hby at_131) rfl (pc' := 133) rfl ?_
        refine Jvm.Own.callV1 (y := (⟨"com/example/tailhead/tailhead/json/JsonDocument$Builder", "add", "(Lcom/example/tailhead/tailhead/json/JsonDocument$Kind;ZII)I"⟩ : MethodName)) (z := (⟨"com/example/tailhead/tailhead/json/JsonDocument$Builder", "add", "(Lcom/example/tailhead/tailhead/json/JsonDocument$Kind;ZII)I"⟩ : MethodName)) G42 hx (hb hby at_133) (nfOf (y := (⟨"com/example/tailhead/tailhead/json/JsonDocument$Builder", "add", "(Lcom/example/tailhead/tailhead/json/JsonDocument$Kind;ZII)I"⟩ : MethodName)) (z := (⟨"com/example/tailhead/tailhead/json/JsonDocument$Builder", "add", "(Lcom/example/tailhead/tailhead/json/JsonDocument$Kind;ZII)I"⟩ : MethodName)) rfl (hw _ (List.mem_of_getElem? (i := 23) rfl))) (hw _ (List.mem_of_getElem? (i := 20) rfl)) (hw _ (List.mem_of_getElem? (i := 21) rfl)) (hw _ (List.mem_of_getElem? (i := 23) rfl)) (hw _ (List.mem_of_getElem? (i := 22) rfl)) (hw _ (List.mem_of_getElem? (i := 2) rfl)) (hw _ (List.mem_of_getElem? (i := 24) rfl)) (by decide) E41 (rm_ad l Z a0 hw b1 w_s_JsonDocument_Kind_ARRAY 3 (upd (upd (upd own_f0 0 (.int o)) 1 (.int (1 : Int32))) 2 (.int (0 : Int32))) (upd (upd (upd (upd (upd (upd own_f0 (2 * 0) (.int p4)) (2 * 0 + 1) (.int p3)) (2 * 1) (.int p3)) (2 * 1 + 1) (.int p4)) (2 * 2) (.int p3)) (2 * 2 + 1) (.int p4)) (1 : Int32) p3 p4 h41 G42.old Bi41 (by decide) E_s_JsonDocument_Kind_ARRAY F_s_JsonDocument_Kind_ARRAY_ordinal (Or.inr rfl)) (by decide) (W := 0) (by decide) (by rw [hml]; rfl) (argsL := [(.ref w_s_JsonDocument_Kind_ARRAY), (.int (0 : Int32)), (.int p3), (.int p4)]) (lenOf pd_8 rfl) rfl (Nat.le_of_eq rfl) (cells' := 11) rfl (by decide) (slots' := 120) rfl (by decide) (pc' := 136) rfl ?_
        intro T43 h43 r43 G43 Q43
        obtain ⟨hr43, Bz43⟩ := Q43
        subst hr43
        have Bi43 : BI Z h43 b1 4 (upd (upd (upd (upd own_f0 0 (.int o)) 1 (.int (1 : Int32))) 2 (.int (0 : Int32))) 3 (.int (1 : Int32))) (upd (upd (upd (upd (upd (upd (upd (upd own_f0 (2 * 0) (.int p4)) (2 * 0 + 1) (.int p3)) (2 * 1) (.int p3)) (2 * 1 + 1) (.int p4)) (2 * 2) (.int p3)) (2 * 2 + 1) (.int p4)) (2 * 3) (.int p3)) (2 * 3 + 1) (.int p4)) := Bz43
        have E43 := own_biE Bi43
        refine Jvm.Own.pop G43.here hx (hb hby at_136) rfl (pc' := 137) rfl ?_
        refine Jvm.Own.aload G43.here hx (hb hby at_137) rfl rfl (pc' := 139) rfl ?_
        refine Jvm.Own.iload G43.here hx (hb hby at_139) rfl (pc' := 141) rfl ?_
        refine Jvm.Own.iloadN G43.here hx (hb hby at_141) rfl (pc' := 142) rfl ?_
        refine Jvm.Own.callV0 (y := (⟨"com/example/tailhead/tailhead/json/JsonDocument$Builder", "complete", "(II)V"⟩ : MethodName)) (z := (⟨"com/example/tailhead/tailhead/json/JsonDocument$Builder", "complete", "(II)V"⟩ : MethodName)) G43 hx (hb hby at_142) (nfOf (y := (⟨"com/example/tailhead/tailhead/json/JsonDocument$Builder", "complete", "(II)V"⟩ : MethodName)) (z := (⟨"com/example/tailhead/tailhead/json/JsonDocument$Builder", "add", "(Lcom/example/tailhead/tailhead/json/JsonDocument$Kind;ZII)I"⟩ : MethodName)) rfl (hw _ (List.mem_of_getElem? (i := 23) rfl))) (hw _ (List.mem_of_getElem? (i := 57) rfl)) (hw _ (List.mem_of_getElem? (i := 58) rfl)) (hw _ (List.mem_of_getElem? (i := 60) rfl)) (hw _ (List.mem_of_getElem? (i := 59) rfl)) (hw _ (List.mem_of_getElem? (i := 2) rfl)) (hw _ (List.mem_of_getElem? (i := 61) rfl)) (by decide) E43 (rm_co l Z a0 hw b1 4 0 (upd (upd (upd (upd own_f0 0 (.int o)) 1 (.int (1 : Int32))) 2 (.int (0 : Int32))) 3 (.int (1 : Int32))) (upd (upd (upd (upd (upd (upd (upd (upd own_f0 (2 * 0) (.int p4)) (2 * 0 + 1) (.int p3)) (2 * 1) (.int p3)) (2 * 1 + 1) (.int p4)) (2 * 2) (.int p3)) (2 * 2 + 1) (.int p4)) (2 * 3) (.int p3)) (2 * 3 + 1) (.int p4)) p2 h43 G43.old Bi43 (by decide)) (by decide) (W := 0) (by decide) (by rw [hml]; rfl) (argsL := [(.int (Int32.ofNat 0)), (.int p2)]) (lenOf pd_9 rfl) rfl (Nat.le_of_eq rfl) (cells' := 11) rfl (by decide) (slots' := 120) rfl (by decide) (pc' := 145) rfl ?_
        intro T44 h44 G44 Q44
        have Bi44 : BI Z h44 b1 4 (upd (upd (upd (upd own_f0 0 (.int o)) 1 (.int (1 : Int32))) 2 (.int (0 : Int32))) 3 (.int (1 : Int32))) (upd (upd (upd (upd (upd (upd (upd (upd (upd (upd own_f0 (2 * 0) (.int p4)) (2 * 0 + 1) (.int p3)) (2 * 1) (.int p3)) (2 * 1 + 1) (.int p4)) (2 * 2) (.int p3)) (2 * 2 + 1) (.int p4)) (2 * 3) (.int p3)) (2 * 3 + 1) (.int p4)) (2 * 0) (.int (Int32.ofNat 4))) (2 * 0 + 1) (.int p2)) := Q44
        have E44 := own_biE Bi44
        refine Jvm.Own.aload G44.here hx (hb hby at_145) rfl rfl (pc' := 147) rfl ?_
        refine Jvm.Own.ldcS (n := 0) rfl G44 hx (hb hby at_147) (hw _ (List.mem_of_getElem? (i := 62) rfl)) (own_wS hw) (by decide) (by decide) (cells' := 13) rfl (by decide) (slots' := 124) rfl (by decide) (pc' := 149) rfl ?_
        intro T45 h45 a45 G45 X45
        have E47 := (E44.ext X45)
        refine Jvm.Own.callV1 (y := (⟨"com/example/tailhead/tailhead/json/JsonDocument$Builder", "build", "(Ljava/lang/String;)Lcom/example/tailhead/tailhead/json/JsonDocument;"⟩ : MethodName)) (z := (⟨"com/example/tailhead/tailhead/json/JsonDocument$Builder", "build", "(Ljava/lang/String;)Lcom/example/tailhead/tailhead/json/JsonDocument;"⟩ : MethodName)) G45 hx (hb hby at_149) (nfOf (y := (⟨"com/example/tailhead/tailhead/json/JsonDocument$Builder", "build", "(Ljava/lang/String;)Lcom/example/tailhead/tailhead/json/JsonDocument;"⟩ : MethodName)) (z := (⟨"com/example/tailhead/tailhead/json/JsonDocument$Builder", "add", "(Lcom/example/tailhead/tailhead/json/JsonDocument$Kind;ZII)I"⟩ : MethodName)) rfl (hw _ (List.mem_of_getElem? (i := 23) rfl))) (hw _ (List.mem_of_getElem? (i := 69) rfl)) (hw _ (List.mem_of_getElem? (i := 70) rfl)) (hw _ (List.mem_of_getElem? (i := 72) rfl)) (hw _ (List.mem_of_getElem? (i := 71) rfl)) (hw _ (List.mem_of_getElem? (i := 2) rfl)) (hw _ (List.mem_of_getElem? (i := 73) rfl)) (by decide) E47 (rm_bu l Z a0 hw b1 a45 4 (upd (upd (upd (upd own_f0 0 (.int o)) 1 (.int (1 : Int32))) 2 (.int (0 : Int32))) 3 (.int (1 : Int32))) (upd (upd (upd (upd (upd (upd (upd (upd (upd (upd own_f0 (2 * 0) (.int p4)) (2 * 0 + 1) (.int p3)) (2 * 1) (.int p3)) (2 * 1 + 1) (.int p4)) (2 * 2) (.int p3)) (2 * 2 + 1) (.int p4)) (2 * 3) (.int p3)) (2 * 3 + 1) (.int p4)) (2 * 0) (.int (Int32.ofNat 4))) (2 * 0 + 1) (.int p2)) h45 G45.old (own_biX Bi44 X45)) (by decide) (W := 0) (by decide) (by rw [hml]; rfl) (argsL := [(.ref a45)]) (lenOf pd_10 rfl) rfl (Nat.le_of_eq rfl) (cells' := 15) rfl (by decide) (slots' := 640) rfl (by decide) (pc' := 152) rfl ?_
        intro T46 h46 r46 G46 Q46
        obtain ⟨d46, hr46, Di46⟩ := Q46
        subst hr46
        have E46 := own_diE Di46
        refine Jvm.Own.astore G46.here hx (hb hby at_152) rfl (Ls' := #[.val (.int p0), .val (.int p1), .val (.int p2), .val (.int p3), .val (.int p4), .val (.ref b1), .val (.int (0 : Int32)), .val (.ref kd), .val (.int (3 : Int32)), .val (.int (Int32.ofNat 0)), .val (.ref d46), .unset]) rfl (pc' := 154) rfl ?_
        refine Jvm.Own.iload G46.here hx (hb hby at_154) rfl (pc' := 156) rfl ?_
        refine Jvm.Own.iload G46.here hx (hb hby at_156) rfl (pc' := 158) rfl ?_
        refine Jvm.Own.ifY G46.here hx (hb hby at_158) ((if0 _ _).trans (teq (by decide : (0 : Int32) = (0 : Int32))).1) (pc' := 165) (by decide) (by decide) ?_
        refine Jvm.Own.iconst G46.here hx (hb hby at_165) (v := (0 : Int32)) rfl (pc' := 166) rfl ?_
        refine Jvm.Own.icmpN G46.here hx (hb hby at_166) (teq ((by decide) : (Int32.ofNat 0) = (0 : Int32))).2 (pc' := 169) rfl ?_
        refine Jvm.Own.iconst G46.here hx (hb hby at_169) (v := (1 : Int32)) rfl (pc' := 170) rfl ?_
        refine Jvm.Own.goto G46.here hx (hb hby at_170) (pc' := 174) (by decide) (by decide) ?_
        refine Jvm.Own.istore G46.here hx (hb hby at_174) (Ls' := #[.val (.int p0), .val (.int p1), .val (.int p2), .val (.int p3), .val (.int p4), .val (.ref b1), .val (.int (0 : Int32)), .val (.ref kd), .val (.int (3 : Int32)), .val (.int (Int32.ofNat 0)), .val (.ref d46), .val (.int (1 : Int32))]) rfl (pc' := 176) rfl ?_
        refine Jvm.Own.iload G46.here hx (hb hby at_176) rfl (pc' := 178) rfl ?_
        refine Jvm.Own.ifN G46.here hx (hb hby at_178) ((if0 _ _).trans (feq (by decide : ¬ (1 : Int32) = (0 : Int32))).1) (pc' := 181) rfl ?_
        refine Jvm.Own.aload G46.here hx (hb hby at_181) rfl rfl (pc' := 183) rfl ?_
        refine Jvm.Own.iload G46.here hx (hb hby at_183) rfl (pc' := 185) rfl ?_
        refine Jvm.Own.callVP (y := (⟨"com/example/tailhead/tailhead/json/JsonDocument", "size", "(I)I"⟩ : MethodName)) (z := (⟨"com/example/tailhead/tailhead/json/JsonDocument", "size", "(I)I"⟩ : MethodName)) G46 hx (hb hby at_185) (nfOf (y := (⟨"com/example/tailhead/tailhead/json/JsonDocument", "size", "(I)I"⟩ : MethodName)) (z := (⟨"com/example/tailhead/tailhead/json/JsonDocument", "size", "(I)I"⟩ : MethodName)) rfl (hw _ (List.mem_of_getElem? (i := 96) rfl))) (hw _ (List.mem_of_getElem? (i := 93) rfl)) (hw _ (List.mem_of_getElem? (i := 94) rfl)) (hw _ (List.mem_of_getElem? (i := 96) rfl)) (hw _ (List.mem_of_getElem? (i := 95) rfl)) (hw _ (List.mem_of_getElem? (i := 76) rfl)) (hw _ (List.mem_of_getElem? (i := 97) rfl)) (by decide) E46 (rm_sz l Z a0 hw d46 4 0 (upd (upd (upd (upd own_f0 0 (.int o)) 1 (.int (1 : Int32))) 2 (.int (0 : Int32))) 3 (.int (1 : Int32))) (upd (upd (upd (upd (upd (upd (upd (upd (upd (upd own_f0 (2 * 0) (.int p4)) (2 * 0 + 1) (.int p3)) (2 * 1) (.int p3)) (2 * 1 + 1) (.int p4)) (2 * 2) (.int p3)) (2 * 2 + 1) (.int p4)) (2 * 3) (.int p3)) (2 * 3 + 1) (.int p4)) (2 * 0) (.int (Int32.ofNat 4))) (2 * 0 + 1) (.int p2)) p2 h46 G46.old Di46 (by decide) (by simp [upd])) (by decide) (W := 0) (by decide) (by rw [hml]; rfl) (argsL := [(.int (Int32.ofNat 0))]) (lenOf pd_11 rfl) rfl (Nat.le_of_eq rfl) (cells' := 15) rfl (by decide) (slots' := 640) rfl (by decide) (pc' := 188) rfl ?_
        intro T48 r48 G48 Q48
        obtain rfl : r48 = .int p2 := Q48
        refine Jvm.Own.iloadN G48.here hx (hb hby at_188) rfl (pc' := 189) rfl ?_
        refine Jvm.Own.icmpN G48.here hx (hb hby at_189) (teq (rfl : p2 = p2)).2 (pc' := 192) rfl ?_
        refine Jvm.Own.aload G48.here hx (hb hby at_192) rfl rfl (pc' := 194) rfl ?_
        refine Jvm.Own.iload G48.here hx (hb hby at_194) rfl (pc' := 196) rfl ?_
        refine Jvm.Own.callVP (y := (⟨"com/example/tailhead/tailhead/json/JsonDocument", "next", "(I)I"⟩ : MethodName)) (z := (⟨"com/example/tailhead/tailhead/json/JsonDocument", "next", "(I)I"⟩ : MethodName)) G48 hx (hb hby at_196) (nfOf (y := (⟨"com/example/tailhead/tailhead/json/JsonDocument", "next", "(I)I"⟩ : MethodName)) (z := (⟨"com/example/tailhead/tailhead/json/JsonDocument", "size", "(I)I"⟩ : MethodName)) rfl (hw _ (List.mem_of_getElem? (i := 96) rfl))) (hw _ (List.mem_of_getElem? (i := 98) rfl)) (hw _ (List.mem_of_getElem? (i := 99) rfl)) (hw _ (List.mem_of_getElem? (i := 101) rfl)) (hw _ (List.mem_of_getElem? (i := 100) rfl)) (hw _ (List.mem_of_getElem? (i := 76) rfl)) (hw _ (List.mem_of_getElem? (i := 102) rfl)) (by decide) E46 (rm_nx l Z a0 hw d46 4 0 (upd (upd (upd (upd own_f0 0 (.int o)) 1 (.int (1 : Int32))) 2 (.int (0 : Int32))) 3 (.int (1 : Int32))) (upd (upd (upd (upd (upd (upd (upd (upd (upd (upd own_f0 (2 * 0) (.int p4)) (2 * 0 + 1) (.int p3)) (2 * 1) (.int p3)) (2 * 1 + 1) (.int p4)) (2 * 2) (.int p3)) (2 * 2 + 1) (.int p4)) (2 * 3) (.int p3)) (2 * 3 + 1) (.int p4)) (2 * 0) (.int (Int32.ofNat 4))) (2 * 0 + 1) (.int p2)) o (Int32.ofNat 4) w_s_JsonDocument_Kind_OBJECT w_s_JsonDocument_Kind_ARRAY h46 G48.old Di46 (by decide) (by simp [upd]) (own_o1 o ho) (by simp [upd]) S_s_JsonDocument_Kind_OBJECT E_s_JsonDocument_Kind_OBJECT S_s_JsonDocument_Kind_ARRAY E_s_JsonDocument_Kind_ARRAY F_s_JsonDocument_Kind_ARRAY_ordinal F_s_JsonDocument_Kind_OBJECT_ordinal S_s_JsonDocument_LAST_HOLDING) (by decide) (W := 0) (by decide) (by rw [hml]; rfl) (argsL := [(.int (Int32.ofNat 0))]) (lenOf pd_11 rfl) rfl (Nat.le_of_eq rfl) (cells' := 15) rfl (by decide) (slots' := 640) rfl (by decide) (pc' := 199) rfl ?_
        intro T49 r49 G49 Q49
        obtain rfl : r49 = .int (Int32.ofNat 4) := Q49
        refine Jvm.Own.iload G49.here hx (hb hby at_199) rfl (pc' := 201) rfl ?_
        refine Jvm.Own.iconst G49.here hx (hb hby at_201) (v := (1 : Int32)) rfl (pc' := 202) rfl ?_
        refine Jvm.Own.iadd G49.here hx (hb hby at_202) (pc' := 203) rfl ?_
        refine Jvm.Own.iload G49.here hx (hb hby at_203) rfl (pc' := 205) rfl ?_
        refine Jvm.Own.iadd G49.here hx (hb hby at_205) (pc' := 206) rfl ?_
        refine Jvm.Own.icmpN G49.here hx (hb hby at_206) (teq ((by decide) : (Int32.ofNat 4) = (((Int32.ofNat 0) + (1 : Int32)) + (3 : Int32)))).2 (pc' := 209) rfl ?_
        refine Jvm.Own.iconst G49.here hx (hb hby at_209) (v := (1 : Int32)) rfl (pc' := 210) rfl ?_
        refine Jvm.Own.goto G49.here hx (hb hby at_210) (pc' := 214) (by decide) (by decide) ?_
        refine Jvm.Own.istore G49.here hx (hb hby at_214) (Ls' := #[.val (.int p0), .val (.int p1), .val (.int p2), .val (.int p3), .val (.int p4), .val (.ref b1), .val (.int (0 : Int32)), .val (.ref kd), .val (.int (3 : Int32)), .val (.int (Int32.ofNat 0)), .val (.ref d46), .val (.int (1 : Int32))]) rfl (pc' := 216) rfl ?_
        refine Jvm.Own.iload G49.here hx (hb hby at_216) rfl (pc' := 218) rfl ?_
        refine Jvm.Own.ifY G49.here hx (hb hby at_218) ((if0 _ _).trans (teq (by decide : (0 : Int32) = (0 : Int32))).1) (pc' := 247) (by decide) (by decide) ?_
        refine Jvm.Own.iload G49.here hx (hb hby at_247) rfl (pc' := 249) rfl ?_
        refine Jvm.Own.iconst G49.here hx (hb hby at_249) (v := (1 : Int32)) rfl (pc' := 250) rfl ?_
        refine Jvm.Own.icmpN G49.here hx (hb hby at_250) (flt (by decide : ¬ (3 : Int32) < (1 : Int32))).1 (pc' := 253) rfl ?_
        refine Jvm.Own.iload G49.here hx (hb hby at_253) rfl (pc' := 255) rfl ?_
        refine Jvm.Own.ifN G49.here hx (hb hby at_255) ((if0 _ _).trans (feq (by decide : ¬ (1 : Int32) = (0 : Int32))).1) (pc' := 258) rfl ?_
        refine Jvm.Own.aload G49.here hx (hb hby at_258) rfl rfl (pc' := 260) rfl ?_
        refine Jvm.Own.iload G49.here hx (hb hby at_260) rfl (pc' := 262) rfl ?_
        refine Jvm.Own.iconst G49.here hx (hb hby at_262) (v := (1 : Int32)) rfl (pc' := 263) rfl ?_
        refine Jvm.Own.iadd G49.here hx (hb hby at_263) (pc' := 264) rfl ?_
        rw [show (Int32.ofNat 0 + (1 : Int32)) = Int32.ofNat 1 from by decide]
        refine Jvm.Own.callVP (y := (⟨"com/example/tailhead/tailhead/json/JsonDocument", "next", "(I)I"⟩ : MethodName)) (z := (⟨"com/example/tailhead/tailhead/json/JsonDocument", "next", "(I)I"⟩ : MethodName)) G49 hx (hb hby at_264) (nfOf (y := (⟨"com/example/tailhead/tailhead/json/JsonDocument", "next", "(I)I"⟩ : MethodName)) (z := (⟨"com/example/tailhead/tailhead/json/JsonDocument", "size", "(I)I"⟩ : MethodName)) rfl (hw _ (List.mem_of_getElem? (i := 96) rfl))) (hw _ (List.mem_of_getElem? (i := 98) rfl)) (hw _ (List.mem_of_getElem? (i := 99) rfl)) (hw _ (List.mem_of_getElem? (i := 101) rfl)) (hw _ (List.mem_of_getElem? (i := 100) rfl)) (hw _ (List.mem_of_getElem? (i := 76) rfl)) (hw _ (List.mem_of_getElem? (i := 102) rfl)) (by decide) E46 (rm_nx l Z a0 hw d46 4 1 (upd (upd (upd (upd own_f0 0 (.int o)) 1 (.int (1 : Int32))) 2 (.int (0 : Int32))) 3 (.int (1 : Int32))) (upd (upd (upd (upd (upd (upd (upd (upd (upd (upd own_f0 (2 * 0) (.int p4)) (2 * 0 + 1) (.int p3)) (2 * 1) (.int p3)) (2 * 1 + 1) (.int p4)) (2 * 2) (.int p3)) (2 * 2 + 1) (.int p4)) (2 * 3) (.int p3)) (2 * 3 + 1) (.int p4)) (2 * 0) (.int (Int32.ofNat 4))) (2 * 0 + 1) (.int p2)) (1 : Int32) p3 w_s_JsonDocument_Kind_OBJECT w_s_JsonDocument_Kind_ARRAY h46 G49.old Di46 (by decide) (by simp [upd]) (by decide) (by simp [upd]) S_s_JsonDocument_Kind_OBJECT E_s_JsonDocument_Kind_OBJECT S_s_JsonDocument_Kind_ARRAY E_s_JsonDocument_Kind_ARRAY F_s_JsonDocument_Kind_ARRAY_ordinal F_s_JsonDocument_Kind_OBJECT_ordinal S_s_JsonDocument_LAST_HOLDING) (by decide) (W := 0) (by decide) (by rw [hml]; rfl) (argsL := [(.int (Int32.ofNat 1))]) (lenOf pd_11 rfl) rfl (Nat.le_of_eq rfl) (cells' := 15) rfl (by decide) (slots' := 640) rfl (by decide) (pc' := 267) rfl ?_
        intro T50 r50 G50 Q50
        obtain rfl : r50 = .int p3 := Q50
        refine Jvm.Own.iloadN G50.here hx (hb hby at_267) rfl (pc' := 268) rfl ?_
        refine Jvm.Own.icmpN G50.here hx (hb hby at_268) (teq (rfl : p3 = p3)).2 (pc' := 271) rfl ?_
        refine Jvm.Own.iconst G50.here hx (hb hby at_271) (v := (1 : Int32)) rfl (pc' := 272) rfl ?_
        refine Jvm.Own.goto G50.here hx (hb hby at_272) (pc' := 276) (by decide) (by decide) ?_
        refine Jvm.Own.istore G50.here hx (hb hby at_276) (Ls' := #[.val (.int p0), .val (.int p1), .val (.int p2), .val (.int p3), .val (.int p4), .val (.ref b1), .val (.int (0 : Int32)), .val (.ref kd), .val (.int (3 : Int32)), .val (.int (Int32.ofNat 0)), .val (.ref d46), .val (.int (1 : Int32))]) rfl (pc' := 278) rfl ?_
        refine Jvm.Own.iload G50.here hx (hb hby at_278) rfl (pc' := 280) rfl ?_
        exact Jvm.Own.retI G50 hx (hb hby at_280) hret hlk (by simp) rfl (by decide) (by decide) ⟨_, rfl, rfl⟩
    by_cases hb28 : (p1 &&& (2 : Int32)) = (0 : Int32)
    · skip
      refine Jvm.Own.ifY G5.here hx (hb hby at_28) ((if0 _ _).trans (teq hb28).1) (pc' := 37) (by decide) (by decide) ?_
      refine Jvm.Own.getstatic G5 hx (hb hby at_37) (host := "") (Or.inl (hw _ (List.mem_of_getElem? (i := 18) rfl))) Via.refl S_s_JsonDocument_Kind_ARRAY (pc' := 40) rfl ?_
      intro T51 G51
      exact K6 T51 G51 w_s_JsonDocument_Kind_ARRAY _ E_s_JsonDocument_Kind_ARRAY F_s_JsonDocument_Kind_ARRAY_ordinal (Or.inr rfl)
    · skip
      refine Jvm.Own.ifN G5.here hx (hb hby at_28) ((if0 _ _).trans (feq hb28).1) (pc' := 31) rfl ?_
      refine Jvm.Own.getstatic G5 hx (hb hby at_31) (host := "") (Or.inl (hw _ (List.mem_of_getElem? (i := 15) rfl))) Via.refl S_s_JsonDocument_Kind_OBJECT (pc' := 34) rfl ?_
      intro T52 G52
      refine Jvm.Own.goto G52.here hx (hb hby at_34) (pc' := 40) (by decide) (by decide) ?_
      exact K6 T52 G52 w_s_JsonDocument_Kind_OBJECT _ E_s_JsonDocument_Kind_OBJECT F_s_JsonDocument_Kind_OBJECT_ordinal (Or.inl rfl)
  · skip
    refine Jvm.Own.ifN G5.here hx (hb hby at_15) ((if0 _ _).trans (feq hc15).1) (pc' := 18) rfl ?_
    refine Jvm.Own.iconst G5.here hx (hb hby at_18) (v := (1 : Int32)) rfl (pc' := 19) rfl ?_
    refine Jvm.Own.goto G5.here hx (hb hby at_19) (pc' := 23) (by decide) (by decide) ?_
    refine Jvm.Own.istore G5.here hx (hb hby at_23) (Ls' := #[.val (.int p0), .val (.int p1), .val (.int p2), .val (.int p3), .val (.int p4), .val (.ref b1), .val (.int (1 : Int32)), .unset, .unset, .unset, .unset, .unset]) rfl (pc' := 25) rfl ?_
    refine Jvm.Own.iloadN G5.here hx (hb hby at_25) rfl (pc' := 26) rfl ?_
    refine Jvm.Own.iconst G5.here hx (hb hby at_26) (v := (2 : Int32)) rfl (pc' := 27) rfl ?_
    refine Jvm.Own.iand G5.here hx (hb hby at_27) (pc' := 28) rfl ?_
    have K53 : ∀ (T54 : State), Go true p l e room_1 s m #[(.int p0), (.int p1), (.int p2), (.int p3), (.int p4)] below meth ck Z "com/example/tailhead/tailhead/json/BuilderCompletePinLaw" T54 h5 3 12 → ∀ (kd : Addr) (o : Int32), (Exa Z Z.heap kd "com/example/tailhead/tailhead/json/JsonDocument$Kind") → (Fld Z Z.heap kd "java/lang/Enum" "ordinal" "I" (.int o)) → (o = 0 ∨ o = 1) → Fz true p e room_1 s below Z (fun v h' => ∃ w, v = some w ∧ q0 w h') (T54.setTop (mkF m 40 #[.val (.int p0), .val (.int p1), .val (.int p2), .val (.int p3), .val (.int p4), .val (.ref b1), .val (.int (1 : Int32)), .unset, .unset, .unset, .unset, .unset] [(.ref kd)])) := by
      intro T54 G54 kd o Ekd Fo ho
      refine Jvm.Own.astore G54.here hx (hb hby at_40) rfl (Ls' := #[.val (.int p0), .val (.int p1), .val (.int p2), .val (.int p3), .val (.int p4), .val (.ref b1), .val (.int (1 : Int32)), .val (.ref kd), .unset, .unset, .unset, .unset]) rfl (pc' := 42) rfl ?_
      refine Jvm.Own.iloadN G54.here hx (hb hby at_42) rfl (pc' := 43) rfl ?_
      refine Jvm.Own.iconst G54.here hx (hb hby at_43) (v := (2 : Int32)) rfl (pc' := 44) rfl ?_
      refine Jvm.Own.iushr G54.here hx (hb hby at_44) (pc' := 45) rfl ?_
      refine Jvm.Own.iconst G54.here hx (hb hby at_45) (v := (3 : Int32)) rfl (pc' := 46) rfl ?_
      refine Jvm.Own.iand G54.here hx (hb hby at_46) (pc' := 47) rfl ?_
      rcases own_and3 ((p1.toUInt32 >>> ((2 : Int32) &&& 31).toUInt32).toInt32) with ek | ek | ek | ek
      · rw [ek]
        refine Jvm.Own.istore G54.here hx (hb hby at_47) (Ls' := #[.val (.int p0), .val (.int p1), .val (.int p2), .val (.int p3), .val (.int p4), .val (.ref b1), .val (.int (1 : Int32)), .val (.ref kd), .val (.int (0 : Int32)), .unset, .unset, .unset]) rfl (pc' := 49) rfl ?_
        refine Jvm.Own.iload G54.here hx (hb hby at_49) rfl (pc' := 51) rfl ?_
        refine Jvm.Own.ifN G54.here hx (hb hby at_51) ((if0 _ _).trans (feq (by decide : ¬ (1 : Int32) = (0 : Int32))).1) (pc' := 54) rfl ?_
        refine Jvm.Own.aload G54.here hx (hb hby at_54) rfl rfl (pc' := 56) rfl ?_
        refine Jvm.Own.getstatic G54 hx (hb hby at_56) (host := "") (Or.inl (hw _ (List.mem_of_getElem? (i := 18) rfl))) Via.refl S_s_JsonDocument_Kind_ARRAY (pc' := 59) rfl ?_
        intro T55 G55
        refine Jvm.Own.iconst G55.here hx (hb hby at_59) (v := (0 : Int32)) rfl (pc' := 60) rfl ?_
        refine Jvm.Own.iloadN G55.here hx (hb hby at_60) rfl (pc' := 61) rfl ?_
        refine Jvm.Own.iload G55.here hx (hb hby at_61) rfl (pc' := 63) rfl ?_
        refine Jvm.Own.callV1 (y := (⟨"com/example/tailhead/tailhead/json/JsonDocument$Builder", "add", "(Lcom/example/tailhead/tailhead/json/JsonDocument$Kind;ZII)I"⟩ : MethodName)) (z := (⟨"com/example/tailhead/tailhead/json/JsonDocument$Builder", "add", "(Lcom/example/tailhead/tailhead/json/JsonDocument$Kind;ZII)I"⟩ : MethodName)) G55 hx (hb hby at_63) (nfOf (y := (⟨"com/example/tailhead/tailhead/json/JsonDocument$Builder", "add", "(Lcom/example/tailhead/tailhead/json/JsonDocument$Kind;ZII)I"⟩ : MethodName)) (z := (⟨"com/example/tailhead/tailhead/json/JsonDocument$Builder", "add", "(Lcom/example/tailhead/tailhead/json/JsonDocument$Kind;ZII)I"⟩ : MethodName)) rfl (hw _ (List.mem_of_getElem? (i := 23) rfl))) (hw _ (List.mem_of_getElem? (i := 20) rfl)) (hw _ (List.mem_of_getElem? (i := 21) rfl)) (hw _ (List.mem_of_getElem? (i := 23) rfl)) (hw _ (List.mem_of_getElem? (i := 22) rfl)) (hw _ (List.mem_of_getElem? (i := 2) rfl)) (hw _ (List.mem_of_getElem? (i := 24) rfl)) (by decide) E5 (rm_ad l Z a0 hw b1 w_s_JsonDocument_Kind_ARRAY 0 own_f0 own_f0 (1 : Int32) p3 p4 h5 G55.old Bi5 (by decide) E_s_JsonDocument_Kind_ARRAY F_s_JsonDocument_Kind_ARRAY_ordinal (Or.inr rfl)) (by decide) (W := 0) (by decide) (by rw [hml]; rfl) (argsL := [(.ref w_s_JsonDocument_Kind_ARRAY), (.int (0 : Int32)), (.int p3), (.int p4)]) (lenOf pd_8 rfl) rfl (Nat.le_of_eq rfl) (cells' := 5) rfl (by decide) (slots' := 39) rfl (by decide) (pc' := 66) rfl ?_
        intro T56 h56 r56 G56 Q56
        obtain ⟨hr56, Bz56⟩ := Q56
        subst hr56
        have Bi56 : BI Z h56 b1 1 (upd own_f0 0 (.int (1 : Int32))) (upd (upd own_f0 (2 * 0) (.int p3)) (2 * 0 + 1) (.int p4)) := Bz56
        have E56 := own_biE Bi56
        refine Jvm.Own.pop G56.here hx (hb hby at_66) rfl (pc' := 67) rfl ?_
        refine Jvm.Own.aload G56.here hx (hb hby at_67) rfl rfl (pc' := 69) rfl ?_
        refine Jvm.Own.aload G56.here hx (hb hby at_69) rfl rfl (pc' := 71) rfl ?_
        refine Jvm.Own.iconst G56.here hx (hb hby at_71) (v := (0 : Int32)) rfl (pc' := 72) rfl ?_
        refine Jvm.Own.iload G56.here hx (hb hby at_72) rfl (pc' := 74) rfl ?_
        refine Jvm.Own.iloadN G56.here hx (hb hby at_74) rfl (pc' := 75) rfl ?_
        refine Jvm.Own.callV1 (y := (⟨"com/example/tailhead/tailhead/json/JsonDocument$Builder", "add", "(Lcom/example/tailhead/tailhead/json/JsonDocument$Kind;ZII)I"⟩ : MethodName)) (z := (⟨"com/example/tailhead/tailhead/json/JsonDocument$Builder", "add", "(Lcom/example/tailhead/tailhead/json/JsonDocument$Kind;ZII)I"⟩ : MethodName)) G56 hx (hb hby at_75) (nfOf (y := (⟨"com/example/tailhead/tailhead/json/JsonDocument$Builder", "add", "(Lcom/example/tailhead/tailhead/json/JsonDocument$Kind;ZII)I"⟩ : MethodName)) (z := (⟨"com/example/tailhead/tailhead/json/JsonDocument$Builder", "add", "(Lcom/example/tailhead/tailhead/json/JsonDocument$Kind;ZII)I"⟩ : MethodName)) rfl (hw _ (List.mem_of_getElem? (i := 23) rfl))) (hw _ (List.mem_of_getElem? (i := 20) rfl)) (hw _ (List.mem_of_getElem? (i := 21) rfl)) (hw _ (List.mem_of_getElem? (i := 23) rfl)) (hw _ (List.mem_of_getElem? (i := 22) rfl)) (hw _ (List.mem_of_getElem? (i := 2) rfl)) (hw _ (List.mem_of_getElem? (i := 24) rfl)) (by decide) E56 (rm_ad l Z a0 hw b1 kd 1 (upd own_f0 0 (.int (1 : Int32))) (upd (upd own_f0 (2 * 0) (.int p3)) (2 * 0 + 1) (.int p4)) o p4 p3 h56 G56.old Bi56 (by decide) Ekd Fo ho) (by decide) (W := 0) (by decide) (by rw [hml]; rfl) (argsL := [(.ref kd), (.int (0 : Int32)), (.int p4), (.int p3)]) (lenOf pd_8 rfl) rfl (Nat.le_of_eq rfl) (cells' := 7) rfl (by decide) (slots' := 66) rfl (by decide) (pc' := 78) rfl ?_
        intro T57 h57 r57 G57 Q57
        obtain ⟨hr57, Bz57⟩ := Q57
        subst hr57
        have Bi57 : BI Z h57 b1 2 (upd (upd own_f0 0 (.int (1 : Int32))) 1 (.int o)) (upd (upd (upd (upd own_f0 (2 * 0) (.int p3)) (2 * 0 + 1) (.int p4)) (2 * 1) (.int p4)) (2 * 1 + 1) (.int p3)) := Bz57
        have E57 := own_biE Bi57
        refine Jvm.Own.istore G57.here hx (hb hby at_78) (Ls' := #[.val (.int p0), .val (.int p1), .val (.int p2), .val (.int p3), .val (.int p4), .val (.ref b1), .val (.int (1 : Int32)), .val (.ref kd), .val (.int (0 : Int32)), .val (.int (Int32.ofNat 1)), .unset, .unset]) rfl (pc' := 80) rfl ?_
        refine Jvm.Own.iload G57.here hx (hb hby at_80) rfl (pc' := 82) rfl ?_
        refine Jvm.Own.iconst G57.here hx (hb hby at_82) (v := (1 : Int32)) rfl (pc' := 83) rfl ?_
        refine Jvm.Own.icmpY G57.here hx (hb hby at_83) (tlt (by decide : (0 : Int32) < (1 : Int32))).1 (pc' := 99) (by decide) (by decide) ?_
        refine Jvm.Own.iload G57.here hx (hb hby at_99) rfl (pc' := 101) rfl ?_
        refine Jvm.Own.iconst G57.here hx (hb hby at_101) (v := (2 : Int32)) rfl (pc' := 102) rfl ?_
        refine Jvm.Own.icmpY G57.here hx (hb hby at_102) (tlt (by decide : (0 : Int32) < (2 : Int32))).1 (pc' := 118) (by decide) (by decide) ?_
        refine Jvm.Own.iload G57.here hx (hb hby at_118) rfl (pc' := 120) rfl ?_
        refine Jvm.Own.iconst G57.here hx (hb hby at_120) (v := (3 : Int32)) rfl (pc' := 121) rfl ?_
        refine Jvm.Own.icmpY G57.here hx (hb hby at_121) (tlt (by decide : (0 : Int32) < (3 : Int32))).1 (pc' := 137) (by decide) (by decide) ?_
        refine Jvm.Own.aload G57.here hx (hb hby at_137) rfl rfl (pc' := 139) rfl ?_
        refine Jvm.Own.iload G57.here hx (hb hby at_139) rfl (pc' := 141) rfl ?_
        refine Jvm.Own.iloadN G57.here hx (hb hby at_141) rfl (pc' := 142) rfl ?_
        refine Jvm.Own.callV0 (y := (⟨"com/example/tailhead/tailhead/json/JsonDocument$Builder", "complete", "(II)V"⟩ : MethodName)) (z := (⟨"com/example/tailhead/tailhead/json/JsonDocument$Builder", "complete", "(II)V"⟩ : MethodName)) G57 hx (hb hby at_142) (nfOf (y := (⟨"com/example/tailhead/tailhead/json/JsonDocument$Builder", "complete", "(II)V"⟩ : MethodName)) (z := (⟨"com/example/tailhead/tailhead/json/JsonDocument$Builder", "add", "(Lcom/example/tailhead/tailhead/json/JsonDocument$Kind;ZII)I"⟩ : MethodName)) rfl (hw _ (List.mem_of_getElem? (i := 23) rfl))) (hw _ (List.mem_of_getElem? (i := 57) rfl)) (hw _ (List.mem_of_getElem? (i := 58) rfl)) (hw _ (List.mem_of_getElem? (i := 60) rfl)) (hw _ (List.mem_of_getElem? (i := 59) rfl)) (hw _ (List.mem_of_getElem? (i := 2) rfl)) (hw _ (List.mem_of_getElem? (i := 61) rfl)) (by decide) E57 (rm_co l Z a0 hw b1 2 1 (upd (upd own_f0 0 (.int (1 : Int32))) 1 (.int o)) (upd (upd (upd (upd own_f0 (2 * 0) (.int p3)) (2 * 0 + 1) (.int p4)) (2 * 1) (.int p4)) (2 * 1 + 1) (.int p3)) p2 h57 G57.old Bi57 (by decide)) (by decide) (W := 0) (by decide) (by rw [hml]; rfl) (argsL := [(.int (Int32.ofNat 1)), (.int p2)]) (lenOf pd_9 rfl) rfl (Nat.le_of_eq rfl) (cells' := 7) rfl (by decide) (slots' := 66) rfl (by decide) (pc' := 145) rfl ?_
        intro T58 h58 G58 Q58
        have Bi58 : BI Z h58 b1 2 (upd (upd own_f0 0 (.int (1 : Int32))) 1 (.int o)) (upd (upd (upd (upd (upd (upd own_f0 (2 * 0) (.int p3)) (2 * 0 + 1) (.int p4)) (2 * 1) (.int p4)) (2 * 1 + 1) (.int p3)) (2 * 1) (.int (Int32.ofNat 2))) (2 * 1 + 1) (.int p2)) := Q58
        have E58 := own_biE Bi58
        refine Jvm.Own.aload G58.here hx (hb hby at_145) rfl rfl (pc' := 147) rfl ?_
        refine Jvm.Own.ldcS (n := 0) rfl G58 hx (hb hby at_147) (hw _ (List.mem_of_getElem? (i := 62) rfl)) (own_wS hw) (by decide) (by decide) (cells' := 9) rfl (by decide) (slots' := 70) rfl (by decide) (pc' := 149) rfl ?_
        intro T59 h59 a59 G59 X59
        have E61 := (E58.ext X59)
        refine Jvm.Own.callV1 (y := (⟨"com/example/tailhead/tailhead/json/JsonDocument$Builder", "build", "(Ljava/lang/String;)Lcom/example/tailhead/tailhead/json/JsonDocument;"⟩ : MethodName)) (z := (⟨"com/example/tailhead/tailhead/json/JsonDocument$Builder", "build", "(Ljava/lang/String;)Lcom/example/tailhead/tailhead/json/JsonDocument;"⟩ : MethodName)) G59 hx (hb hby at_149) (nfOf (y := (⟨"com/example/tailhead/tailhead/json/JsonDocument$Builder", "build", "(Ljava/lang/String;)Lcom/example/tailhead/tailhead/json/JsonDocument;"⟩ : MethodName)) (z := (⟨"com/example/tailhead/tailhead/json/JsonDocument$Builder", "add", "(Lcom/example/tailhead/tailhead/json/JsonDocument$Kind;ZII)I"⟩ : MethodName)) rfl (hw _ (List.mem_of_getElem? (i := 23) rfl))) (hw _ (List.mem_of_getElem? (i := 69) rfl)) (hw _ (List.mem_of_getElem? (i := 70) rfl)) (hw _ (List.mem_of_getElem? (i := 72) rfl)) (hw _ (List.mem_of_getElem? (i := 71) rfl)) (hw _ (List.mem_of_getElem? (i := 2) rfl)) (hw _ (List.mem_of_getElem? (i := 73) rfl)) (by decide) E61 (rm_bu l Z a0 hw b1 a59 2 (upd (upd own_f0 0 (.int (1 : Int32))) 1 (.int o)) (upd (upd (upd (upd (upd (upd own_f0 (2 * 0) (.int p3)) (2 * 0 + 1) (.int p4)) (2 * 1) (.int p4)) (2 * 1 + 1) (.int p3)) (2 * 1) (.int (Int32.ofNat 2))) (2 * 1 + 1) (.int p2)) h59 G59.old (own_biX Bi58 X59)) (by decide) (W := 0) (by decide) (by rw [hml]; rfl) (argsL := [(.ref a59)]) (lenOf pd_10 rfl) rfl (Nat.le_of_eq rfl) (cells' := 11) rfl (by decide) (slots' := 586) rfl (by decide) (pc' := 152) rfl ?_
        intro T60 h60 r60 G60 Q60
        obtain ⟨d60, hr60, Di60⟩ := Q60
        subst hr60
        have E60 := own_diE Di60
        refine Jvm.Own.astore G60.here hx (hb hby at_152) rfl (Ls' := #[.val (.int p0), .val (.int p1), .val (.int p2), .val (.int p3), .val (.int p4), .val (.ref b1), .val (.int (1 : Int32)), .val (.ref kd), .val (.int (0 : Int32)), .val (.int (Int32.ofNat 1)), .val (.ref d60), .unset]) rfl (pc' := 154) rfl ?_
        refine Jvm.Own.iload G60.here hx (hb hby at_154) rfl (pc' := 156) rfl ?_
        refine Jvm.Own.iload G60.here hx (hb hby at_156) rfl (pc' := 158) rfl ?_
        refine Jvm.Own.ifN G60.here hx (hb hby at_158) ((if0 _ _).trans (feq (by decide : ¬ (1 : Int32) = (0 : Int32))).1) (pc' := 161) rfl ?_
        refine Jvm.Own.iconst G60.here hx (hb hby at_161) (v := (1 : Int32)) rfl (pc' := 162) rfl ?_
        refine Jvm.Own.goto G60.here hx (hb hby at_162) (pc' := 166) (by decide) (by decide) ?_
        refine Jvm.Own.icmpN G60.here hx (hb hby at_166) (teq ((by decide) : (Int32.ofNat 1) = (1 : Int32))).2 (pc' := 169) rfl ?_
        refine Jvm.Own.iconst G60.here hx (hb hby at_169) (v := (1 : Int32)) rfl (pc' := 170) rfl ?_
        refine Jvm.Own.goto G60.here hx (hb hby at_170) (pc' := 174) (by decide) (by decide) ?_
        refine Jvm.Own.istore G60.here hx (hb hby at_174) (Ls' := #[.val (.int p0), .val (.int p1), .val (.int p2), .val (.int p3), .val (.int p4), .val (.ref b1), .val (.int (1 : Int32)), .val (.ref kd), .val (.int (0 : Int32)), .val (.int (Int32.ofNat 1)), .val (.ref d60), .val (.int (1 : Int32))]) rfl (pc' := 176) rfl ?_
        refine Jvm.Own.iload G60.here hx (hb hby at_176) rfl (pc' := 178) rfl ?_
        refine Jvm.Own.ifN G60.here hx (hb hby at_178) ((if0 _ _).trans (feq (by decide : ¬ (1 : Int32) = (0 : Int32))).1) (pc' := 181) rfl ?_
        refine Jvm.Own.aload G60.here hx (hb hby at_181) rfl rfl (pc' := 183) rfl ?_
        refine Jvm.Own.iload G60.here hx (hb hby at_183) rfl (pc' := 185) rfl ?_
        refine Jvm.Own.callVP (y := (⟨"com/example/tailhead/tailhead/json/JsonDocument", "size", "(I)I"⟩ : MethodName)) (z := (⟨"com/example/tailhead/tailhead/json/JsonDocument", "size", "(I)I"⟩ : MethodName)) G60 hx (hb hby at_185) (nfOf (y := (⟨"com/example/tailhead/tailhead/json/JsonDocument", "size", "(I)I"⟩ : MethodName)) (z := (⟨"com/example/tailhead/tailhead/json/JsonDocument", "size", "(I)I"⟩ : MethodName)) rfl (hw _ (List.mem_of_getElem? (i := 96) rfl))) (hw _ (List.mem_of_getElem? (i := 93) rfl)) (hw _ (List.mem_of_getElem? (i := 94) rfl)) (hw _ (List.mem_of_getElem? (i := 96) rfl)) (hw _ (List.mem_of_getElem? (i := 95) rfl)) (hw _ (List.mem_of_getElem? (i := 76) rfl)) (hw _ (List.mem_of_getElem? (i := 97) rfl)) (by decide) E60 (rm_sz l Z a0 hw d60 2 1 (upd (upd own_f0 0 (.int (1 : Int32))) 1 (.int o)) (upd (upd (upd (upd (upd (upd own_f0 (2 * 0) (.int p3)) (2 * 0 + 1) (.int p4)) (2 * 1) (.int p4)) (2 * 1 + 1) (.int p3)) (2 * 1) (.int (Int32.ofNat 2))) (2 * 1 + 1) (.int p2)) p2 h60 G60.old Di60 (by decide) (by simp [upd])) (by decide) (W := 0) (by decide) (by rw [hml]; rfl) (argsL := [(.int (Int32.ofNat 1))]) (lenOf pd_11 rfl) rfl (Nat.le_of_eq rfl) (cells' := 11) rfl (by decide) (slots' := 586) rfl (by decide) (pc' := 188) rfl ?_
        intro T62 r62 G62 Q62
        obtain rfl : r62 = .int p2 := Q62
        refine Jvm.Own.iloadN G62.here hx (hb hby at_188) rfl (pc' := 189) rfl ?_
        refine Jvm.Own.icmpN G62.here hx (hb hby at_189) (teq (rfl : p2 = p2)).2 (pc' := 192) rfl ?_
        refine Jvm.Own.aload G62.here hx (hb hby at_192) rfl rfl (pc' := 194) rfl ?_
        refine Jvm.Own.iload G62.here hx (hb hby at_194) rfl (pc' := 196) rfl ?_
        refine Jvm.Own.callVP (y := (⟨"com/example/tailhead/tailhead/json/JsonDocument", "next", "(I)I"⟩ : MethodName)) (z := (⟨"com/example/tailhead/tailhead/json/JsonDocument", "next", "(I)I"⟩ : MethodName)) G62 hx (hb hby at_196) (nfOf (y := (⟨"com/example/tailhead/tailhead/json/JsonDocument", "next", "(I)I"⟩ : MethodName)) (z := (⟨"com/example/tailhead/tailhead/json/JsonDocument", "size", "(I)I"⟩ : MethodName)) rfl (hw _ (List.mem_of_getElem? (i := 96) rfl))) (hw _ (List.mem_of_getElem? (i := 98) rfl)) (hw _ (List.mem_of_getElem? (i := 99) rfl)) (hw _ (List.mem_of_getElem? (i := 101) rfl)) (hw _ (List.mem_of_getElem? (i := 100) rfl)) (hw _ (List.mem_of_getElem? (i := 76) rfl)) (hw _ (List.mem_of_getElem? (i := 102) rfl)) (by decide) E60 (rm_nx l Z a0 hw d60 2 1 (upd (upd own_f0 0 (.int (1 : Int32))) 1 (.int o)) (upd (upd (upd (upd (upd (upd own_f0 (2 * 0) (.int p3)) (2 * 0 + 1) (.int p4)) (2 * 1) (.int p4)) (2 * 1 + 1) (.int p3)) (2 * 1) (.int (Int32.ofNat 2))) (2 * 1 + 1) (.int p2)) o (Int32.ofNat 2) w_s_JsonDocument_Kind_OBJECT w_s_JsonDocument_Kind_ARRAY h60 G62.old Di60 (by decide) (by simp [upd]) (own_o1 o ho) (by simp [upd]) S_s_JsonDocument_Kind_OBJECT E_s_JsonDocument_Kind_OBJECT S_s_JsonDocument_Kind_ARRAY E_s_JsonDocument_Kind_ARRAY F_s_JsonDocument_Kind_ARRAY_ordinal F_s_JsonDocument_Kind_OBJECT_ordinal S_s_JsonDocument_LAST_HOLDING) (by decide) (W := 0) (by decide) (by rw [hml]; rfl) (argsL := [(.int (Int32.ofNat 1))]) (lenOf pd_11 rfl) rfl (Nat.le_of_eq rfl) (cells' := 11) rfl (by decide) (slots' := 586) rfl (by decide) (pc' := 199) rfl ?_
        intro T63 r63 G63 Q63
        obtain rfl : r63 = .int (Int32.ofNat 2) := Q63
        refine Jvm.Own.iload G63.here hx (hb hby at_199) rfl (pc' := 201) rfl ?_
        refine Jvm.Own.iconst G63.here hx (hb hby at_201) (v := (1 : Int32)) rfl (pc' := 202) rfl ?_
        refine Jvm.Own.iadd G63.here hx (hb hby at_202) (pc' := 203) rfl ?_
        refine Jvm.Own.iload G63.here hx (hb hby at_203) rfl (pc' := 205) rfl ?_
        refine Jvm.Own.iadd G63.here hx (hb hby at_205) (pc' := 206) rfl ?_
        refine Jvm.Own.icmpN G63.here hx (hb hby at_206) (teq ((by decide) : (Int32.ofNat 2) = (((Int32.ofNat 1) + (1 : Int32)) + (0 : Int32)))).2 (pc' := 209) rfl ?_
        refine Jvm.Own.iconst G63.here hx (hb hby at_209) (v := (1 : Int32)) rfl (pc' := 210) rfl ?_
        refine Jvm.Own.goto G63.here hx (hb hby at_210) (pc' := 214) (by decide) (by decide) ?_
        refine Jvm.Own.istore G63.here hx (hb hby at_214) (Ls' := #[.val (.int p0), .val (.int p1), .val (.int p2), .val (.int p3), .val (.int p4), .val (.ref b1), .val (.int (1 : Int32)), .val (.ref kd), .val (.int (0 : Int32)), .val (.int (Int32.ofNat 1)), .val (.ref d60), .val (.int (1 : Int32))]) rfl (pc' := 216) rfl ?_
        refine Jvm.Own.iload G63.here hx (hb hby at_216) rfl (pc' := 218) rfl ?_
        refine Jvm.Own.ifN G63.here hx (hb hby at_218) ((if0 _ _).trans (feq (by decide : ¬ (1 : Int32) = (0 : Int32))).1) (pc' := 221) rfl ?_
        refine Jvm.Own.iload G63.here hx (hb hby at_221) rfl (pc' := 223) rfl ?_
        refine Jvm.Own.ifN G63.here hx (hb hby at_223) ((if0 _ _).trans (feq (by decide : ¬ (1 : Int32) = (0 : Int32))).1) (pc' := 226) rfl ?_
        refine Jvm.Own.aload G63.here hx (hb hby at_226) rfl rfl (pc' := 228) rfl ?_
        refine Jvm.Own.iload G63.here hx (hb hby at_228) rfl (pc' := 230) rfl ?_
        refine Jvm.Own.iconst G63.here hx (hb hby at_230) (v := (1 : Int32)) rfl (pc' := 231) rfl ?_
        refine Jvm.Own.isub G63.here hx (hb hby at_231) (pc' := 232) rfl ?_
        rw [show (Int32.ofNat 1 - (1 : Int32)) = Int32.ofNat 0 from by decide]
        refine Jvm.Own.callVP (y := (⟨"com/example/tailhead/tailhead/json/JsonDocument", "size", "(I)I"⟩ : MethodName)) (z := (⟨"com/example/tailhead/tailhead/json/JsonDocument", "size", "(I)I"⟩ : MethodName)) G63 hx (hb hby at_232) (nfOf (y := (⟨"com/example/tailhead/tailhead/json/JsonDocument", "size", "(I)I"⟩ : MethodName)) (z := (⟨"com/example/tailhead/tailhead/json/JsonDocument", "size", "(I)I"⟩ : MethodName)) rfl (hw _ (List.mem_of_getElem? (i := 96) rfl))) (hw _ (List.mem_of_getElem? (i := 93) rfl)) (hw _ (List.mem_of_getElem? (i := 94) rfl)) (hw _ (List.mem_of_getElem? (i := 96) rfl)) (hw _ (List.mem_of_getElem? (i := 95) rfl)) (hw _ (List.mem_of_getElem? (i := 76) rfl)) (hw _ (List.mem_of_getElem? (i := 97) rfl)) (by decide) E60 (rm_sz l Z a0 hw d60 2 0 (upd (upd own_f0 0 (.int (1 : Int32))) 1 (.int o)) (upd (upd (upd (upd (upd (upd own_f0 (2 * 0) (.int p3)) (2 * 0 + 1) (.int p4)) (2 * 1) (.int p4)) (2 * 1 + 1) (.int p3)) (2 * 1) (.int (Int32.ofNat 2))) (2 * 1 + 1) (.int p2)) p4 h60 G63.old Di60 (by decide) (by simp [upd])) (by decide) (W := 0) (by decide) (by rw [hml]; rfl) (argsL := [(.int (Int32.ofNat 0))]) (lenOf pd_11 rfl) rfl (Nat.le_of_eq rfl) (cells' := 11) rfl (by decide) (slots' := 586) rfl (by decide) (pc' := 235) rfl ?_
        intro T64 r64 G64 Q64
        obtain rfl : r64 = .int p4 := Q64
        refine Jvm.Own.iload G64.here hx (hb hby at_235) rfl (pc' := 237) rfl ?_
        refine Jvm.Own.icmpN G64.here hx (hb hby at_237) (teq (rfl : p4 = p4)).2 (pc' := 240) rfl ?_
        refine Jvm.Own.iconst G64.here hx (hb hby at_240) (v := (1 : Int32)) rfl (pc' := 241) rfl ?_
        refine Jvm.Own.goto G64.here hx (hb hby at_241) (pc' := 245) (by decide) (by decide) ?_
        refine Jvm.Own.istore G64.here hx (hb hby at_245) (Ls' := #[.val (.int p0), .val (.int p1), .val (.int p2), .val (.int p3), .val (.int p4), .val (.ref b1), .val (.int (1 : Int32)), .val (.ref kd), .val (.int (0 : Int32)), .val (.int (Int32.ofNat 1)), .val (.ref d60), .val (.int (1 : Int32))]) rfl (pc' := 247) rfl ?_
        refine Jvm.Own.iload G64.here hx (hb hby at_247) rfl (pc' := 249) rfl ?_
        refine Jvm.Own.iconst G64.here hx (hb hby at_249) (v := (1 : Int32)) rfl (pc' := 250) rfl ?_
        refine Jvm.Own.icmpY G64.here hx (hb hby at_250) (tlt (by decide : (0 : Int32) < (1 : Int32))).1 (pc' := 278) (by decide) (by decide) ?_
        refine Jvm.Own.iload G64.here hx (hb hby at_278) rfl (pc' := 280) rfl ?_
        exact Jvm.Own.retI G64 hx (hb hby at_280) hret hlk (by simp) rfl (by decide) (by decide) ⟨_, rfl, rfl⟩
      · rw [ek]
        refine Jvm.Own.istore G54.here hx (hb hby at_47) (Ls' := #[.val (.int p0), .val (.int p1), .val (.int p2), .val (.int p3), .val (.int p4), .val (.ref b1), .val (.int (1 : Int32)), .val (.ref kd), .val (.int (1 : Int32)), .unset, .unset, .unset]) rfl (pc' := 49) rfl ?_
        refine Jvm.Own.iload G54.here hx (hb hby at_49) rfl (pc' := 51) rfl ?_
        refine Jvm.Own.ifN G54.here hx (hb hby at_51) ((if0 _ _).trans (feq (by decide : ¬ (1 : Int32) = (0 : Int32))).1) (pc' := 54) rfl ?_
        refine Jvm.Own.aload G54.here hx (hb hby at_54) rfl rfl (pc' := 56) rfl ?_
        refine Jvm.Own.getstatic G54 hx (hb hby at_56) (host := "") (Or.inl (hw _ (List.mem_of_getElem? (i := 18) rfl))) Via.refl S_s_JsonDocument_Kind_ARRAY (pc' := 59) rfl ?_
        intro T65 G65
        refine Jvm.Own.iconst G65.here hx (hb hby at_59) (v := (0 : Int32)) rfl (pc' := 60) rfl ?_
        refine Jvm.Own.iloadN G65.here hx (hb hby at_60) rfl (pc' := 61) rfl ?_
        refine Jvm.Own.iload G65.here hx (hb hby at_61) rfl (pc' := 63) rfl ?_
        refine Jvm.Own.callV1 (y := (⟨"com/example/tailhead/tailhead/json/JsonDocument$Builder", "add", "(Lcom/example/tailhead/tailhead/json/JsonDocument$Kind;ZII)I"⟩ : MethodName)) (z := (⟨"com/example/tailhead/tailhead/json/JsonDocument$Builder", "add", "(Lcom/example/tailhead/tailhead/json/JsonDocument$Kind;ZII)I"⟩ : MethodName)) G65 hx (hb hby at_63) (nfOf (y := (⟨"com/example/tailhead/tailhead/json/JsonDocument$Builder", "add", "(Lcom/example/tailhead/tailhead/json/JsonDocument$Kind;ZII)I"⟩ : MethodName)) (z := (⟨"com/example/tailhead/tailhead/json/JsonDocument$Builder", "add", "(Lcom/example/tailhead/tailhead/json/JsonDocument$Kind;ZII)I"⟩ : MethodName)) rfl (hw _ (List.mem_of_getElem? (i := 23) rfl))) (hw _ (List.mem_of_getElem? (i := 20) rfl)) (hw _ (List.mem_of_getElem? (i := 21) rfl)) (hw _ (List.mem_of_getElem? (i := 23) rfl)) (hw _ (List.mem_of_getElem? (i := 22) rfl)) (hw _ (List.mem_of_getElem? (i := 2) rfl)) (hw _ (List.mem_of_getElem? (i := 24) rfl)) (by decide) E5 (rm_ad l Z a0 hw b1 w_s_JsonDocument_Kind_ARRAY 0 own_f0 own_f0 (1 : Int32) p3 p4 h5 G65.old Bi5 (by decide) E_s_JsonDocument_Kind_ARRAY F_s_JsonDocument_Kind_ARRAY_ordinal (Or.inr rfl)) (by decide) (W := 0) (by decide) (by rw [hml]; rfl) (argsL := [(.ref w_s_JsonDocument_Kind_ARRAY), (.int (0 : Int32)), (.int p3), (.int p4)]) (lenOf pd_8 rfl) rfl (Nat.le_of_eq rfl) (cells' := 5) rfl (by decide) (slots' := 39) rfl (by decide) (pc' := 66) rfl ?_
        intro T66 h66 r66 G66 Q66
        obtain ⟨hr66, Bz66⟩ := Q66
        subst hr66
        have Bi66 : BI Z h66 b1 1 (upd own_f0 0 (.int (1 : Int32))) (upd (upd own_f0 (2 * 0) (.int p3)) (2 * 0 + 1) (.int p4)) := Bz66
        have E66 := own_biE Bi66
        refine Jvm.Own.pop G66.here hx (hb hby at_66) rfl (pc' := 67) rfl ?_
        refine Jvm.Own.aload G66.here hx (hb hby at_67) rfl rfl (pc' := 69) rfl ?_
        refine Jvm.Own.aload G66.here hx (hb hby at_69) rfl rfl (pc' := 71) rfl ?_
        refine Jvm.Own.iconst G66.here hx (hb hby at_71) (v := (0 : Int32)) rfl (pc' := 72) rfl ?_
        refine Jvm.Own.iload G66.here hx (hb hby at_72) rfl (pc' := 74) rfl ?_
        refine Jvm.Own.iloadN G66.here hx (hb hby at_74) rfl (pc' := 75) rfl ?_
        refine Jvm.Own.callV1 (y := (⟨"com/example/tailhead/tailhead/json/JsonDocument$Builder", "add", "(Lcom/example/tailhead/tailhead/json/JsonDocument$Kind;ZII)I"⟩ : MethodName)) (z := (⟨"com/example/tailhead/tailhead/json/JsonDocument$Builder", "add", "(Lcom/example/tailhead/tailhead/json/JsonDocument$Kind;ZII)I"⟩ : MethodName)) G66 hx (hb hby at_75) (nfOf (y := (⟨"com/example/tailhead/tailhead/json/JsonDocument$Builder", "add", "(Lcom/example/tailhead/tailhead/json/JsonDocument$Kind;ZII)I"⟩ : MethodName)) (z := (⟨"com/example/tailhead/tailhead/json/JsonDocument$Builder", "add", "(Lcom/example/tailhead/tailhead/json/JsonDocument$Kind;ZII)I"⟩ : MethodName)) rfl (hw _ (List.mem_of_getElem? (i := 23) rfl))) (hw _ (List.mem_of_getElem? (i := 20) rfl)) (hw _ (List.mem_of_getElem? (i := 21) rfl)) (hw _ (List.mem_of_getElem? (i := 23) rfl)) (hw _ (List.mem_of_getElem? (i := 22) rfl)) (hw _ (List.mem_of_getElem? (i := 2) rfl)) (hw _ (List.mem_of_getElem? (i := 24) rfl)) (by decide) E66 (rm_ad l Z a0 hw b1 kd 1 (upd own_f0 0 (.int (1 : Int32))) (upd (upd own_f0 (2 * 0) (.int p3)) (2 * 0 + 1) (.int p4)) o p4 p3 h66 G66.old Bi66 (by decide) Ekd Fo ho) (by decide) (W := 0) (by decide) (by rw [hml]; rfl) (argsL := [(.ref kd), (.int (0 : Int32)), (.int p4), (.int p3)]) (lenOf pd_8 rfl) rfl (Nat.le_of_eq rfl) (cells' := 7) rfl (by decide) (slots' := 66) rfl (by decide) (pc' := 78) rfl ?_
        intro T67 h67 r67 G67 Q67
        obtain ⟨hr67, Bz67⟩ := Q67
        subst hr67
        have Bi67 : BI Z h67 b1 2 (upd (upd own_f0 0 (.int (1 : Int32))) 1 (.int o)) (upd (upd (upd (upd own_f0 (2 * 0) (.int p3)) (2 * 0 + 1) (.int p4)) (2 * 1) (.int p4)) (2 * 1 + 1) (.int p3)) := Bz67
        have E67 := own_biE Bi67
        refine Jvm.Own.istore G67.here hx (hb hby at_78) (Ls' := #[.val (.int p0), .val (.int p1), .val (.int p2), .val (.int p3), .val (.int p4), .val (.ref b1), .val (.int (1 : Int32)), .val (.ref kd), .val (.int (1 : Int32)), .val (.int (Int32.ofNat 1)), .unset, .unset]) rfl (pc' := 80) rfl ?_
        refine Jvm.Own.iload G67.here hx (hb hby at_80) rfl (pc' := 82) rfl ?_
        refine Jvm.Own.iconst G67.here hx (hb hby at_82) (v := (1 : Int32)) rfl (pc' := 83) rfl ?_
        refine Jvm.Own.icmpN G67.here hx (hb hby at_83) (flt (by decide : ¬ (1 : Int32) < (1 : Int32))).1 (pc' := 86) rfl ?_
        refine Jvm.Own.aload G67.here hx (hb hby at_86) rfl rfl (pc' := 88) rfl ?_
        refine Jvm.Own.getstatic G67 hx (hb hby at_88) (host := "") (Or.inl (hw _ (List.mem_of_getElem? (i := 18) rfl))) Via.refl S_s_JsonDocument_Kind_ARRAY (pc' := 91) rfl ?_
        intro T68 G68
        refine Jvm.Own.iconst G68.here hx (hb hby at_91) (v := (0 : Int32)) rfl (pc' := 92) rfl ?_
        refine Jvm.Own.iloadN G68.here hx (hb hby at_92) rfl (pc' := 93) rfl ?_
        refine Jvm.Own.iload G68.here hx (hb hby at_93) rfl (pc' := 95) rfl ?_
        refine Jvm.Own.callV1 (y := (⟨"com/example/tailhead/tailhead/json/JsonDocument$Builder", "add", "(Lcom/example/tailhead/tailhead/json/JsonDocument$Kind;ZII)I"⟩ : MethodName)) (z := (⟨"com/example/tailhead/tailhead/json/JsonDocument$Builder", "add", "(Lcom/example/tailhead/tailhead/json/JsonDocument$Kind;ZII)I"⟩ : MethodName)) G68 hx (hb hby at_95) (nfOf (y := (⟨"com/example/tailhead/tailhead/json/JsonDocument$Builder", "add", "(Lcom/example/tailhead/tailhead/json/JsonDocument$Kind;ZII)I"⟩ : MethodName)) (z := (⟨"com/example/tailhead/tailhead/json/JsonDocument$Builder", "add", "(Lcom/example/tailhead/tailhead/json/JsonDocument$Kind;ZII)I"⟩ : MethodName)) rfl (hw _ (List.mem_of_getElem? (i := 23) rfl))) (hw _ (List.mem_of_getElem? (i := 20) rfl)) (hw _ (List.mem_of_getElem? (i := 21) rfl)) (hw _ (List.mem_of_getElem? (i := 23) rfl)) (hw _ (List.mem_of_getElem? (i := 22) rfl)) (hw _ (List.mem_of_getElem? (i := 2) rfl)) (hw _ (List.mem_of_getElem? (i := 24) rfl)) (by decide) E67 (rm_ad l Z a0 hw b1 w_s_JsonDocument_Kind_ARRAY 2 (upd (upd own_f0 0 (.int (1 : Int32))) 1 (.int o)) (upd (upd (upd (upd own_f0 (2 * 0) (.int p3)) (2 * 0 + 1) (.int p4)) (2 * 1) (.int p4)) (2 * 1 + 1) (.int p3)) (1 : Int32) p3 p4 h67 G68.old Bi67 (by decide) E_s_JsonDocument_Kind_ARRAY F_s_JsonDocument_Kind_ARRAY_ordinal (Or.inr rfl)) (by decide) (W := 0) (by decide) (by rw [hml]; rfl) (argsL := [(.ref w_s_JsonDocument_Kind_ARRAY), (.int (0 : Int32)), (.int p3), (.int p4)]) (lenOf pd_8 rfl) rfl (Nat.le_of_eq rfl) (cells' := 9) rfl (by decide) (slots' := 93) rfl (by decide) (pc' := 98) rfl ?_
        intro T69 h69 r69 G69 Q69
        obtain ⟨hr69, Bz69⟩ := Q69
        subst hr69
        have Bi69 : BI Z h69 b1 3 (upd (upd (upd own_f0 0 (.int (1 : Int32))) 1 (.int o)) 2 (.int (1 : Int32))) (upd (upd (upd (upd (upd (upd own_f0 (2 * 0) (.int p3)) (2 * 0 + 1) (.int p4)) (2 * 1) (.int p4)) (2 * 1 + 1) (.int p3)) (2 * 2) (.int p3)) (2 * 2 + 1) (.int p4)) := Bz69
        have E69 := own_biE Bi69
        refine Jvm.Own.pop G69.here hx (hb hby at_98) rfl (pc' := 99) rfl ?_
        refine Jvm.Own.iload G69.here hx (hb hby at_99) rfl (pc' := 101) rfl ?_
        refine Jvm.Own.iconst G69.here hx (hb hby at_101) (v := (2 : Int32)) rfl (pc' := 102) rfl ?_
        refine Jvm.Own.icmpY G69.here hx (hb hby at_102) (tlt (by decide : (1 : Int32) < (2 : Int32))).1 (pc' := 118) (by decide) (by decide) ?_
        refine Jvm.Own.iload G69.here hx (hb hby at_118) rfl (pc' := 120) rfl ?_
        refine Jvm.Own.iconst G69.here hx (hb hby at_120) (v := (3 : Int32)) rfl (pc' := 121) rfl ?_
        refine Jvm.Own.icmpY G69.here hx (hb hby at_121) (tlt (by decide : (1 : Int32) < (3 : Int32))).1 (pc' := 137) (by decide) (by decide) ?_
        refine Jvm.Own.aload G69.here hx (hb hby at_137) rfl rfl (pc' := 139) rfl ?_
        refine Jvm.Own.iload G69.here hx (hb hby at_139) rfl (pc' := 141) rfl ?_
        refine Jvm.Own.iloadN G69.here hx (hb hby at_141) rfl (pc' := 142) rfl ?_
        refine Jvm.Own.callV0 (y := (⟨"com/example/tailhead/tailhead/json/JsonDocument$Builder", "complete", "(II)V"⟩ : MethodName)) (z := (⟨"com/example/tailhead/tailhead/json/JsonDocument$Builder", "complete", "(II)V"⟩ : MethodName)) G69 hx (hb hby at_142) (nfOf (y := (⟨"com/example/tailhead/tailhead/json/JsonDocument$Builder", "complete", "(II)V"⟩ : MethodName)) (z := (⟨"com/example/tailhead/tailhead/json/JsonDocument$Builder", "add", "(Lcom/example/tailhead/tailhead/json/JsonDocument$Kind;ZII)I"⟩ : MethodName)) rfl (hw _ (List.mem_of_getElem? (i := 23) rfl))) (hw _ (List.mem_of_getElem? (i := 57) rfl)) (hw _ (List.mem_of_getElem? (i := 58) rfl)) (hw _ (List.mem_of_getElem? (i := 60) rfl)) (hw _ (List.mem_of_getElem? (i := 59) rfl)) (hw _ (List.mem_of_getElem? (i := 2) rfl)) (hw _ (List.mem_of_getElem? (i := 61) rfl)) (by decide) E69 (rm_co l Z a0 hw b1 3 1 (upd (upd (upd own_f0 0 (.int (1 : Int32))) 1 (.int o)) 2 (.int (1 : Int32))) (upd (upd (upd (upd (upd (upd own_f0 (2 * 0) (.int p3)) (2 * 0 + 1) (.int p4)) (2 * 1) (.int p4)) (2 * 1 + 1) (.int p3)) (2 * 2) (.int p3)) (2 * 2 + 1) (.int p4)) p2 h69 G69.old Bi69 (by decide)) (by decide) (W := 0) (by decide) (by rw [hml]; rfl) (argsL := [(.int (Int32.ofNat 1)), (.int p2)]) (lenOf pd_9 rfl) rfl (Nat.le_of_eq rfl) (cells' := 9) rfl (by decide) (slots' := 93) rfl (by decide) (pc' := 145) rfl ?_
        intro T70 h70 G70 Q70
        have Bi70 : BI Z h70 b1 3 (upd (upd (upd own_f0 0 (.int (1 : Int32))) 1 (.int o)) 2 (.int (1 : Int32))) (upd (upd (upd (upd (upd (upd (upd (upd own_f0 (2 * 0) (.int p3)) (2 * 0 + 1) (.int p4)) (2 * 1) (.int p4)) (2 * 1 + 1) (.int p3)) (2 * 2) (.int p3)) (2 * 2 + 1) (.int p4)) (2 * 1) (.int (Int32.ofNat 3))) (2 * 1 + 1) (.int p2)) := Q70
        have E70 := own_biE Bi70
        refine Jvm.Own.aload G70.here hx (hb hby at_145) rfl rfl (pc' := 147) rfl ?_
        refine Jvm.Own.ldcS (n := 0) rfl G70 hx (hb hby at_147) (hw _ (List.mem_of_getElem? (i := 62) rfl)) (own_wS hw) (by decide) (by decide) (cells' := 11) rfl (by decide) (slots' := 97) rfl (by decide) (pc' := 149) rfl ?_
        intro T71 h71 a71 G71 X71
        have E73 := (E70.ext X71)
        refine Jvm.Own.callV1 (y := (⟨"com/example/tailhead/tailhead/json/JsonDocument$Builder", "build", "(Ljava/lang/String;)Lcom/example/tailhead/tailhead/json/JsonDocument;"⟩ : MethodName)) (z := (⟨"com/example/tailhead/tailhead/json/JsonDocument$Builder", "build", "(Ljava/lang/String;)Lcom/example/tailhead/tailhead/json/JsonDocument;"⟩ : MethodName)) G71 hx (hb hby at_149) (nfOf (y := (⟨"com/example/tailhead/tailhead/json/JsonDocument$Builder", "build", "(Ljava/lang/String;)Lcom/example/tailhead/tailhead/json/JsonDocument;"⟩ : MethodName)) (z := (⟨"com/example/tailhead/tailhead/json/JsonDocument$Builder", "add", "(Lcom/example/tailhead/tailhead/json/JsonDocument$Kind;ZII)I"⟩ : MethodName)) rfl (hw _ (List.mem_of_getElem? (i := 23) rfl))) (hw _ (List.mem_of_getElem? (i := 69) rfl)) (hw _ (List.mem_of_getElem? (i := 70) rfl)) (hw _ (List.mem_of_getElem? (i := 72) rfl)) (hw _ (List.mem_of_getElem? (i := 71) rfl)) (hw _ (List.mem_of_getElem? (i := 2) rfl)) (hw _ (List.mem_of_getElem? (i := 73) rfl)) (by decide) E73 (rm_bu l Z a0 hw b1 a71 3 (upd (upd (upd own_f0 0 (.int (1 : Int32))) 1 (.int o)) 2 (.int (1 : Int32))) (upd (upd (upd (upd (upd (upd (upd (upd own_f0 (2 * 0) (.int p3)) (2 * 0 + 1) (.int p4)) (2 * 1) (.int p4)) (2 * 1 + 1) (.int p3)) (2 * 2) (.int p3)) (2 * 2 + 1) (.int p4)) (2 * 1) (.int (Int32.ofNat 3))) (2 * 1 + 1) (.int p2)) h71 G71.old (own_biX Bi70 X71)) (by decide) (W := 0) (by decide) (by rw [hml]; rfl) (argsL := [(.ref a71)]) (lenOf pd_10 rfl) rfl (Nat.le_of_eq rfl) (cells' := 13) rfl (by decide) (slots' := 613) rfl (by decide) (pc' := 152) rfl ?_
        intro T72 h72 r72 G72 Q72
        obtain ⟨d72, hr72, Di72⟩ := Q72
        subst hr72
        have E72 := own_diE Di72
        refine Jvm.Own.astore G72.here hx (hb hby at_152) rfl (Ls' := #[.val (.int p0), .val (.int p1), .val (.int p2), .val (.int p3), .val (.int p4), .val (.ref b1), .val (.int (1 : Int32)), .val (.ref kd), .val (.int (1 : Int32)), .val (.int (Int32.ofNat 1)), .val (.ref d72), .unset]) rfl (pc' := 154) rfl ?_
        refine Jvm.Own.iload G72.here hx (hb hby at_154) rfl (pc' := 156) rfl ?_
        refine Jvm.Own.iload G72.here hx (hb hby at_156) rfl (pc' := 158) rfl ?_
        refine Jvm.Own.ifN G72.here hx (hb hby at_158) ((if0 _ _).trans (feq (by decide : ¬ (1 : Int32) = (0 : Int32))).1) (pc' := 161) rfl ?_
        refine Jvm.Own.iconst G72.here hx (hb hby at_161) (v := (1 : Int32)) rfl (pc' := 162) rfl ?_
        refine Jvm.Own.goto G72.here hx (hb hby at_162) (pc' := 166) (by decide) (by decide) ?_
        refine Jvm.Own.icmpN G72.here hx (hb hby at_166) (teq ((by decide) : (Int32.ofNat 1) = (1 : Int32))).2 (pc' := 169) rfl ?_
        refine Jvm.Own.iconst G72.here hx (hb hby at_169) (v := (1 : Int32)) rfl (pc' := 170) rfl ?_
        refine Jvm.Own.goto G72.here hx (hb hby at_170) (pc' := 174) (by decide) (by decide) ?_
        refine Jvm.Own.istore G72.here hx (hb hby at_174) (Ls' := #[.val (.int p0), .val (.int p1), .val (.int p2), .val (.int p3), .val (.int p4), .val (.ref b1), .val (.int (1 : Int32)), .val (.ref kd), .val (.int (1 : Int32)), .val (.int (Int32.ofNat 1)), .val (.ref d72), .val (.int (1 : Int32))]) rfl (pc' := 176) rfl ?_
        refine Jvm.Own.iload G72.here hx (hb hby at_176) rfl (pc' := 178) rfl ?_
        refine Jvm.Own.ifN G72.here hx (hb hby at_178) ((if0 _ _).trans (feq (by decide : ¬ (1 : Int32) = (0 : Int32))).1) (pc' := 181) rfl ?_
        refine Jvm.Own.aload G72.here hx (hb hby at_181) rfl rfl (pc' := 183) rfl ?_
        refine Jvm.Own.iload G72.here hx (hb hby at_183) rfl (pc' := 185) rfl ?_
        refine Jvm.Own.callVP (y := (⟨"com/example/tailhead/tailhead/json/JsonDocument", "size", "(I)I"⟩ : MethodName)) (z := (⟨"com/example/tailhead/tailhead/json/JsonDocument", "size", "(I)I"⟩ : MethodName)) G72 hx (hb hby at_185) (nfOf (y := (⟨"com/example/tailhead/tailhead/json/JsonDocument", "size", "(I)I"⟩ : MethodName)) (z := (⟨"com/example/tailhead/tailhead/json/JsonDocument", "size", "(I)I"⟩ : MethodName)) rfl (hw _ (List.mem_of_getElem? (i := 96) rfl))) (hw _ (List.mem_of_getElem? (i := 93) rfl)) (hw _ (List.mem_of_getElem? (i := 94) rfl)) (hw _ (List.mem_of_getElem? (i := 96) rfl)) (hw _ (List.mem_of_getElem? (i := 95) rfl)) (hw _ (List.mem_of_getElem? (i := 76) rfl)) (hw _ (List.mem_of_getElem? (i := 97) rfl)) (by decide) E72 (rm_sz l Z a0 hw d72 3 1 (upd (upd (upd own_f0 0 (.int (1 : Int32))) 1 (.int o)) 2 (.int (1 : Int32))) (upd (upd (upd (upd (upd (upd (upd (upd own_f0 (2 * 0) (.int p3)) (2 * 0 + 1) (.int p4)) (2 * 1) (.int p4)) (2 * 1 + 1) (.int p3)) (2 * 2) (.int p3)) (2 * 2 + 1) (.int p4)) (2 * 1) (.int (Int32.ofNat 3))) (2 * 1 + 1) (.int p2)) p2 h72 G72.old Di72 (by decide) (by simp [upd])) (by decide) (W := 0) (by decide) (by rw [hml]; rfl) (argsL := [(.int (Int32.ofNat 1))]) (lenOf pd_11 rfl) rfl (Nat.le_of_eq rfl) (cells' := 13) rfl (by decide) (slots' := 613) rfl (by decide) (pc' := 188) rfl ?_
        intro T74 r74 G74 Q74
        obtain rfl : r74 = .int p2 := Q74
        refine Jvm.Own.iloadN G74.here hx (hb hby at_188) rfl (pc' := 189) rfl ?_
        refine Jvm.Own.icmpN G74.here hx (hb hby at_189) (teq (rfl : p2 = p2)).2 (pc' := 192) rfl ?_
        refine Jvm.Own.aload G74.here hx (hb hby at_192) rfl rfl (pc' := 194) rfl ?_
        refine Jvm.Own.iload G74.here hx (hb hby at_194) rfl (pc' := 196) rfl ?_
        refine Jvm.Own.callVP (y := (⟨"com/example/tailhead/tailhead/json/JsonDocument", "next", "(I)I"⟩ : MethodName)) (z := (⟨"com/example/tailhead/tailhead/json/JsonDocument", "next", "(I)I"⟩ : MethodName)) G74 hx (hb hby at_196) (nfOf (y := (⟨"com/example/tailhead/tailhead/json/JsonDocument", "next", "(I)I"⟩ : MethodName)) (z := (⟨"com/example/tailhead/tailhead/json/JsonDocument", "size", "(I)I"⟩ : MethodName)) rfl (hw _ (List.mem_of_getElem? (i := 96) rfl))) (hw _ (List.mem_of_getElem? (i := 98) rfl)) (hw _ (List.mem_of_getElem? (i := 99) rfl)) (hw _ (List.mem_of_getElem? (i := 101) rfl)) (hw _ (List.mem_of_getElem? (i := 100) rfl)) (hw _ (List.mem_of_getElem? (i := 76) rfl)) (hw _ (List.mem_of_getElem? (i := 102) rfl)) (by decide) E72 (rm_nx l Z a0 hw d72 3 1 (upd (upd (upd own_f0 0 (.int (1 : Int32))) 1 (.int o)) 2 (.int (1 : Int32))) (upd (upd (upd (upd (upd (upd (upd (upd own_f0 (2 * 0) (.int p3)) (2 * 0 + 1) (.int p4)) (2 * 1) (.int p4)) (2 * 1 + 1) (.int p3)) (2 * 2) (.int p3)) (2 * 2 + 1) (.int p4)) (2 * 1) (.int (Int32.ofNat 3))) (2 * 1 + 1) (.int p2)) o (Int32.ofNat 3) w_s_JsonDocument_Kind_OBJECT w_s_JsonDocument_Kind_ARRAY h72 G74.old Di72 (by decide) (by simp [upd]) (own_o1 o ho) (by simp [upd]) S_s_JsonDocument_Kind_OBJECT E_s_JsonDocument_Kind_OBJECT S_s_JsonDocument_Kind_ARRAY E_s_JsonDocument_Kind_ARRAY F_s_JsonDocument_Kind_ARRAY_ordinal F_s_JsonDocument_Kind_OBJECT_ordinal S_s_JsonDocument_LAST_HOLDING) (by decide) (W := 0) (by decide) (by rw [hml]; rfl) (argsL := [(.int (Int32.ofNat 1))]) (lenOf pd_11 rfl) rfl (Nat.le_of_eq rfl) (cells' := 13) rfl (by decide) (slots' := 613) rfl (by decide) (pc' := 199) rfl ?_
        intro T75 r75 G75 Q75
        obtain rfl : r75 = .int (Int32.ofNat 3) := Q75
        refine Jvm.Own.iload G75.here hx (hb hby at_199) rfl (pc' := 201) rfl ?_
        refine Jvm.Own.iconst G75.here hx (hb hby at_201) (v := (1 : Int32)) rfl (pc' := 202) rfl ?_
        refine Jvm.Own.iadd G75.here hx (hb hby at_202) (pc' := 203) rfl ?_
        refine Jvm.Own.iload G75.here hx (hb hby at_203) rfl (pc' := 205) rfl ?_
        refine Jvm.Own.iadd G75.here hx (hb hby at_205) (pc' := 206) rfl ?_
        refine Jvm.Own.icmpN G75.here hx (hb hby at_206) (teq ((by decide) : (Int32.ofNat 3) = (((Int32.ofNat 1) + (1 : Int32)) + (1 : Int32)))).2 (pc' := 209) rfl ?_
        refine Jvm.Own.iconst G75.here hx (hb hby at_209) (v := (1 : Int32)) rfl (pc' := 210) rfl ?_
        refine Jvm.Own.goto G75.here hx (hb hby at_210) (pc' := 214) (by decide) (by decide) ?_
        refine Jvm.Own.istore G75.here hx (hb hby at_214) (Ls' := #[.val (.int p0), .val (.int p1), .val (.int p2), .val (.int p3), .val (.int p4), .val (.ref b1), .val (.int (1 : Int32)), .val (.ref kd), .val (.int (1 : Int32)), .val (.int (Int32.ofNat 1)), .val (.ref d72), .val (.int (1 : Int32))]) rfl (pc' := 216) rfl ?_
        refine Jvm.Own.iload G75.here hx (hb hby at_216) rfl (pc' := 218) rfl ?_
        refine Jvm.Own.ifN G75.here hx (hb hby at_218) ((if0 _ _).trans (feq (by decide : ¬ (1 : Int32) = (0 : Int32))).1) (pc' := 221) rfl ?_
        refine Jvm.Own.iload G75.here hx (hb hby at_221) rfl (pc' := 223) rfl ?_
        refine Jvm.Own.ifN G75.here hx (hb hby at_223) ((if0 _ _).trans (feq (by decide : ¬ (1 : Int32) = (0 : Int32))).1) (pc' := 226) rfl ?_
        refine Jvm.Own.aload G75.here hx (hb hby at_226) rfl rfl (pc' := 228) rfl ?_
        refine Jvm.Own.iload G75.here hx (hb hby at_228) rfl (pc' := 230) rfl ?_
        refine Jvm.Own.iconst G75.here hx (hb hby at_230) (v := (1 : Int32)) rfl (pc' := 231) rfl ?_
        refine Jvm.Own.isub G75.here hx (hb hby at_231) (pc' := 232) rfl ?_
        rw [show (Int32.ofNat 1 - (1 : Int32)) = Int32.ofNat 0 from by decide]
        refine Jvm.Own.callVP (y := (⟨"com/example/tailhead/tailhead/json/JsonDocument", "size", "(I)I"⟩ : MethodName)) (z := (⟨"com/example/tailhead/tailhead/json/JsonDocument", "size", "(I)I"⟩ : MethodName)) G75 hx (hb hby at_232) (nfOf (y := (⟨"com/example/tailhead/tailhead/json/JsonDocument", "size", "(I)I"⟩ : MethodName)) (z := (⟨"com/example/tailhead/tailhead/json/JsonDocument", "size", "(I)I"⟩ : MethodName)) rfl (hw _ (List.mem_of_getElem? (i := 96) rfl))) (hw _ (List.mem_of_getElem? (i := 93) rfl)) (hw _ (List.mem_of_getElem? (i := 94) rfl)) (hw _ (List.mem_of_getElem? (i := 96) rfl)) (hw _ (List.mem_of_getElem? (i := 95) rfl)) (hw _ (List.mem_of_getElem? (i := 76) rfl)) (hw _ (List.mem_of_getElem? (i := 97) rfl)) (by decide) E72 (rm_sz l Z a0 hw d72 3 0 (upd (upd (upd own_f0 0 (.int (1 : Int32))) 1 (.int o)) 2 (.int (1 : Int32))) (upd (upd (upd (upd (upd (upd (upd (upd own_f0 (2 * 0) (.int p3)) (2 * 0 + 1) (.int p4)) (2 * 1) (.int p4)) (2 * 1 + 1) (.int p3)) (2 * 2) (.int p3)) (2 * 2 + 1) (.int p4)) (2 * 1) (.int (Int32.ofNat 3))) (2 * 1 + 1) (.int p2)) p4 h72 G75.old Di72 (by decide) (by simp [upd])) (by decide) (W := 0) (by decide) (by rw [hml]; rfl) (argsL := [(.int (Int32.ofNat 0))]) (lenOf pd_11 rfl) rfl (Nat.le_of_eq rfl) (cells' := 13) rfl (by decide) (slots' := 613) rfl (by decide) (pc' := 235) rfl ?_
        intro T76 r76 G76 Q76
        obtain rfl : r76 = .int p4 := Q76
        refine Jvm.Own.iload G76.here hx (hb hby at_235) rfl (pc' := 237) rfl ?_
        refine Jvm.Own.icmpN G76.here hx (hb hby at_237) (teq (rfl : p4 = p4)).2 (pc' := 240) rfl ?_
        refine Jvm.Own.iconst G76.here hx (hb hby at_240) (v := (1 : Int32)) rfl (pc' := 241) rfl ?_
        refine Jvm.Own.goto G76.here hx (hb hby at_241) (pc' := 245) (by decide) (by decide) ?_
        refine Jvm.Own.istore G76.here hx (hb hby at_245) (Ls' := #[.val (.int p0), .val (.int p1), .val (.int p2), .val (.int p3), .val (.int p4), .val (.ref b1), .val (.int (1 : Int32)), .val (.ref kd), .val (.int (1 : Int32)), .val (.int (Int32.ofNat 1)), .val (.ref d72), .val (.int (1 : Int32))]) rfl (pc' := 247) rfl ?_
        refine Jvm.Own.iload G76.here hx (hb hby at_247) rfl (pc' := 249) rfl ?_
        refine Jvm.Own.iconst G76.here hx (hb hby at_249) (v := (1 : Int32)) rfl (pc' := 250) rfl ?_
        refine Jvm.Own.icmpN G76.here hx (hb hby at_250) (flt (by decide : ¬ (1 : Int32) < (1 : Int32))).1 (pc' := 253) rfl ?_
        refine Jvm.Own.iload G76.here hx (hb hby at_253) rfl (pc' := 255) rfl ?_
        refine Jvm.Own.ifN G76.here hx (hb hby at_255) ((if0 _ _).trans (feq (by decide : ¬ (1 : Int32) = (0 : Int32))).1) (pc' := 258) rfl ?_
        refine Jvm.Own.aload G76.here hx (hb hby at_258) rfl rfl (pc' := 260) rfl ?_
        refine Jvm.Own.iload G76.here hx (hb hby at_260) rfl (pc' := 262) rfl ?_
        refine Jvm.Own.iconst G76.here hx (hb hby at_262) (v := (1 : Int32)) rfl (pc' := 263) rfl ?_
        refine Jvm.Own.iadd G76.here hx (hb hby at_263) (pc' := 264) rfl ?_
        rw [show (Int32.ofNat 1 + (1 : Int32)) = Int32.ofNat 2 from by decide]
        refine Jvm.Own.callVP (y := (⟨"com/example/tailhead/tailhead/json/JsonDocument", "next", "(I)I"⟩ : MethodName)) (z := (⟨"com/example/tailhead/tailhead/json/JsonDocument", "next", "(I)I"⟩ : MethodName)) G76 hx (hb hby at_264) (nfOf (y := (⟨"com/example/tailhead/tailhead/json/JsonDocument", "next", "(I)I"⟩ : MethodName)) (z := (⟨"com/example/tailhead/tailhead/json/JsonDocument", "size", "(I)I"⟩ : MethodName)) rfl (hw _ (List.mem_of_getElem? (i := 96) rfl))) (hw _ (List.mem_of_getElem? (i := 98) rfl)) (hw _ (List.mem_of_getElem? (i := 99) rfl)) (hw _ (List.mem_of_getElem? (i := 101) rfl)) (hw _ (List.mem_of_getElem? (i := 100) rfl)) (hw _ (List.mem_of_getElem? (i := 76) rfl)) (hw _ (List.mem_of_getElem? (i := 102) rfl)) (by decide) E72 (rm_nx l Z a0 hw d72 3 2 (upd (upd (upd own_f0 0 (.int (1 : Int32))) 1 (.int o)) 2 (.int (1 : Int32))) (upd (upd (upd (upd (upd (upd (upd (upd own_f0 (2 * 0) (.int p3)) (2 * 0 + 1) (.int p4)) (2 * 1) (.int p4)) (2 * 1 + 1) (.int p3)) (2 * 2) (.int p3)) (2 * 2 + 1) (.int p4)) (2 * 1) (.int (Int32.ofNat 3))) (2 * 1 + 1) (.int p2)) (1 : Int32) p3 w_s_JsonDocument_Kind_OBJECT w_s_JsonDocument_Kind_ARRAY h72 G76.old Di72 (by decide) (by simp [upd]) (by decide) (by simp [upd]) S_s_JsonDocument_Kind_OBJECT E_s_JsonDocument_Kind_OBJECT S_s_JsonDocument_Kind_ARRAY E_s_JsonDocument_Kind_ARRAY F_s_JsonDocument_Kind_ARRAY_ordinal F_s_JsonDocument_Kind_OBJECT_ordinal S_s_JsonDocument_LAST_HOLDING) (by decide) (W := 0) (by decide) (by rw [hml]; rfl) (argsL := [(.int (Int32.ofNat 2))]) (lenOf pd_11 rfl) rfl (Nat.le_of_eq rfl) (cells' := 13) rfl (by decide) (slots' := 613) rfl (by decide) (pc' := 267) rfl ?_
        intro T77 r77 G77 Q77
        obtain rfl : r77 = .int p3 := Q77
        refine Jvm.Own.iloadN G77.here hx (hb hby at_267) rfl (pc' := 268) rfl ?_
        refine Jvm.Own.icmpN G77.here hx (hb hby at_268) (teq (rfl : p3 = p3)).2 (pc' := 271) rfl ?_
        refine Jvm.Own.iconst G77.here hx (hb hby at_271) (v := (1 : Int32)) rfl (pc' := 272) rfl ?_
        refine Jvm.Own.goto G77.here hx (hb hby at_272) (pc' := 276) (by decide) (by decide) ?_
        refine Jvm.Own.istore G77.here hx (hb hby at_276) (Ls' := #[.val (.int p0), .val (.int p1), .val (.int p2), .val (.int p3), .val (.int p4), .val (.ref b1), .val (.int (1 : Int32)), .val (.ref kd), .val (.int (1 : Int32)), .val (.int (Int32.ofNat 1)), .val (.ref d72), .val (.int (1 : Int32))]) rfl (pc' := 278) rfl ?_
        refine Jvm.Own.iload G77.here hx (hb hby at_278) rfl (pc' := 280) rfl ?_
        exact Jvm.Own.retI G77 hx (hb hby at_280) hret hlk (by simp) rfl (by decide) (by decide) ⟨_, rfl, rfl⟩
      · rw [ek]
        refine Jvm.Own.istore G54.here hx (hb hby at_47) (Ls' := #[.val (.int p0), .val (.int p1), .val (.int p2), .val (.int p3), .val (.int p4), .val (.ref b1), .val (.int (1 : Int32)), .val (.ref kd), .val (.int (2 : Int32)), .unset, .unset, .unset]) rfl (pc' := 49) rfl ?_
        refine Jvm.Own.iload G54.here hx (hb hby at_49) rfl (pc' := 51) rfl ?_
        refine Jvm.Own.ifN G54.here hx (hb hby at_51) ((if0 _ _).trans (feq (by decide : ¬ (1 : Int32) = (0 : Int32))).1) (pc' := 54) rfl ?_
        refine Jvm.Own.aload G54.here hx (hb hby at_54) rfl rfl (pc' := 56) rfl ?_
        refine Jvm.Own.getstatic G54 hx (hb hby at_56) (host := "") (Or.inl (hw _ (List.mem_of_getElem? (i := 18) rfl))) Via.refl S_s_JsonDocument_Kind_ARRAY (pc' := 59) rfl ?_
        intro T78 G78
        refine Jvm.Own.iconst G78.here hx (hb hby at_59) (v := (0 : Int32)) rfl (pc' := 60) rfl ?_
        refine Jvm.Own.iloadN G78.here hx (hb hby at_60) rfl (pc' := 61) rfl ?_
        refine Jvm.Own.iload G78.here hx (hb hby at_61) rfl (pc' := 63) rfl ?_
        refine Jvm.Own.callV1 (y := (⟨"com/example/tailhead/tailhead/json/JsonDocument$Builder", "add", "(Lcom/example/tailhead/tailhead/json/JsonDocument$Kind;ZII)I"⟩ : MethodName)) (z := (⟨"com/example/tailhead/tailhead/json/JsonDocument$Builder", "add", "(Lcom/example/tailhead/tailhead/json/JsonDocument$Kind;ZII)I"⟩ : MethodName)) G78 hx (hb hby at_63) (nfOf (y := (⟨"com/example/tailhead/tailhead/json/JsonDocument$Builder", "add", "(Lcom/example/tailhead/tailhead/json/JsonDocument$Kind;ZII)I"⟩ : MethodName)) (z := (⟨"com/example/tailhead/tailhead/json/JsonDocument$Builder", "add", "(Lcom/example/tailhead/tailhead/json/JsonDocument$Kind;ZII)I"⟩ : MethodName)) rfl (hw _ (List.mem_of_getElem? (i := 23) rfl))) (hw _ (List.mem_of_getElem? (i := 20) rfl)) (hw _ (List.mem_of_getElem? (i := 21) rfl)) (hw _ (List.mem_of_getElem? (i := 23) rfl)) (hw _ (List.mem_of_getElem? (i := 22) rfl)) (hw _ (List.mem_of_getElem? (i := 2) rfl)) (hw _ (List.mem_of_getElem? (i := 24) rfl)) (by decide) E5 (rm_ad l Z a0 hw b1 w_s_JsonDocument_Kind_ARRAY 0 own_f0 own_f0 (1 : Int32) p3 p4 h5 G78.old Bi5 (by decide) E_s_JsonDocument_Kind_ARRAY F_s_JsonDocument_Kind_ARRAY_ordinal (Or.inr rfl)) (by decide) (W := 0) (by decide) (by rw [hml]; rfl) (argsL := [(.ref w_s_JsonDocument_Kind_ARRAY), (.int (0 : Int32)), (.int p3), (.int p4)]) (lenOf pd_8 rfl) rfl (Nat.le_of_eq rfl) (cells' := 5) rfl (by decide) (slots' := 39) rfl (by decide) (pc' := 66) rfl ?_
        intro T79 h79 r79 G79 Q79
        obtain ⟨hr79, Bz79⟩ := Q79
        subst hr79
        have Bi79 : BI Z h79 b1 1 (upd own_f0 0 (.int (1 : Int32))) (upd (upd own_f0 (2 * 0) (.int p3)) (2 * 0 + 1) (.int p4)) := Bz79
        have E79 := own_biE Bi79
        refine Jvm.Own.pop G79.here hx (hb hby at_66) rfl (pc' := 67) rfl ?_
        refine Jvm.Own.aload G79.here hx (hb hby at_67) rfl rfl (pc' := 69) rfl ?_
        refine Jvm.Own.aload G79.here hx (hb hby at_69) rfl rfl (pc' := 71) rfl ?_
        refine Jvm.Own.iconst G79.here hx (hb hby at_71) (v := (0 : Int32)) rfl (pc' := 72) rfl ?_
        refine Jvm.Own.iload G79.here hx (hb hby at_72) rfl (pc' := 74) rfl ?_
        refine Jvm.Own.iloadN G79.here hx (hb hby at_74) rfl (pc' := 75) rfl ?_
        refine Jvm.Own.callV1 (y := (⟨"com/example/tailhead/tailhead/json/JsonDocument$Builder", "add", "(Lcom/example/tailhead/tailhead/json/JsonDocument$Kind;ZII)I"⟩ : MethodName)) (z := (⟨"com/example/tailhead/tailhead/json/JsonDocument$Builder", "add", "(Lcom/example/tailhead/tailhead/json/JsonDocument$Kind;ZII)I"⟩ : MethodName)) G79 hx (hb hby at_75) (nfOf (y := (⟨"com/example/tailhead/tailhead/json/JsonDocument$Builder", "add", "(Lcom/example/tailhead/tailhead/json/JsonDocument$Kind;ZII)I"⟩ : MethodName)) (z := (⟨"com/example/tailhead/tailhead/json/JsonDocument$Builder", "add", "(Lcom/example/tailhead/tailhead/json/JsonDocument$Kind;ZII)I"⟩ : MethodName)) rfl (hw _ (List.mem_of_getElem? (i := 23) rfl))) (hw _ (List.mem_of_getElem? (i := 20) rfl)) (hw _ (List.mem_of_getElem? (i := 21) rfl)) (hw _ (List.mem_of_getElem? (i := 23) rfl)) (hw _ (List.mem_of_getElem? (i := 22) rfl)) (hw _ (List.mem_of_getElem? (i := 2) rfl)) (hw _ (List.mem_of_getElem? (i := 24) rfl)) (by decide) E79 (rm_ad l Z a0 hw b1 kd 1 (upd own_f0 0 (.int (1 : Int32))) (upd (upd own_f0 (2 * 0) (.int p3)) (2 * 0 + 1) (.int p4)) o p4 p3 h79 G79.old Bi79 (by decide) Ekd Fo ho) (by decide) (W := 0) (by decide) (by rw [hml]; rfl) (argsL := [(.ref kd), (.int (0 : Int32)), (.int p4), (.int p3)]) (lenOf pd_8 rfl) rfl (Nat.le_of_eq rfl) (cells' := 7) rfl (by decide) (slots' := 66) rfl (by decide) (pc' := 78) rfl ?_
        intro T80 h80 r80 G80 Q80
        obtain ⟨hr80, Bz80⟩ := Q80
        subst hr80
        have Bi80 : BI Z h80 b1 2 (upd (upd own_f0 0 (.int (1 : Int32))) 1 (.int o)) (upd (upd (upd (upd own_f0 (2 * 0) (.int p3)) (2 * 0 + 1) (.int p4)) (2 * 1) (.int p4)) (2 * 1 + 1) (.int p3)) := Bz80
        have E80 := own_biE Bi80
        refine Jvm.Own.istore G80.here hx (hb hby at_78) (Ls' := #[.val (.int p0), .val (.int p1), .val (.int p2), .val (.int p3), .val (.int p4), .val (.ref b1), .val (.int (1 : Int32)), .val (.ref kd), .val (.int (2 : Int32)), .val (.int (Int32.ofNat 1)), .unset, .unset]) rfl (pc' := 80) rfl ?_
        refine Jvm.Own.iload G80.here hx (hb hby at_80) rfl (pc' := 82) rfl ?_
        refine Jvm.Own.iconst G80.here hx (hb hby at_82) (v := (1 : Int32)) rfl (pc' := 83) rfl ?_
        refine Jvm.Own.icmpN G80.here hx (hb hby at_83) (flt (by decide : ¬ (2 : Int32) < (1 : Int32))).1 (pc' := 86) rfl ?_
        refine Jvm.Own.aload G80.here hx (hb hby at_86) rfl rfl (pc' := 88) rfl ?_
        refine Jvm.Own.getstatic G80 hx (hb hby at_88) (host := "") (Or.inl (hw _ (List.mem_of_getElem? (i := 18) rfl))) Via.refl S_s_JsonDocument_Kind_ARRAY (pc' := 91) rfl ?_
        intro T81 G81
        refine Jvm.Own.iconst G81.here hx (hb hby at_91) (v := (0 : Int32)) rfl (pc' := 92) rfl ?_
        refine Jvm.Own.iloadN G81.here hx (hb hby at_92) rfl (pc' := 93) rfl ?_
        refine Jvm.Own.iload G81.here hx (hb hby at_93) rfl (pc' := 95) rfl ?_
        refine Jvm.Own.callV1 (y := (⟨"com/example/tailhead/tailhead/json/JsonDocument$Builder", "add", "(Lcom/example/tailhead/tailhead/json/JsonDocument$Kind;ZII)I"⟩ : MethodName)) (z := (⟨"com/example/tailhead/tailhead/json/JsonDocument$Builder", "add", "(Lcom/example/tailhead/tailhead/json/JsonDocument$Kind;ZII)I"⟩ : MethodName)) G81 hx (hb hby at_95) (nfOf (y := (⟨"com/example/tailhead/tailhead/json/JsonDocument$Builder", "add", "(Lcom/example/tailhead/tailhead/json/JsonDocument$Kind;ZII)I"⟩ : MethodName)) (z := (⟨"com/example/tailhead/tailhead/json/JsonDocument$Builder", "add", "(Lcom/example/tailhead/tailhead/json/JsonDocument$Kind;ZII)I"⟩ : MethodName)) rfl (hw _ (List.mem_of_getElem? (i := 23) rfl))) (hw _ (List.mem_of_getElem? (i := 20) rfl)) (hw _ (List.mem_of_getElem? (i := 21) rfl)) (hw _ (List.mem_of_getElem? (i := 23) rfl)) (hw _ (List.mem_of_getElem? (i := 22) rfl)) (hw _ (List.mem_of_getElem? (i := 2) rfl)) (hw _ (List.mem_of_getElem? (i := 24) rfl)) (by decide) E80 (rm_ad l Z a0 hw b1 w_s_JsonDocument_Kind_ARRAY 2 (upd (upd own_f0 0 (.int (1 : Int32))) 1 (.int o)) (upd (upd (upd (upd own_f0 (2 * 0) (.int p3)) (2 * 0 + 1) (.int p4)) (2 * 1) (.int p4)) (2 * 1 + 1) (.int p3)) (1 : Int32) p3 p4 h80 G81.old Bi80 (by decide) E_s_JsonDocument_Kind_ARRAY F_s_JsonDocument_Kind_ARRAY_ordinal (Or.inr rfl)) (by decide) (W := 0) (by decide) (by rw [hml]; rfl) (argsL := [(.ref w_s_JsonDocument_Kind_ARRAY), (.int (0 : Int32)), (.int p3), (.int p4)]) (lenOf pd_8 rfl) rfl (Nat.le_of_eq rfl) (cells' := 9) rfl (by decide) (slots' := 93) rfl (by decide) (pc' := 98) rfl ?_
        intro T82 h82 r82 G82 Q82
        obtain ⟨hr82, Bz82⟩ := Q82
        subst hr82
        have Bi82 : BI Z h82 b1 3 (upd (upd (upd own_f0 0 (.int (1 : Int32))) 1 (.int o)) 2 (.int (1 : Int32))) (upd (upd (upd (upd (upd (upd own_f0 (2 * 0) (.int p3)) (2 * 0 + 1) (.int p4)) (2 * 1) (.int p4)) (2 * 1 + 1) (.int p3)) (2 * 2) (.int p3)) (2 * 2 + 1) (.int p4)) := Bz82
        have E82 := own_biE Bi82
        refine Jvm.Own.pop G82.here hx (hb hby at_98) rfl (pc' := 99) rfl ?_
        refine Jvm.Own.iload G82.here hx (hb hby at_99) rfl (pc' := 101) rfl ?_
        refine Jvm.Own.iconst G82.here hx (hb hby at_101) (v := (2 : Int32)) rfl (pc' := 102) rfl ?_
        refine Jvm.Own.icmpN G82.here hx (hb hby at_102) (flt (by decide : ¬ (2 : Int32) < (2 : Int32))).1 (pc' := 105) rfl ?_
        refine Jvm.Own.aload G82.here hx (hb hby at_105) rfl rfl (pc' := 107) rfl ?_
        refine Jvm.Own.getstatic G82 hx (hb hby at_107) (host := "") (Or.inl (hw _ (List.mem_of_getElem? (i := 15) rfl))) Via.refl S_s_JsonDocument_Kind_OBJECT (pc' := 110) rfl ?_
        intro T83 G83
        refine Jvm.Own.iconst G83.here hx (hb hby at_110) (v := (0 : Int32)) rfl (pc' := 111) rfl ?_
        refine Jvm.Own.iloadN G83.here hx (hb hby at_111) rfl (pc' := 112) rfl ?_
        refine Jvm.Own.iload G83.here hx (hb hby at_112) rfl (pc' := 114) rfl ?_
        refine Jvm.Own.callV1 (y := (⟨"com/example/tailhead/tailhead/json/JsonDocument$Builder", "add", "(Lcom/example/tailhead/tailhead/json/JsonDocument$Kind;ZII)I"⟩ : MethodName)) (z := (⟨"com/example/tailhead/tailhead/json/JsonDocument$Builder", "add", "(Lcom/example/tailhead/tailhead/json/JsonDocument$Kind;ZII)I"⟩ : MethodName)) G83 hx (hb hby at_114) (nfOf (y := (⟨"com/example/tailhead/tailhead/json/JsonDocument$Builder", "add", "(Lcom/example/tailhead/tailhead/json/JsonDocument$Kind;ZII)I"⟩ : MethodName)) (z := (⟨"com/example/tailhead/tailhead/json/JsonDocument$Builder", "add", "(Lcom/example/tailhead/tailhead/json/JsonDocument$Kind;ZII)I"⟩ : MethodName)) rfl (hw _ (List.mem_of_getElem? (i := 23) rfl))) (hw _ (List.mem_of_getElem? (i := 20) rfl)) (hw _ (List.mem_of_getElem? (i := 21) rfl)) (hw _ (List.mem_of_getElem? (i := 23) rfl)) (hw _ (List.mem_of_getElem? (i := 22) rfl)) (hw _ (List.mem_of_getElem? (i := 2) rfl)) (hw _ (List.mem_of_getElem? (i := 24) rfl)) (by decide) E82 (rm_ad l Z a0 hw b1 w_s_JsonDocument_Kind_OBJECT 3 (upd (upd (upd own_f0 0 (.int (1 : Int32))) 1 (.int o)) 2 (.int (1 : Int32))) (upd (upd (upd (upd (upd (upd own_f0 (2 * 0) (.int p3)) (2 * 0 + 1) (.int p4)) (2 * 1) (.int p4)) (2 * 1 + 1) (.int p3)) (2 * 2) (.int p3)) (2 * 2 + 1) (.int p4)) (0 : Int32) p3 p4 h82 G83.old Bi82 (by decide) E_s_JsonDocument_Kind_OBJECT F_s_JsonDocument_Kind_OBJECT_ordinal (Or.inl rfl)) (by decide) (W := 0) (by decide) (by rw [hml]; rfl) (argsL := [(.ref w_s_JsonDocument_Kind_OBJECT), (.int (0 : Int32)), (.int p3), (.int p4)]) (lenOf pd_8 rfl) rfl (Nat.le_of_eq rfl) (cells' := 11) rfl (by decide) (slots' := 120) rfl (by decide) (pc' := 117) rfl ?_
        intro T84 h84 r84 G84 Q84
        obtain ⟨hr84, Bz84⟩ := Q84
        subst hr84
        have Bi84 : BI Z h84 b1 4 (upd (upd (upd (upd own_f0 0 (.int (1 : Int32))) 1 (.int o)) 2 (.int (1 : Int32))) 3 (.int (0 : Int32))) (upd (upd (upd (upd (upd (upd (upd (upd own_f0 (2 * 0) (.int p3)) (2 * 0 + 1) (.int p4)) (2 * 1) (.int p4)) (2 * 1 + 1) (.int p3)) (2 * 2) (.int p3)) (2 * 2 + 1) (.int p4)) (2 * 3) (.int p3)) (2 * 3 + 1) (.int p4)) := Bz84
        have E84 := own_biE Bi84
        refine Jvm.Own.pop G84.here hx (hb hby at_117) rfl (pc' := 118) rfl ?_
        refine Jvm.Own.iload G84.here hx (hb hby at_118) rfl (pc' := 120) rfl ?_
        refine Jvm.Own.iconst G84.here hx (hb hby at_120) (v := (3 : Int32)) rfl (pc' := 121) rfl ?_
        refine Jvm.Own.icmpY G84.here hx (hb hby at_121) (tlt (by decide : (2 : Int32) < (3 : Int32))).1 (pc' := 137) (by decide) (by decide) ?_
        refine Jvm.Own.aload G84.here hx (hb hby at_137) rfl rfl (pc' := 139) rfl ?_
        refine Jvm.Own.iload G84.here hx (hb hby at_139) rfl (pc' := 141) rfl ?_
        refine Jvm.Own.iloadN G84.here hx (hb hby at_141) rfl (pc' := 142) rfl ?_
        refine Jvm.Own.callV0 (y := (⟨"com/example/tailhead/tailhead/json/JsonDocument$Builder", "complete", "(II)V"⟩ : MethodName)) (z := (⟨"com/example/tailhead/tailhead/json/JsonDocument$Builder", "complete", "(II)V"⟩ : MethodName)) G84 hx (hb hby at_142) (nfOf (y := (⟨"com/example/tailhead/tailhead/json/JsonDocument$Builder", "complete", "(II)V"⟩ : MethodName)) (z := (⟨"com/example/tailhead/tailhead/json/JsonDocument$Builder", "add", "(Lcom/example/tailhead/tailhead/json/JsonDocument$Kind;ZII)I"⟩ : MethodName)) rfl (hw _ (List.mem_of_getElem? (i := 23) rfl))) (hw _ (List.mem_of_getElem? (i := 57) rfl)) (hw _ (List.mem_of_getElem? (i := 58) rfl)) (hw _ (List.mem_of_getElem? (i := 60) rfl)) (hw _ (List.mem_of_getElem? (i := 59) rfl)) (hw _ (List.mem_of_getElem? (i := 2) rfl)) (hw _ (List.mem_of_getElem? (i := 61) rfl)) (by decide) E84 (rm_co l Z a0 hw b1 4 1 (upd (upd (upd (upd own_f0 0 (.int (1 : Int32))) 1 (.int o)) 2 (.int (1 : Int32))) 3 (.int (0 : Int32))) (upd (upd (upd (upd (upd (upd (upd (upd own_f0 (2 * 0) (.int p3)) (2 * 0 + 1) (.int p4)) (2 * 1) (.int p4)) (2 * 1 + 1) (.int p3)) (2 * 2) (.int p3)) (2 * 2 + 1) (.int p4)) (2 * 3) (.int p3)) (2 * 3 + 1) (.int p4)) p2 h84 G84.old Bi84 (by decide)) (by decide) (W := 0) (by decide) (by rw [hml]; rfl) (argsL := [(.int (Int32.ofNat 1)), (.int p2)]) (lenOf pd_9 rfl) rfl (Nat.le_of_eq rfl) (cells' := 11) rfl (by decide) (slots' := 120) rfl (by decide) (pc' := 145) rfl ?_
        intro T85 h85 G85 Q85
        have Bi85 : BI Z h85 b1 4 (upd (upd (upd (upd own_f0 0 (.int (1 : Int32))) 1 (.int o)) 2 (.int (1 : Int32))) 3 (.int (0 : Int32))) (upd (upd (upd (upd (upd (upd (upd (upd (upd (upd own_f0 (2 * 0) (.int p3)) (2 * 0 + 1) (.int p4)) (2 * 1) (.int p4)) (2 * 1 + 1) (.int p3)) (2 * 2) (.int p3)) (2 * 2 + 1) (.int p4)) (2 * 3) (.int p3)) (2 * 3 + 1) (.int p4)) (2 * 1) (.int (Int32.ofNat 4))) (2 * 1 + 1) (.int p2)) := Q85
        have E85 := own_biE Bi85
        refine Jvm.Own.aload G85.here hx (hb hby at_145) rfl rfl (pc' := 147) rfl ?_
        refine Jvm.Own.ldcS (n := 0) rfl G85 hx (hb hby at_147) (hw _ (List.mem_of_getElem? (i := 62) rfl)) (own_wS hw) (by decide) (by decide) (cells' := 13) rfl (by decide) (slots' := 124) rfl (by decide) (pc' := 149) rfl ?_
        intro T86 h86 a86 G86 X86
        have E88 := (E85.ext X86)
        refine Jvm.Own.callV1 (y := (⟨"com/example/tailhead/tailhead/json/JsonDocument$Builder", "build", "(Ljava/lang/String;)Lcom/example/tailhead/tailhead/json/JsonDocument;"⟩ : MethodName)) (z := (⟨"com/example/tailhead/tailhead/json/JsonDocument$Builder", "build", "(Ljava/lang/String;)Lcom/example/tailhead/tailhead/json/JsonDocument;"⟩ : MethodName)) G86 hx (hb hby at_149) (nfOf (y := (⟨"com/example/tailhead/tailhead/json/JsonDocument$Builder", "build", "(Ljava/lang/String;)Lcom/example/tailhead/tailhead/json/JsonDocument;"⟩ : MethodName)) (z := (⟨"com/example/tailhead/tailhead/json/JsonDocument$Builder", "add", "(Lcom/example/tailhead/tailhead/json/JsonDocument$Kind;ZII)I"⟩ : MethodName)) rfl (hw _ (List.mem_of_getElem? (i := 23) rfl))) (hw _ (List.mem_of_getElem? (i := 69) rfl)) (hw _ (List.mem_of_getElem? (i := 70) rfl)) (hw _ (List.mem_of_getElem? (i := 72) rfl)) (hw _ (List.mem_of_getElem? (i := 71) rfl)) (hw _ (List.mem_of_getElem? (i := 2) rfl)) (hw _ (List.mem_of_getElem? (i := 73) rfl)) (by decide) E88 (rm_bu l Z a0 hw b1 a86 4 (upd (upd (upd (upd own_f0 0 (.int (1 : Int32))) 1 (.int o)) 2 (.int (1 : Int32))) 3 (.int (0 : Int32))) (upd (upd (upd (upd (upd (upd (upd (upd (upd (upd own_f0 (2 * 0) (.int p3)) (2 * 0 + 1) (.int p4)) (2 * 1) (.int p4)) (2 * 1 + 1) (.int p3)) (2 * 2) (.int p3)) (2 * 2 + 1) (.int p4)) (2 * 3) (.int p3)) (2 * 3 + 1) (.int p4)) (2 * 1) (.int (Int32.ofNat 4))) (2 * 1 + 1) (.int p2)) h86 G86.old (own_biX Bi85 X86)) (by decide) (W := 0) (by decide) (by rw [hml]; rfl) (argsL := [(.ref a86)]) (lenOf pd_10 rfl) rfl (Nat.le_of_eq rfl) (cells' := 15) rfl (by decide) (slots' := 640) rfl (by decide) (pc' := 152) rfl ?_
        intro T87 h87 r87 G87 Q87
        obtain ⟨d87, hr87, Di87⟩ := Q87
        subst hr87
        have E87 := own_diE Di87
        refine Jvm.Own.astore G87.here hx (hb hby at_152) rfl (Ls' := #[.val (.int p0), .val (.int p1), .val (.int p2), .val (.int p3), .val (.int p4), .val (.ref b1), .val (.int (1 : Int32)), .val (.ref kd), .val (.int (2 : Int32)), .val (.int (Int32.ofNat 1)), .val (.ref d87), .unset]) rfl (pc' := 154) rfl ?_
        refine Jvm.Own.iload G87.here hx (hb hby at_154) rfl (pc' := 156) rfl ?_
        refine Jvm.Own.iload G87.here hx (hb hby at_156) rfl (pc' := 158) rfl ?_
        refine Jvm.Own.ifN G87.here hx (hb hby at_158) ((if0 _ _).trans (feq (by decide : ¬ (1 : Int32) = (0 : Int32))).1) (pc' := 161) rfl ?_
        refine Jvm.Own.iconst G87.here hx (hb hby at_161) (v := (1 : Int32)) rfl (pc' := 162) rfl ?_
        refine Jvm.Own.goto G87.here hx (hb hby at_162) (pc' := 166) (by decide) (by decide) ?_
        refine Jvm.Own.icmpN G87.here hx (hb hby at_166) (teq ((by decide) : (Int32.ofNat 1) = (1 : Int32))).2 (pc' := 169) rfl ?_
        refine Jvm.Own.iconst G87.here hx (hb hby at_169) (v := (1 : Int32)) rfl (pc' := 170) rfl ?_
        refine Jvm.Own.goto G87.here hx (hb hby at_170) (pc' := 174) (by decide) (by decide) ?_
        refine Jvm.Own.istore G87.here hx (hb hby at_174) (Ls' := #[.val (.int p0), .val (.int p1), .val (.int p2), .val (.int p3), .val (.int p4), .val (.ref b1), .val (.int (1 : Int32)), .val (.ref kd), .val (.int (2 : Int32)), .val (.int (Int32.ofNat 1)), .val (.ref d87), .val (.int (1 : Int32))]) rfl (pc' := 176) rfl ?_
        refine Jvm.Own.iload G87.here hx (hb hby at_176) rfl (pc' := 178) rfl ?_
        refine Jvm.Own.ifN G87.here hx (hb hby at_178) ((if0 _ _).trans (feq (by decide : ¬ (1 : Int32) = (0 : Int32))).1) (pc' := 181) rfl ?_
        refine Jvm.Own.aload G87.here hx (hb hby at_181) rfl rfl (pc' := 183) rfl ?_
        refine Jvm.Own.iload G87.here hx (hb hby at_183) rfl (pc' := 185) rfl ?_
        refine Jvm.Own.callVP (y := (⟨"com/example/tailhead/tailhead/json/JsonDocument", "size", "(I)I"⟩ : MethodName)) (z := (⟨"com/example/tailhead/tailhead/json/JsonDocument", "size", "(I)I"⟩ : MethodName)) G87 hx (hb hby at_185) (nfOf (y := (⟨"com/example/tailhead/tailhead/json/JsonDocument", "size", "(I)I"⟩ : MethodName)) (z := (⟨"com/example/tailhead/tailhead/json/JsonDocument", "size", "(I)I"⟩ : MethodName)) rfl (hw _ (List.mem_of_getElem? (i := 96) rfl))) (hw _ (List.mem_of_getElem? (i := 93) rfl)) (hw _ (List.mem_of_getElem? (i := 94) rfl)) (hw _ (List.mem_of_getElem? (i := 96) rfl)) (hw _ (List.mem_of_getElem? (i := 95) rfl)) (hw _ (List.mem_of_getElem? (i := 76) rfl)) (hw _ (List.mem_of_getElem? (i := 97) rfl)) (by decide) E87 (rm_sz l Z a0 hw d87 4 1 (upd (upd (upd (upd own_f0 0 (.int (1 : Int32))) 1 (.int o)) 2 (.int (1 : Int32))) 3 (.int (0 : Int32))) (upd (upd (upd (upd (upd (upd (upd (upd (upd (upd own_f0 (2 * 0) (.int p3)) (2 * 0 + 1) (.int p4)) (2 * 1) (.int p4)) (2 * 1 + 1) (.int p3)) (2 * 2) (.int p3)) (2 * 2 + 1) (.int p4)) (2 * 3) (.int p3)) (2 * 3 + 1) (.int p4)) (2 * 1) (.int (Int32.ofNat 4))) (2 * 1 + 1) (.int p2)) p2 h87 G87.old Di87 (by decide) (by simp [upd])) (by decide) (W := 0) (by decide) (by rw [hml]; rfl) (argsL := [(.int (Int32.ofNat 1))]) (lenOf pd_11 rfl) rfl (Nat.le_of_eq rfl) (cells' := 15) rfl (by decide) (slots' := 640) rfl (by decide) (pc' := 188) rfl ?_
        intro T89 r89 G89 Q89
        obtain rfl : r89 = .int p2 := Q89
        refine Jvm.Own.iloadN G89.here hx (hb hby at_188) rfl (pc' := 189) rfl ?_
        refine Jvm.Own.icmpN G89.here hx (hb hby at_189) (teq (rfl : p2 = p2)).2 (pc' := 192) rfl ?_
        refine Jvm.Own.aload G89.here hx (hb hby at_192) rfl rfl (pc' := 194) rfl ?_
        refine Jvm.Own.iload G89.here hx (hb hby at_194) rfl (pc' := 196) rfl ?_
        refine Jvm.Own.callVP (y := (⟨"com/example/tailhead/tailhead/json/JsonDocument", "next", "(I)I"⟩ : MethodName)) (z := (⟨"com/example/tailhead/tailhead/json/JsonDocument", "next", "(I)I"⟩ : MethodName)) G89 hx (hb hby at_196) (nfOf (y := (⟨"com/example/tailhead/tailhead/json/JsonDocument", "next", "(I)I"⟩ : MethodName)) (z := (⟨"com/example/tailhead/tailhead/json/JsonDocument", "size", "(I)I"⟩ : MethodName)) rfl (hw _ (List.mem_of_getElem? (i := 96) rfl))) (hw _ (List.mem_of_getElem? (i := 98) rfl)) (hw _ (List.mem_of_getElem? (i := 99) rfl)) (hw _ (List.mem_of_getElem? (i := 101) rfl)) (hw _ (List.mem_of_getElem? (i := 100) rfl)) (hw _ (List.mem_of_getElem? (i := 76) rfl)) (hw _ (List.mem_of_getElem? (i := 102) rfl)) (by decide) E87 (rm_nx l Z a0 hw d87 4 1 (upd (upd (upd (upd own_f0 0 (.int (1 : Int32))) 1 (.int o)) 2 (.int (1 : Int32))) 3 (.int (0 : Int32))) (upd (upd (upd (upd (upd (upd (upd (upd (upd (upd own_f0 (2 * 0) (.int p3)) (2 * 0 + 1) (.int p4)) (2 * 1) (.int p4)) (2 * 1 + 1) (.int p3)) (2 * 2) (.int p3)) (2 * 2 + 1) (.int p4)) (2 * 3) (.int p3)) (2 * 3 + 1) (.int p4)) (2 * 1) (.int (Int32.ofNat 4))) (2 * 1 + 1) (.int p2)) o (Int32.ofNat 4) w_s_JsonDocument_Kind_OBJECT w_s_JsonDocument_Kind_ARRAY h87 G89.old Di87 (by decide) (by simp [upd]) (own_o1 o ho) (by simp [upd]) S_s_JsonDocument_Kind_OBJECT E_s_JsonDocument_Kind_OBJECT S_s_JsonDocument_Kind_ARRAY E_s_JsonDocument_Kind_ARRAY F_s_JsonDocument_Kind_ARRAY_ordinal F_s_JsonDocument_Kind_OBJECT_ordinal S_s_JsonDocument_LAST_HOLDING) (by decide) (W := 0) (by decide) (by rw [hml]; rfl) (argsL := [(.int (Int32.ofNat 1))]) (lenOf pd_11 rfl) rfl (Nat.le_of_eq rfl) (cells' := 15) rfl (by decide) (slots' := 640) rfl (by decide) (pc' := 199) rfl ?_
        intro T90 r90 G90 Q90
        obtain rfl : r90 = .int (Int32.ofNat 4) := Q90
        refine Jvm.Own.iload G90.here hx (hb hby at_199) rfl (pc' := 201) rfl ?_
        refine Jvm.Own.iconst G90.here hx (hb hby at_201) (v := (1 : Int32)) rfl (pc' := 202) rfl ?_
        refine Jvm.Own.iadd G90.here hx (hb hby at_202) (pc' := 203) rfl ?_
        refine Jvm.Own.iload G90.here hx (hb hby at_203) rfl (pc' := 205) rfl ?_
        refine Jvm.Own.iadd G90.here hx (hb hby at_205) (pc' := 206) rfl ?_
        refine Jvm.Own.icmpN G90.here hx (hb hby at_206) (teq ((by decide) : (Int32.ofNat 4) = (((Int32.ofNat 1) + (1 : Int32)) + (2 : Int32)))).2 (pc' := 209) rfl ?_
        refine Jvm.Own.iconst G90.here hx (hb hby at_209) (v := (1 : Int32)) rfl (pc' := 210) rfl ?_
        refine Jvm.Own.goto G90.here hx (hb hby at_210) (pc' := 214) (by decide) (by decide) ?_
        refine Jvm.Own.istore G90.here hx (hb hby at_214) (Ls' := #[.val (.int p0), .val (.int p1), .val (.int p2), .val (.int p3), .val (.int p4), .val (.ref b1), .val (.int (1 : Int32)), .val (.ref kd), .val (.int (2 : Int32)), .val (.int (Int32.ofNat 1)), .val (.ref d87), .val (.int (1 : Int32))]) rfl (pc' := 216) rfl ?_
        refine Jvm.Own.iload G90.here hx (hb hby at_216) rfl (pc' := 218) rfl ?_
        refine Jvm.Own.ifN G90.here hx (hb hby at_218) ((if0 _ _).trans (feq (by decide : ¬ (1 : Int32) = (0 : Int32))).1) (pc' := 221) rfl ?_
        refine Jvm.Own.iload G90.here hx (hb hby at_221) rfl (pc' := 223) rfl ?_
        refine Jvm.Own.ifN G90.here hx (hb hby at_223) ((if0 _ _).trans (feq (by decide : ¬ (1 : Int32) = (0 : Int32))).1) (pc' := 226) rfl ?_
        refine Jvm.Own.aload G90.here hx (hb hby at_226) rfl rfl (pc' := 228) rfl ?_
        refine Jvm.Own.iload G90.here hx (hb hby at_228) rfl (pc' := 230) rfl ?_
        refine Jvm.Own.iconst G90.here hx (hb hby at_230) (v := (1 : Int32)) rfl (pc' := 231) rfl ?_
        refine Jvm.Own.isub G90.here hx (hb hby at_231) (pc' := 232) rfl ?_
        rw [show (Int32.ofNat 1 - (1 : Int32)) = Int32.ofNat 0 from by decide]
        refine Jvm.Own.callVP (y := (⟨"com/example/tailhead/tailhead/json/JsonDocument", "size", "(I)I"⟩ : MethodName)) (z := (⟨"com/example/tailhead/tailhead/json/JsonDocument", "size", "(I)I"⟩ : MethodName)) G90 hx (hb hby at_232) (nfOf (y := (⟨"com/example/tailhead/tailhead/json/JsonDocument", "size", "(I)I"⟩ : MethodName)) (z := (⟨"com/example/tailhead/tailhead/json/JsonDocument", "size", "(I)I"⟩ : MethodName)) rfl (hw _ (List.mem_of_getElem? (i := 96) rfl))) (hw _ (List.mem_of_getElem? (i := 93) rfl)) (hw _ (List.mem_of_getElem? (i := 94) rfl)) (hw _ (List.mem_of_getElem? (i := 96) rfl)) (hw _ (List.mem_of_getElem? (i := 95) rfl)) (hw _ (List.mem_of_getElem? (i := 76) rfl)) (hw _ (List.mem_of_getElem? (i := 97) rfl)) (by decide) E87 (rm_sz l Z a0 hw d87 4 0 (upd (upd (upd (upd own_f0 0 (.int (1 : Int32))) 1 (.int o)) 2 (.int (1 : Int32))) 3 (.int (0 : Int32))) (upd (upd (upd (upd (upd (upd (upd (upd (upd (upd own_f0 (2 * 0) (.int p3)) (2 * 0 + 1) (.int p4)) (2 * 1) (.int p4)) (2 * 1 + 1) (.int p3)) (2 * 2) (.int p3)) (2 * 2 + 1) (.int p4)) (2 * 3) (.int p3)) (2 * 3 + 1) (.int p4)) (2 * 1) (.int (Int32.ofNat 4))) (2 * 1 + 1) (.int p2)) p4 h87 G90.old Di87 (by decide) (by simp [upd])) (by decide) (W := 0) (by decide) (by rw [hml]; rfl) (argsL := [(.int (Int32.ofNat 0))]) (lenOf pd_11 rfl) rfl (Nat.le_of_eq rfl) (cells' := 15) rfl (by decide) (slots' := 640) rfl (by decide) (pc' := 235) rfl ?_
        intro T91 r91 G91 Q91
        obtain rfl : r91 = .int p4 := Q91
        refine Jvm.Own.iload G91.here hx (hb hby at_235) rfl (pc' := 237) rfl ?_
        refine Jvm.Own.icmpN G91.here hx (hb hby at_237) (teq (rfl : p4 = p4)).2 (pc' := 240) rfl ?_
        refine Jvm.Own.iconst G91.here hx (hb hby at_240) (v := (1 : Int32)) rfl (pc' := 241) rfl ?_
        refine Jvm.Own.goto G91.here hx (hb hby at_241) (pc' := 245) (by decide) (by decide) ?_
        refine Jvm.Own.istore G91.here hx (hb hby at_245) (Ls' := #[.val (.int p0), .val (.int p1), .val (.int p2), .val (.int p3), .val (.int p4), .val (.ref b1), .val (.int (1 : Int32)), .val (.ref kd), .val (.int (2 : Int32)), .val (.int (Int32.ofNat 1)), .val (.ref d87), .val (.int (1 : Int32))]) rfl (pc' := 247) rfl ?_
        refine Jvm.Own.iload G91.here hx (hb hby at_247) rfl (pc' := 249) rfl ?_
        refine Jvm.Own.iconst G91.here hx (hb hby at_249) (v := (1 : Int32)) rfl (pc' := 250) rfl ?_
        refine Jvm.Own.icmpN G91.here hx (hb hby at_250) (flt (by decide : ¬ (2 : Int32) < (1 : Int32))).1 (pc' := 253) rfl ?_
        refine Jvm.Own.iload G91.here hx (hb hby at_253) rfl (pc' := 255) rfl ?_
        refine Jvm.Own.ifN G91.here hx (hb hby at_255) ((if0 _ _).trans (feq (by decide : ¬ (1 : Int32) = (0 : Int32))).1) (pc' := 258) rfl ?_
        refine Jvm.Own.aload G91.here hx (hb hby at_258) rfl rfl (pc' := 260) rfl ?_
        refine Jvm.Own.iload G91.here hx (hb hby at_260) rfl (pc' := 262) rfl ?_
        refine Jvm.Own.iconst G91.here hx (hb hby at_262) (v := (1 : Int32)) rfl (pc' := 263) rfl ?_
        refine Jvm.Own.iadd G91.here hx (hb hby at_263) (pc' := 264) rfl ?_
        rw [show (Int32.ofNat 1 + (1 : Int32)) = Int32.ofNat 2 from by decide]
        refine Jvm.Own.callVP (y := (⟨"com/example/tailhead/tailhead/json/JsonDocument", "next", "(I)I"⟩ : MethodName)) (z := (⟨"com/example/tailhead/tailhead/json/JsonDocument", "next", "(I)I"⟩ : MethodName)) G91 hx (hb hby at_264) (nfOf (y := (⟨"com/example/tailhead/tailhead/json/JsonDocument", "next", "(I)I"⟩ : MethodName)) (z := (⟨"com/example/tailhead/tailhead/json/JsonDocument", "size", "(I)I"⟩ : MethodName)) rfl (hw _ (List.mem_of_getElem? (i := 96) rfl))) (hw _ (List.mem_of_getElem? (i := 98) rfl)) (hw _ (List.mem_of_getElem? (i := 99) rfl)) (hw _ (List.mem_of_getElem? (i := 101) rfl)) (hw _ (List.mem_of_getElem? (i := 100) rfl)) (hw _ (List.mem_of_getElem? (i := 76) rfl)) (hw _ (List.mem_of_getElem? (i := 102) rfl)) (by decide) E87 (rm_nx l Z a0 hw d87 4 2 (upd (upd (upd (upd own_f0 0 (.int (1 : Int32))) 1 (.int o)) 2 (.int (1 : Int32))) 3 (.int (0 : Int32))) (upd (upd (upd (upd (upd (upd (upd (upd (upd (upd own_f0 (2 * 0) (.int p3)) (2 * 0 + 1) (.int p4)) (2 * 1) (.int p4)) (2 * 1 + 1) (.int p3)) (2 * 2) (.int p3)) (2 * 2 + 1) (.int p4)) (2 * 3) (.int p3)) (2 * 3 + 1) (.int p4)) (2 * 1) (.int (Int32.ofNat 4))) (2 * 1 + 1) (.int p2)) (1 : Int32) p3 w_s_JsonDocument_Kind_OBJECT w_s_JsonDocument_Kind_ARRAY h87 G91.old Di87 (by decide) (by simp [upd]) (by decide) (by simp [upd]) S_s_JsonDocument_Kind_OBJECT E_s_JsonDocument_Kind_OBJECT S_s_JsonDocument_Kind_ARRAY E_s_JsonDocument_Kind_ARRAY F_s_JsonDocument_Kind_ARRAY_ordinal F_s_JsonDocument_Kind_OBJECT_ordinal S_s_JsonDocument_LAST_HOLDING) (by decide) (W := 0) (by decide) (by rw [hml]; rfl) (argsL := [(.int (Int32.ofNat 2))]) (lenOf pd_11 rfl) rfl (Nat.le_of_eq rfl) (cells' := 15) rfl (by decide) (slots' := 640) rfl (by decide) (pc' := 267) rfl ?_
        intro T92 r92 G92 Q92
        obtain rfl : r92 = .int p3 := Q92
        refine Jvm.Own.iloadN G92.here hx (hb hby at_267) rfl (pc' := 268) rfl ?_
        refine Jvm.Own.icmpN G92.here hx (hb hby at_268) (teq (rfl : p3 = p3)).2 (pc' := 271) rfl ?_
        refine Jvm.Own.iconst G92.here hx (hb hby at_271) (v := (1 : Int32)) rfl (pc' := 272) rfl ?_
        refine Jvm.Own.goto G92.here hx (hb hby at_272) (pc' := 276) (by decide) (by decide) ?_
        refine Jvm.Own.istore G92.here hx (hb hby at_276) (Ls' := #[.val (.int p0), .val (.int p1), .val (.int p2), .val (.int p3), .val (.int p4), .val (.ref b1), .val (.int (1 : Int32)), .val (.ref kd), .val (.int (2 : Int32)), .val (.int (Int32.ofNat 1)), .val (.ref d87), .val (.int (1 : Int32))]) rfl (pc' := 278) rfl ?_
        refine Jvm.Own.iload G92.here hx (hb hby at_278) rfl (pc' := 280) rfl ?_
        exact Jvm.Own.retI G92 hx (hb hby at_280) hret hlk (by simp) rfl (by decide) (by decide) ⟨_, rfl, rfl⟩
      · rw [ek]
        refine Jvm.Own.istore G54.here hx (hb hby at_47) (Ls' := #[.val (.int p0), .val (.int p1), .val (.int p2), .val (.int p3), .val (.int p4), .val (.ref b1), .val (.int (1 : Int32)), .val (.ref kd), .val (.int (3 : Int32)), .unset, .unset, .unset]) rfl (pc' := 49) rfl ?_
        refine Jvm.Own.iload G54.here hx (hb hby at_49) rfl (pc' := 51) rfl ?_
        refine Jvm.Own.ifN G54.here hx (hb hby at_51) ((if0 _ _).trans (feq (by decide : ¬ (1 : Int32) = (0 : Int32))).1) (pc' := 54) rfl ?_
        refine Jvm.Own.aload G54.here hx (hb hby at_54) rfl rfl (pc' := 56) rfl ?_
        refine Jvm.Own.getstatic G54 hx (hb hby at_56) (host := "") (Or.inl (hw _ (List.mem_of_getElem? (i := 18) rfl))) Via.refl S_s_JsonDocument_Kind_ARRAY (pc' := 59) rfl ?_
        intro T93 G93
        refine Jvm.Own.iconst G93.here hx (hb hby at_59) (v := (0 : Int32)) rfl (pc' := 60) rfl ?_
        refine Jvm.Own.iloadN G93.here hx (hb hby at_60) rfl (pc' := 61) rfl ?_
        refine Jvm.Own.iload G93.here hx (hb hby at_61) rfl (pc' := 63) rfl ?_
        refine Jvm.Own.callV1 (y := (⟨"com/example/tailhead/tailhead/json/JsonDocument$Builder", "add", "(Lcom/example/tailhead/tailhead/json/JsonDocument$Kind;ZII)I"⟩ : MethodName)) (z := (⟨"com/example/tailhead/tailhead/json/JsonDocument$Builder", "add", "(Lcom/example/tailhead/tailhead/json/JsonDocument$Kind;ZII)I"⟩ : MethodName)) G93 hx (hb hby at_63) (nfOf (y := (⟨"com/example/tailhead/tailhead/json/JsonDocument$Builder", "add", "(Lcom/example/tailhead/tailhead/json/JsonDocument$Kind;ZII)I"⟩ : MethodName)) (z := (⟨"com/example/tailhead/tailhead/json/JsonDocument$Builder", "add", "(Lcom/example/tailhead/tailhead/json/JsonDocument$Kind;ZII)I"⟩ : MethodName)) rfl (hw _ (List.mem_of_getElem? (i := 23) rfl))) (hw _ (List.mem_of_getElem? (i := 20) rfl)) (hw _ (List.mem_of_getElem? (i := 21) rfl)) (hw _ (List.mem_of_getElem? (i := 23) rfl)) (hw _ (List.mem_of_getElem? (i := 22) rfl)) (hw _ (List.mem_of_getElem? (i := 2) rfl)) (hw _ (List.mem_of_getElem? (i := 24) rfl)) (by decide) E5 (rm_ad l Z a0 hw b1 w_s_JsonDocument_Kind_ARRAY 0 own_f0 own_f0 (1 : Int32) p3 p4 h5 G93.old Bi5 (by decide) E_s_JsonDocument_Kind_ARRAY F_s_JsonDocument_Kind_ARRAY_ordinal (Or.inr rfl)) (by decide) (W := 0) (by decide) (by rw [hml]; rfl) (argsL := [(.ref w_s_JsonDocument_Kind_ARRAY), (.int (0 : Int32)), (.int p3), (.int p4)]) (lenOf pd_8 rfl) rfl (Nat.le_of_eq rfl) (cells' := 5) rfl (by decide) (slots' := 39) rfl (by decide) (pc' := 66) rfl ?_
        intro T94 h94 r94 G94 Q94
        obtain ⟨hr94, Bz94⟩ := Q94
        subst hr94
        have Bi94 : BI Z h94 b1 1 (upd own_f0 0 (.int (1 : Int32))) (upd (upd own_f0 (2 * 0) (.int p3)) (2 * 0 + 1) (.int p4)) := Bz94
        have E94 := own_biE Bi94
        refine Jvm.Own.pop G94.here hx (hb hby at_66) rfl (pc' := 67) rfl ?_
        refine Jvm.Own.aload G94.here hx (hb hby at_67) rfl rfl (pc' := 69) rfl ?_
        refine Jvm.Own.aload G94.here hx (hb hby at_69) rfl rfl (pc' := 71) rfl ?_
        refine Jvm.Own.iconst G94.here hx (hb hby at_71) (v := (0 : Int32)) rfl (pc' := 72) rfl ?_
        refine Jvm.Own.iload G94.here hx (hb hby at_72) rfl (pc' := 74) rfl ?_
        refine Jvm.Own.iloadN G94.here hx (hb hby at_74) rfl (pc' := 75) rfl ?_
        refine Jvm.Own.callV1 (y := (⟨"com/example/tailhead/tailhead/json/JsonDocument$Builder", "add", "(Lcom/example/tailhead/tailhead/json/JsonDocument$Kind;ZII)I"⟩ : MethodName)) (z := (⟨"com/example/tailhead/tailhead/json/JsonDocument$Builder", "add", "(Lcom/example/tailhead/tailhead/json/JsonDocument$Kind;ZII)I"⟩ : MethodName)) G94 hx (hb hby at_75) (nfOf (y := (⟨"com/example/tailhead/tailhead/json/JsonDocument$Builder", "add", "(Lcom/example/tailhead/tailhead/json/JsonDocument$Kind;ZII)I"⟩ : MethodName)) (z := (⟨"com/example/tailhead/tailhead/json/JsonDocument$Builder", "add", "(Lcom/example/tailhead/tailhead/json/JsonDocument$Kind;ZII)I"⟩ : MethodName)) rfl (hw _ (List.mem_of_getElem? (i := 23) rfl))) (hw _ (List.mem_of_getElem? (i := 20) rfl)) (hw _ (List.mem_of_getElem? (i := 21) rfl)) (hw _ (List.mem_of_getElem? (i := 23) rfl)) (hw _ (List.mem_of_getElem? (i := 22) rfl)) (hw _ (List.mem_of_getElem? (i := 2) rfl)) (hw _ (List.mem_of_getElem? (i := 24) rfl)) (by decide) E94 (rm_ad l Z a0 hw b1 kd 1 (upd own_f0 0 (.int (1 : Int32))) (upd (upd own_f0 (2 * 0) (.int p3)) (2 * 0 + 1) (.int p4)) o p4 p3 h94 G94.old Bi94 (by decide) Ekd Fo ho) (by decide) (W := 0) (by decide) (by rw [hml]; rfl) (argsL := [(.ref kd), (.int (0 : Int32)), (.int p4), (.int p3)]) (lenOf pd_8 rfl) rfl (Nat.le_of_eq rfl) (cells' := 7) rfl (by decide) (slots' := 66) rfl (by decide) (pc' := 78) rfl ?_
        intro T95 h95 r95 G95 Q95
        obtain ⟨hr95, Bz95⟩ := Q95
        subst hr95
        have Bi95 : BI Z h95 b1 2 (upd (upd own_f0 0 (.int (1 : Int32))) 1 (.int o)) (upd (upd (upd (upd own_f0 (2 * 0) (.int p3)) (2 * 0 + 1) (.int p4)) (2 * 1) (.int p4)) (2 * 1 + 1) (.int p3)) := Bz95
        have E95 := own_biE Bi95
        refine Jvm.Own.istore G95.here hx (hb hby at_78) (Ls' := #[.val (.int p0), .val (.int p1), .val (.int p2), .val (.int p3), .val (.int p4), .val (.ref b1), .val (.int (1 : Int32)), .val (.ref kd), .val (.int (3 : Int32)), .val (.int (Int32.ofNat 1)), .unset, .unset]) rfl (pc' := 80) rfl ?_
        refine Jvm.Own.iload G95.here hx (hb hby at_80) rfl (pc' := 82) rfl ?_
        refine Jvm.Own.iconst G95.here hx (hb hby at_82) (v := (1 : Int32)) rfl (pc' := 83) rfl ?_
        refine Jvm.Own.icmpN G95.here hx (hb hby at_83) (flt (by decide : ¬ (3 : Int32) < (1 : Int32))).1 (pc' := 86) rfl ?_
        refine Jvm.Own.aload G95.here hx (hb hby at_86) rfl rfl (pc' := 88) rfl ?_
        refine Jvm.Own.getstatic G95 hx (hb hby at_88) (host := "") (Or.inl (hw _ (List.mem_of_getElem? (i := 18) rfl))) Via.refl S_s_JsonDocument_Kind_ARRAY (pc' := 91) rfl ?_
        intro T96 G96
        refine Jvm.Own.iconst G96.here hx (hb hby at_91) (v := (0 : Int32)) rfl (pc' := 92) rfl ?_
        refine Jvm.Own.iloadN G96.here hx (hb hby at_92) rfl (pc' := 93) rfl ?_
        refine Jvm.Own.iload G96.here hx (hb hby at_93) rfl (pc' := 95) rfl ?_
        refine Jvm.Own.callV1 (y := (⟨"com/example/tailhead/tailhead/json/JsonDocument$Builder", "add", "(Lcom/example/tailhead/tailhead/json/JsonDocument$Kind;ZII)I"⟩ : MethodName)) (z := (⟨"com/example/tailhead/tailhead/json/JsonDocument$Builder", "add", "(Lcom/example/tailhead/tailhead/json/JsonDocument$Kind;ZII)I"⟩ : MethodName)) G96 hx (hb hby at_95) (nfOf (y := (⟨"com/example/tailhead/tailhead/json/JsonDocument$Builder", "add", "(Lcom/example/tailhead/tailhead/json/JsonDocument$Kind;ZII)I"⟩ : MethodName)) (z := (⟨"com/example/tailhead/tailhead/json/JsonDocument$Builder", "add", "(Lcom/example/tailhead/tailhead/json/JsonDocument$Kind;ZII)I"⟩ : MethodName)) rfl (hw _ (List.mem_of_getElem? (i := 23) rfl))) (hw _ (List.mem_of_getElem? (i := 20) rfl)) (hw _ (List.mem_of_getElem? (i := 21) rfl)) (hw _ (List.mem_of_getElem? (i := 23) rfl)) (hw _ (List.mem_of_getElem? (i := 22) rfl)) (hw _ (List.mem_of_getElem? (i := 2) rfl)) (hw _ (List.mem_of_getElem? (i := 24) rfl)) (by decide) E95 (rm_ad l Z a0 hw b1 w_s_JsonDocument_Kind_ARRAY 2 (upd (upd own_f0 0 (.int (1 : Int32))) 1 (.int o)) (upd (upd (upd (upd own_f0 (2 * 0) (.int p3)) (2 * 0 + 1) (.int p4)) (2 * 1) (.int p4)) (2 * 1 + 1) (.int p3)) (1 : Int32) p3 p4 h95 G96.old Bi95 (by decide) E_s_JsonDocument_Kind_ARRAY F_s_JsonDocument_Kind_ARRAY_ordinal (Or.inr rfl)) (by decide) (W := 0) (by decide) (by rw [hml]; rfl) (argsL := [(.ref w_s_JsonDocument_Kind_ARRAY), (.int (0 : Int32)), (.int p3), (.int p4)]) (lenOf pd_8 rfl) rfl (Nat.le_of_eq rfl) (cells' := 9) rfl (by decide) (slots' := 93) rfl (by decide) (pc' := 98) rfl ?_
        intro T97 h97 r97 G97 Q97
        obtain ⟨hr97, Bz97⟩ := Q97
        subst hr97
        have Bi97 : BI Z h97 b1 3 (upd (upd (upd own_f0 0 (.int (1 : Int32))) 1 (.int o)) 2 (.int (1 : Int32))) (upd (upd (upd (upd (upd (upd own_f0 (2 * 0) (.int p3)) (2 * 0 + 1) (.int p4)) (2 * 1) (.int p4)) (2 * 1 + 1) (.int p3)) (2 * 2) (.int p3)) (2 * 2 + 1) (.int p4)) := Bz97
        have E97 := own_biE Bi97
        refine Jvm.Own.pop G97.here hx (hb hby at_98) rfl (pc' := 99) rfl ?_
        refine Jvm.Own.iload G97.here hx (hb hby at_99) rfl (pc' := 101) rfl ?_
        refine Jvm.Own.iconst G97.here hx (hb hby at_101) (v := (2 : Int32)) rfl (pc' := 102) rfl ?_
        refine Jvm.Own.icmpN G97.here hx (hb hby at_102) (flt (by decide : ¬ (3 : Int32) < (2 : Int32))).1 (pc' := 105) rfl ?_
        refine Jvm.Own.aload G97.here hx (hb hby at_105) rfl rfl (pc' := 107) rfl ?_
        refine Jvm.Own.getstatic G97 hx (hb hby at_107) (host := "") (Or.inl (hw _ (List.mem_of_getElem? (i := 15) rfl))) Via.refl S_s_JsonDocument_Kind_OBJECT (pc' := 110) rfl ?_
        intro T98 G98
        refine Jvm.Own.iconst G98.here hx (hb hby at_110) (v := (0 : Int32)) rfl (pc' := 111) rfl ?_
        refine Jvm.Own.iloadN G98.here hx (hb hby at_111) rfl (pc' := 112) rfl ?_
        refine Jvm.Own.iload G98.here hx (hb hby at_112) rfl (pc' := 114) rfl ?_
        refine Jvm.Own.callV1 (y := (⟨"com/example/tailhead/tailhead/json/JsonDocument$Builder", "add", "(Lcom/example/tailhead/tailhead/json/JsonDocument$Kind;ZII)I"⟩ : MethodName)) (z := (⟨"com/example/tailhead/tailhead/json/JsonDocument$Builder", "add", "(Lcom/example/tailhead/tailhead/json/JsonDocument$Kind;ZII)I"⟩ : MethodName)) G98 hx (hb hby at_114) (nfOf (y := (⟨"com/example/tailhead/tailhead/json/JsonDocument$Builder", "add", "(Lcom/example/tailhead/tailhead/json/JsonDocument$Kind;ZII)I"⟩ : MethodName)) (z := (⟨"com/example/tailhead/tailhead/json/JsonDocument$Builder", "add", "(Lcom/example/tailhead/tailhead/json/JsonDocument$Kind;ZII)I"⟩ : MethodName)) rfl (hw _ (List.mem_of_getElem? (i := 23) rfl))) (hw _ (List.mem_of_getElem? (i := 20) rfl)) (hw _ (List.mem_of_getElem? (i := 21) rfl)) (hw _ (List.mem_of_getElem? (i := 23) rfl)) (hw _ (List.mem_of_getElem? (i := 22) rfl)) (hw _ (List.mem_of_getElem? (i := 2) rfl)) (hw _ (List.mem_of_getElem? (i := 24) rfl)) (by decide) E97 (rm_ad l Z a0 hw b1 w_s_JsonDocument_Kind_OBJECT 3 (upd (upd (upd own_f0 0 (.int (1 : Int32))) 1 (.int o)) 2 (.int (1 : Int32))) (upd (upd (upd (upd (upd (upd own_f0 (2 * 0) (.int p3)) (2 * 0 + 1) (.int p4)) (2 * 1) (.int p4)) (2 * 1 + 1) (.int p3)) (2 * 2) (.int p3)) (2 * 2 + 1) (.int p4)) (0 : Int32) p3 p4 h97 G98.old Bi97 (by decide) E_s_JsonDocument_Kind_OBJECT F_s_JsonDocument_Kind_OBJECT_ordinal (Or.inl rfl)) (by decide) (W := 0) (by decide) (by rw [hml]; rfl) (argsL := [(.ref w_s_JsonDocument_Kind_OBJECT), (.int (0 : Int32)), (.int p3), (.int p4)]) (lenOf pd_8 rfl) rfl (Nat.le_of_eq rfl) (cells' := 11) rfl (by decide) (slots' := 120) rfl (by decide) (pc' := 117) rfl ?_
        intro T99 h99 r99 G99 Q99
        obtain ⟨hr99, Bz99⟩ := Q99
        subst hr99
        have Bi99 : BI Z h99 b1 4 (upd (upd (upd (upd own_f0 0 (.int (1 : Int32))) 1 (.int o)) 2 (.int (1 : Int32))) 3 (.int (0 : Int32))) (upd (upd (upd (upd (upd (upd (upd (upd own_f0 (2 * 0) (.int p3)) (2 * 0 + 1) (.int p4)) (2 * 1) (.int p4)) (2 * 1 + 1) (.int p3)) (2 * 2) (.int p3)) (2 * 2 + 1) (.int p4)) (2 * 3) (.int p3)) (2 * 3 + 1) (.int p4)) := Bz99
        have E99 := own_biE Bi99
        refine Jvm.Own.pop G99.here hx (hb hby at_117) rfl (pc' := 118) rfl ?_
        refine Jvm.Own.iload G99.here hx (hb hby at_118) rfl (pc' := 120) rfl ?_
        refine Jvm.Own.iconst G99.here hx (hb hby at_120) (v := (3 : Int32)) rfl (pc' := 121) rfl ?_
        refine Jvm.Own.icmpN G99.here hx (hb hby at_121) (flt (by decide : ¬ (3 : Int32) < (3 : Int32))).1 (pc' := 124) rfl ?_
        refine Jvm.Own.aload G99.here hx (hb hby at_124) rfl rfl (pc' := 126) rfl ?_
        refine Jvm.Own.getstatic G99 hx (hb hby at_126) (host := "") (Or.inl (hw _ (List.mem_of_getElem? (i := 18) rfl))) Via.refl S_s_JsonDocument_Kind_ARRAY (pc' := 129) rfl ?_
        intro T100 G100
        refine Jvm.Own.iconst G100.here hx (hb hby at_129) (v := (0 : Int32)) rfl (pc' := 130) rfl ?_
        refine Jvm.Own.iloadN G100.here hx (hb hby at_130) rfl (pc' := 131) rfl ?_
        refine Jvm.Own.iload G100.here hx (hb hby at_131) rfl (pc' := 133) rfl ?_
        refine Jvm.Own.callV1 (y := (⟨"com/example/tailhead/tailhead/json/JsonDocument$Builder", "add", "(Lcom/example/tailhead/tailhead/json/JsonDocument$Kind;ZII)I"⟩ : MethodName)) (z := (⟨"com/example/tailhead/tailhead/json/JsonDocument$Builder", "add", "(Lcom/example/tailhead/tailhead/json/JsonDocument$Kind;ZII)I"⟩ : MethodName)) G100 hx (hb hby at_133) (nfOf (y := (⟨"com/example/tailhead/tailhead/json/JsonDocument$Builder", "add", "(Lcom/example/tailhead/tailhead/json/JsonDocument$Kind;ZII)I"⟩ : MethodName)) (z := (⟨"com/example/tailhead/tailhead/json/JsonDocument$Builder", "add", "(Lcom/example/tailhead/tailhead/json/JsonDocument$Kind;ZII)I"⟩ : MethodName)) rfl (hw _ (List.mem_of_getElem? (i := 23) rfl))) (hw _ (List.mem_of_getElem? (i := 20) rfl)) (hw _ (List.mem_of_getElem? (i := 21) rfl)) (hw _ (List.mem_of_getElem? (i := 23) rfl)) (hw _ (List.mem_of_getElem? (i := 22) rfl)) (hw _ (List.mem_of_getElem? (i := 2) rfl)) (hw _ (List.mem_of_getElem? (i := 24) rfl)) (by decide) E99 (rm_ad l Z a0 hw b1 w_s_JsonDocument_Kind_ARRAY 4 (upd (upd (upd (upd own_f0 0 (.int (1 : Int32))) 1 (.int o)) 2 (.int (1 : Int32))) 3 (.int (0 : Int32))) (upd (upd (upd (upd (upd (upd (upd (upd own_f0 (2 * 0) (.int p3)) (2 * 0 + 1) (.int p4)) (2 * 1) (.int p4)) (2 * 1 + 1) (.int p3)) (2 * 2) (.int p3)) (2 * 2 + 1) (.int p4)) (2 * 3) (.int p3)) (2 * 3 + 1) (.int p4)) (1 : Int32) p3 p4 h99 G100.old Bi99 (by decide) E_s_JsonDocument_Kind_ARRAY F_s_JsonDocument_Kind_ARRAY_ordinal (Or.inr rfl)) (by decide) (W := 0) (by decide) (by rw [hml]; rfl) (argsL := [(.ref w_s_JsonDocument_Kind_ARRAY), (.int (0 : Int32)), (.int p3), (.int p4)]) (lenOf pd_8 rfl) rfl (Nat.le_of_eq rfl) (cells' := 13) rfl (by decide) (slots' := 147) rfl (by decide) (pc' := 136) rfl ?_
        intro T101 h101 r101 G101 Q101
        obtain ⟨hr101, Bz101⟩ := Q101
        subst hr101
        have Bi101 : BI Z h101 b1 5 (upd (upd (upd (upd (upd own_f0 0 (.int (1 : Int32))) 1 (.int o)) 2 (.int (1 : Int32))) 3 (.int (0 : Int32))) 4 (.int (1 : Int32))) (upd (upd (upd (upd (upd (upd (upd (upd (upd (upd own_f0 (2 * 0) (.int p3)) (2 * 0 + 1) (.int p4)) (2 * 1) (.int p4)) (2 * 1 + 1) (.int p3)) (2 * 2) (.int p3)) (2 * 2 + 1) (.int p4)) (2 * 3) (.int p3)) (2 * 3 + 1) (.int p4)) (2 * 4) (.int p3)) (2 * 4 + 1) (.int p4)) := Bz101
        have E101 := own_biE Bi101
        refine Jvm.Own.pop G101.here hx (hb hby at_136) rfl (pc' := 137) rfl ?_
        refine Jvm.Own.aload G101.here hx (hb hby at_137) rfl rfl (pc' := 139) rfl ?_
        refine Jvm.Own.iload G101.here hx (hb hby at_139) rfl (pc' := 141) rfl ?_
        refine Jvm.Own.iloadN G101.here hx (hb hby at_141) rfl (pc' := 142) rfl ?_
        refine Jvm.Own.callV0 (y := (⟨"com/example/tailhead/tailhead/json/JsonDocument$Builder", "complete", "(II)V"⟩ : MethodName)) (z := (⟨"com/example/tailhead/tailhead/json/JsonDocument$Builder", "complete", "(II)V"⟩ : MethodName)) G101 hx (hb hby at_142) (nfOf (y := (⟨"com/example/tailhead/tailhead/json/JsonDocument$Builder", "complete", "(II)V"⟩ : MethodName)) (z := (⟨"com/example/tailhead/tailhead/json/JsonDocument$Builder", "add", "(Lcom/example/tailhead/tailhead/json/JsonDocument$Kind;ZII)I"⟩ : MethodName)) rfl (hw _ (List.mem_of_getElem? (i := 23) rfl))) (hw _ (List.mem_of_getElem? (i := 57) rfl)) (hw _ (List.mem_of_getElem? (i := 58) rfl)) (hw _ (List.mem_of_getElem? (i := 60) rfl)) (hw _ (List.mem_of_getElem? (i := 59) rfl)) (hw _ (List.mem_of_getElem? (i := 2) rfl)) (hw _ (List.mem_of_getElem? (i := 61) rfl)) (by decide) E101 (rm_co l Z a0 hw b1 5 1 (upd (upd (upd (upd (upd own_f0 0 (.int (1 : Int32))) 1 (.int o)) 2 (.int (1 : Int32))) 3 (.int (0 : Int32))) 4 (.int (1 : Int32))) (upd (upd (upd (upd (upd (upd (upd (upd (upd (upd own_f0 (2 * 0) (.int p3)) (2 * 0 + 1) (.int p4)) (2 * 1) (.int p4)) (2 * 1 + 1) (.int p3)) (2 * 2) (.int p3)) (2 * 2 + 1) (.int p4)) (2 * 3) (.int p3)) (2 * 3 + 1) (.int p4)) (2 * 4) (.int p3)) (2 * 4 + 1) (.int p4)) p2 h101 G101.old Bi101 (by decide)) (by decide) (W := 0) (by decide) (by rw [hml]; rfl) (argsL := [(.int (Int32.ofNat 1)), (.int p2)]) (lenOf pd_9 rfl) rfl (Nat.le_of_eq rfl) (cells' := 13) rfl (by decide) (slots' := 147) rfl (by decide) (pc' := 145) rfl ?_
        intro T102 h102 G102 Q102
        have Bi102 : BI Z h102 b1 5 (upd (upd (upd (upd (upd own_f0 0 (.int (1 : Int32))) 1 (.int o)) 2 (.int (1 : Int32))) 3 (.int (0 : Int32))) 4 (.int (1 : Int32))) (upd (upd (upd (upd (upd (upd (upd (upd (upd (upd (upd (upd own_f0 (2 * 0) (.int p3)) (2 * 0 + 1) (.int p4)) (2 * 1) (.int p4)) (2 * 1 + 1) (.int p3)) (2 * 2) (.int p3)) (2 * 2 + 1) (.int p4)) (2 * 3) (.int p3)) (2 * 3 + 1) (.int p4)) (2 * 4) (.int p3)) (2 * 4 + 1) (.int p4)) (2 * 1) (.int (Int32.ofNat 5))) (2 * 1 + 1) (.int p2)) := Q102
        have E102 := own_biE Bi102
        refine Jvm.Own.aload G102.here hx (hb hby at_145) rfl rfl (pc' := 147) rfl ?_
        refine Jvm.Own.ldcS (n := 0) rfl G102 hx (hb hby at_147) (hw _ (List.mem_of_getElem? (i := 62) rfl)) (own_wS hw) (by decide) (by decide) (cells' := 15) rfl (by decide) (slots' := 151) rfl (by decide) (pc' := 149) rfl ?_
        intro T103 h103 a103 G103 X103
        have E105 := (E102.ext X103)
        refine Jvm.Own.callV1 (y := (⟨"com/example/tailhead/tailhead/json/JsonDocument$Builder", "build", "(Ljava/lang/String;)Lcom/example/tailhead/tailhead/json/JsonDocument;"⟩ : MethodName)) (z := (⟨"com/example/tailhead/tailhead/json/JsonDocument$Builder", "build", "(Ljava/lang/String;)Lcom/example/tailhead/tailhead/json/JsonDocument;"⟩ : MethodName)) G103 hx (hb hby at_149) (nfOf (y := (⟨"com/example/tailhead/tailhead/json/JsonDocument$Builder", "build", "(Ljava/lang/String;)Lcom/example/tailhead/tailhead/json/JsonDocument;"⟩ : MethodName)) (z := (⟨"com/example/tailhead/tailhead/json/JsonDocument$Builder", "add", "(Lcom/example/tailhead/tailhead/json/JsonDocument$Kind;ZII)I"⟩ : MethodName)) rfl (hw _ (List.mem_of_getElem? (i := 23) rfl))) (hw _ (List.mem_of_getElem? (i := 69) rfl)) (hw _ (List.mem_of_getElem? (i := 70) rfl)) (hw _ (List.mem_of_getElem? (i := 72) rfl)) (hw _ (List.mem_of_getElem? (i := 71) rfl)) (hw _ (List.mem_of_getElem? (i := 2) rfl)) (hw _ (List.mem_of_getElem? (i := 73) rfl)) (by decide) E105 (rm_bu l Z a0 hw b1 a103 5 (upd (upd (upd (upd (upd own_f0 0 (.int (1 : Int32))) 1 (.int o)) 2 (.int (1 : Int32))) 3 (.int (0 : Int32))) 4 (.int (1 : Int32))) (upd (upd (upd (upd (upd (upd (upd (upd (upd (upd (upd (upd own_f0 (2 * 0) (.int p3)) (2 * 0 + 1) (.int p4)) (2 * 1) (.int p4)) (2 * 1 + 1) (.int p3)) (2 * 2) (.int p3)) (2 * 2 + 1) (.int p4)) (2 * 3) (.int p3)) (2 * 3 + 1) (.int p4)) (2 * 4) (.int p3)) (2 * 4 + 1) (.int p4)) (2 * 1) (.int (Int32.ofNat 5))) (2 * 1 + 1) (.int p2)) h103 G103.old (own_biX Bi102 X103)) (by decide) (W := 0) (by decide) (by rw [hml]; rfl) (argsL := [(.ref a103)]) (lenOf pd_10 rfl) rfl (Nat.le_of_eq rfl) (cells' := 17) rfl (by decide) (slots' := 667) rfl (by decide) (pc' := 152) rfl ?_
        intro T104 h104 r104 G104 Q104
        obtain ⟨d104, hr104, Di104⟩ := Q104
        subst hr104
        have E104 := own_diE Di104
        refine Jvm.Own.astore G104.here hx (hb hby at_152) rfl (Ls' := #[.val (.int p0), .val (.int p1), .val (.int p2), .val (.int p3), .val (.int p4), .val (.ref b1), .val (.int (1 : Int32)), .val (.ref kd), .val (.int (3 : Int32)), .val (.int (Int32.ofNat 1)), .val (.ref d104), .unset]) rfl (pc' := 154) rfl ?_
        refine Jvm.Own.iload G104.here hx (hb hby at_154) rfl (pc' := 156) rfl ?_
        refine Jvm.Own.iload G104.here hx (hb hby at_156) rfl (pc' := 158) rfl ?_
        refine Jvm.Own.ifN G104.here hx (hb hby at_158) ((if0 _ _).trans (feq (by decide : ¬ (1 : Int32) = (0 : Int32))).1) (pc' := 161) rfl ?_
        refine Jvm.Own.iconst G104.here hx (hb hby at_161) (v := (1 : Int32)) rfl (pc' := 162) rfl ?_
        refine Jvm.Own.goto G104.here hx (hb hby at_162) (pc' := 166) (by decide) (by decide) ?_
        refine Jvm.Own.icmpN G104.here hx (hb hby at_166) (teq ((by decide) : (Int32.ofNat 1) = (1 : Int32))).2 (pc' := 169) rfl ?_
        refine Jvm.Own.iconst G104.here hx (hb hby at_169) (v := (1 : Int32)) rfl (pc' := 170) rfl ?_
        refine Jvm.Own.goto G104.here hx (hb hby at_170) (pc' := 174) (by decide) (by decide) ?_
        refine Jvm.Own.istore G104.here hx (hb hby at_174) (Ls' := #[.val (.int p0), .val (.int p1), .val (.int p2), .val (.int p3), .val (.int p4), .val (.ref b1), .val (.int (1 : Int32)), .val (.ref kd), .val (.int (3 : Int32)), .val (.int (Int32.ofNat 1)), .val (.ref d104), .val (.int (1 : Int32))]) rfl (pc' := 176) rfl ?_
        refine Jvm.Own.iload G104.here hx (hb hby at_176) rfl (pc' := 178) rfl ?_
        refine Jvm.Own.ifN G104.here hx (hb hby at_178) ((if0 _ _).trans (feq (by decide : ¬ (1 : Int32) = (0 : Int32))).1) (pc' := 181) rfl ?_
        refine Jvm.Own.aload G104.here hx (hb hby at_181) rfl rfl (pc' := 183) rfl ?_
        refine Jvm.Own.iload G104.here hx (hb hby at_183) rfl (pc' := 185) rfl ?_
        refine Jvm.Own.callVP (y := (⟨"com/example/tailhead/tailhead/json/JsonDocument", "size", "(I)I"⟩ : MethodName)) (z := (⟨"com/example/tailhead/tailhead/json/JsonDocument", "size", "(I)I"⟩ : MethodName)) G104 hx (hb hby at_185) (nfOf (y := (⟨"com/example/tailhead/tailhead/json/JsonDocument", "size", "(I)I"⟩ : MethodName)) (z := (⟨"com/example/tailhead/tailhead/json/JsonDocument", "size", "(I)I"⟩ : MethodName)) rfl (hw _ (List.mem_of_getElem? (i := 96) rfl))) (hw _ (List.mem_of_getElem? (i := 93) rfl)) (hw _ (List.mem_of_getElem? (i := 94) rfl)) (hw _ (List.mem_of_getElem? (i := 96) rfl)) (hw _ (List.mem_of_getElem? (i := 95) rfl)) (hw _ (List.mem_of_getElem? (i := 76) rfl)) (hw _ (List.mem_of_getElem? (i := 97) rfl)) (by decide) E104 (rm_sz l Z a0 hw d104 5 1 (upd (upd (upd (upd (upd own_f0 0 (.int (1 : Int32))) 1 (.int o)) 2 (.int (1 : Int32))) 3 (.int (0 : Int32))) 4 (.int (1 : Int32))) (upd (upd (upd (upd (upd (upd (upd (upd (upd (upd (upd (upd own_f0 (2 * 0) (.int p3)) (2 * 0 + 1) (.int p4)) (2 * 1) (.int p4)) (2 * 1 + 1) (.int p3)) (2 * 2) (.int p3)) (2 * 2 + 1) (.int p4)) (2 * 3) (.int p3)) (2 * 3 + 1) (.int p4)) (2 * 4) (.int p3)) (2 * 4 + 1) (.int p4)) (2 * 1) (.int (Int32.ofNat 5))) (2 * 1 + 1) (.int p2)) p2 h104 G104.old Di104 (by decide) (by simp [upd])) (by decide) (W := 0) (by decide) (by rw [hml]; rfl) (argsL := [(.int (Int32.ofNat 1))]) (lenOf pd_11 rfl) rfl (Nat.le_of_eq rfl) (cells' := 17) rfl (by decide) (slots' := 667) rfl (by decide) (pc' := 188) rfl ?_
        intro T106 r106 G106 Q106
        obtain rfl : r106 = .int p2 := Q106
        refine Jvm.Own.iloadN G106.here hx (hb hby at_188) rfl (pc' := 189) rfl ?_
        refine Jvm.Own.icmpN G106.here hx (hb hby at_189) (teq (rfl : p2 = p2)).2 (pc' := 192) rfl ?_
        refine Jvm.Own.aload G106.here hx (hb hby at_192) rfl rfl (pc' := 194) rfl ?_
        refine Jvm.Own.iload G106.here hx (hb hby at_194) rfl (pc' := 196) rfl ?_
        refine Jvm.Own.callVP (y := (⟨"com/example/tailhead/tailhead/json/JsonDocument", "next", "(I)I"⟩ : MethodName)) (z := (⟨"com/example/tailhead/tailhead/json/JsonDocument", "next", "(I)I"⟩ : MethodName)) G106 hx (hb hby at_196) (nfOf (y := (⟨"com/example/tailhead/tailhead/json/JsonDocument", "next", "(I)I"⟩ : MethodName)) (z := (⟨"com/example/tailhead/tailhead/json/JsonDocument", "size", "(I)I"⟩ : MethodName)) rfl (hw _ (List.mem_of_getElem? (i := 96) rfl))) (hw _ (List.mem_of_getElem? (i := 98) rfl)) (hw _ (List.mem_of_getElem? (i := 99) rfl)) (hw _ (List.mem_of_getElem? (i := 101) rfl)) (hw _ (List.mem_of_getElem? (i := 100) rfl)) (hw _ (List.mem_of_getElem? (i := 76) rfl)) (hw _ (List.mem_of_getElem? (i := 102) rfl)) (by decide) E104 (rm_nx l Z a0 hw d104 5 1 (upd (upd (upd (upd (upd own_f0 0 (.int (1 : Int32))) 1 (.int o)) 2 (.int (1 : Int32))) 3 (.int (0 : Int32))) 4 (.int (1 : Int32))) (upd (upd (upd (upd (upd (upd (upd (upd (upd (upd (upd (upd own_f0 (2 * 0) (.int p3)) (2 * 0 + 1) (.int p4)) (2 * 1) (.int p4)) (2 * 1 + 1) (.int p3)) (2 * 2) (.int p3)) (2 * 2 + 1) (.int p4)) (2 * 3) (.int p3)) (2 * 3 + 1) (.int p4)) (2 * 4) (.int p3)) (2 * 4 + 1) (.int p4)) (2 * 1) (.int (Int32.ofNat 5))) (2 * 1 + 1) (.int p2)) o (Int32.ofNat 5) w_s_JsonDocument_Kind_OBJECT w_s_JsonDocument_Kind_ARRAY h104 G106.old Di104 (by decide) (by simp [upd]) (own_o1 o ho) (by simp [upd]) S_s_JsonDocument_Kind_OBJECT E_s_JsonDocument_Kind_OBJECT S_s_JsonDocument_Kind_ARRAY E_s_JsonDocument_Kind_ARRAY F_s_JsonDocument_Kind_ARRAY_ordinal F_s_JsonDocument_Kind_OBJECT_ordinal S_s_JsonDocument_LAST_HOLDING) (by decide) (W := 0) (by decide) (by rw [hml]; rfl) (argsL := [(.int (Int32.ofNat 1))]) (lenOf pd_11 rfl) rfl (Nat.le_of_eq rfl) (cells' := 17) rfl (by decide) (slots' := 667) rfl (by decide) (pc' := 199) rfl ?_
        intro T107 r107 G107 Q107
        obtain rfl : r107 = .int (Int32.ofNat 5) := Q107
        refine Jvm.Own.iload G107.here hx (hb hby at_199) rfl (pc' := 201) rfl ?_
        refine Jvm.Own.iconst G107.here hx (hb hby at_201) (v := (1 : Int32)) rfl (pc' := 202) rfl ?_
        refine Jvm.Own.iadd G107.here hx (hb hby at_202) (pc' := 203) rfl ?_
        refine Jvm.Own.iload G107.here hx (hb hby at_203) rfl (pc' := 205) rfl ?_
        refine Jvm.Own.iadd G107.here hx (hb hby at_205) (pc' := 206) rfl ?_
        refine Jvm.Own.icmpN G107.here hx (hb hby at_206) (teq ((by decide) : (Int32.ofNat 5) = (((Int32.ofNat 1) + (1 : Int32)) + (3 : Int32)))).2 (pc' := 209) rfl ?_
        refine Jvm.Own.iconst G107.here hx (hb hby at_209) (v := (1 : Int32)) rfl (pc' := 210) rfl ?_
        refine Jvm.Own.goto G107.here hx (hb hby at_210) (pc' := 214) (by decide) (by decide) ?_
        refine Jvm.Own.istore G107.here hx (hb hby at_214) (Ls' := #[.val (.int p0), .val (.int p1), .val (.int p2), .val (.int p3), .val (.int p4), .val (.ref b1), .val (.int (1 : Int32)), .val (.ref kd), .val (.int (3 : Int32)), .val (.int (Int32.ofNat 1)), .val (.ref d104), .val (.int (1 : Int32))]) rfl (pc' := 216) rfl ?_
        refine Jvm.Own.iload G107.here hx (hb hby at_216) rfl (pc' := 218) rfl ?_
        refine Jvm.Own.ifN G107.here hx (hb hby at_218) ((if0 _ _).trans (feq (by decide : ¬ (1 : Int32) = (0 : Int32))).1) (pc' := 221) rfl ?_
        refine Jvm.Own.iload G107.here hx (hb hby at_221) rfl (pc' := 223) rfl ?_
        refine Jvm.Own.ifN G107.here hx (hb hby at_223) ((if0 _ _).trans (feq (by decide : ¬ (1 : Int32) = (0 : Int32))).1) (pc' := 226) rfl ?_
        refine Jvm.Own.aload G107.here hx (hb hby at_226) rfl rfl (pc' := 228) rfl ?_
        refine Jvm.Own.iload G107.here hx (hb hby at_228) rfl (pc' := 230) rfl ?_
        refine Jvm.Own.iconst G107.here hx (hb hby at_230) (v := (1 : Int32)) rfl (pc' := 231) rfl ?_
        refine Jvm.Own.isub G107.here hx (hb hby at_231) (pc' := 232) rfl ?_
        rw [show (Int32.ofNat 1 - (1 : Int32)) = Int32.ofNat 0 from by decide]
        refine Jvm.Own.callVP (y := (⟨"com/example/tailhead/tailhead/json/JsonDocument", "size", "(I)I"⟩ : MethodName)) (z := (⟨"com/example/tailhead/tailhead/json/JsonDocument", "size", "(I)I"⟩ : MethodName)) G107 hx (hb hby at_232) (nfOf (y := (⟨"com/example/tailhead/tailhead/json/JsonDocument", "size", "(I)I"⟩ : MethodName)) (z := (⟨"com/example/tailhead/tailhead/json/JsonDocument", "size", "(I)I"⟩ : MethodName)) rfl (hw _ (List.mem_of_getElem? (i := 96) rfl))) (hw _ (List.mem_of_getElem? (i := 93) rfl)) (hw _ (List.mem_of_getElem? (i := 94) rfl)) (hw _ (List.mem_of_getElem? (i := 96) rfl)) (hw _ (List.mem_of_getElem? (i := 95) rfl)) (hw _ (List.mem_of_getElem? (i := 76) rfl)) (hw _ (List.mem_of_getElem? (i := 97) rfl)) (by decide) E104 (rm_sz l Z a0 hw d104 5 0 (upd (upd (upd (upd (upd own_f0 0 (.int (1 : Int32))) 1 (.int o)) 2 (.int (1 : Int32))) 3 (.int (0 : Int32))) 4 (.int (1 : Int32))) (upd (upd (upd (upd (upd (upd (upd (upd (upd (upd (upd (upd own_f0 (2 * 0) (.int p3)) (2 * 0 + 1) (.int p4)) (2 * 1) (.int p4)) (2 * 1 + 1) (.int p3)) (2 * 2) (.int p3)) (2 * 2 + 1) (.int p4)) (2 * 3) (.int p3)) (2 * 3 + 1) (.int p4)) (2 * 4) (.int p3)) (2 * 4 + 1) (.int p4)) (2 * 1) (.int (Int32.ofNat 5))) (2 * 1 + 1) (.int p2)) p4 h104 G107.old Di104 (by decide) (by simp [upd])) (by decide) (W := 0) (by decide) (by rw [hml]; rfl) (argsL := [(.int (Int32.ofNat 0))]) (lenOf pd_11 rfl) rfl (Nat.le_of_eq rfl) (cells' := 17) rfl (by decide) (slots' := 667) rfl (by decide) (pc' := 235) rfl ?_
        intro T108 r108 G108 Q108
        obtain rfl : r108 = .int p4 := Q108
        refine Jvm.Own.iload G108.here hx (hb hby at_235) rfl (pc' := 237) rfl ?_
        refine Jvm.Own.icmpN G108.here hx (hb hby at_237) (teq (rfl : p4 = p4)).2 (pc' := 240) rfl ?_
        refine Jvm.Own.iconst G108.here hx (hb hby at_240) (v := (1 : Int32)) rfl (pc' := 241) rfl ?_
        refine Jvm.Own.goto G108.here hx (hb hby at_241) (pc' := 245) (by decide) (by decide) ?_
        refine Jvm.Own.istore G108.here hx (hb hby at_245) (Ls' := #[.val (.int p0), .val (.int p1), .val (.int p2), .val (.int p3), .val (.int p4), .val (.ref b1), .val (.int (1 : Int32)), .val (.ref kd), .val (.int (3 : Int32)), .val (.int (Int32.ofNat 1)), .val (.ref d104), .val (.int (1 : Int32))]) rfl (pc' := 247) rfl ?_
        refine Jvm.Own.iload G108.here hx (hb hby at_247) rfl (pc' := 249) rfl ?_
        refine Jvm.Own.iconst G108.here hx (hb hby at_249) (v := (1 : Int32)) rfl (pc' := 250) rfl ?_
        refine Jvm.Own.icmpN G108.here hx (hb hby at_250) (flt (by decide : ¬ (3 : Int32) < (1 : Int32))).1 (pc' := 253) rfl ?_
        refine Jvm.Own.iload G108.here hx (hb hby at_253) rfl (pc' := 255) rfl ?_
        refine Jvm.Own.ifN G108.here hx (hb hby at_255) ((if0 _ _).trans (feq (by decide : ¬ (1 : Int32) = (0 : Int32))).1) (pc' := 258) rfl ?_
        refine Jvm.Own.aload G108.here hx (hb hby at_258) rfl rfl (pc' := 260) rfl ?_
        refine Jvm.Own.iload G108.here hx (hb hby at_260) rfl (pc' := 262) rfl ?_
        refine Jvm.Own.iconst G108.here hx (hb hby at_262) (v := (1 : Int32)) rfl (pc' := 263) rfl ?_
        refine Jvm.Own.iadd G108.here hx (hb hby at_263) (pc' := 264) rfl ?_
        rw [show (Int32.ofNat 1 + (1 : Int32)) = Int32.ofNat 2 from by decide]
        refine Jvm.Own.callVP (y := (⟨"com/example/tailhead/tailhead/json/JsonDocument", "next", "(I)I"⟩ : MethodName)) (z := (⟨"com/example/tailhead/tailhead/json/JsonDocument", "next", "(I)I"⟩ : MethodName)) G108 hx (hb hby at_264) (nfOf (y := (⟨"com/example/tailhead/tailhead/json/JsonDocument", "next", "(I)I"⟩ : MethodName)) (z := (⟨"com/example/tailhead/tailhead/json/JsonDocument", "size", "(I)I"⟩ : MethodName)) rfl (hw _ (List.mem_of_getElem? (i := 96) rfl))) (hw _ (List.mem_of_getElem? (i := 98) rfl)) (hw _ (List.mem_of_getElem? (i := 99) rfl)) (hw _ (List.mem_of_getElem? (i := 101) rfl)) (hw _ (List.mem_of_getElem? (i := 100) rfl)) (hw _ (List.mem_of_getElem? (i := 76) rfl)) (hw _ (List.mem_of_getElem? (i := 102) rfl)) (by decide) E104 (rm_nx l Z a0 hw d104 5 2 (upd (upd (upd (upd (upd own_f0 0 (.int (1 : Int32))) 1 (.int o)) 2 (.int (1 : Int32))) 3 (.int (0 : Int32))) 4 (.int (1 : Int32))) (upd (upd (upd (upd (upd (upd (upd (upd (upd (upd (upd (upd own_f0 (2 * 0) (.int p3)) (2 * 0 + 1) (.int p4)) (2 * 1) (.int p4)) (2 * 1 + 1) (.int p3)) (2 * 2) (.int p3)) (2 * 2 + 1) (.int p4)) (2 * 3) (.int p3)) (2 * 3 + 1) (.int p4)) (2 * 4) (.int p3)) (2 * 4 + 1) (.int p4)) (2 * 1) (.int (Int32.ofNat 5))) (2 * 1 + 1) (.int p2)) (1 : Int32) p3 w_s_JsonDocument_Kind_OBJECT w_s_JsonDocument_Kind_ARRAY h104 G108.old Di104 (by decide) (by simp [upd]) (by decide) (by simp [upd]) S_s_JsonDocument_Kind_OBJECT E_s_JsonDocument_Kind_OBJECT S_s_JsonDocument_Kind_ARRAY E_s_JsonDocument_Kind_ARRAY F_s_JsonDocument_Kind_ARRAY_ordinal F_s_JsonDocument_Kind_OBJECT_ordinal S_s_JsonDocument_LAST_HOLDING) (by decide) (W := 0) (by decide) (by rw [hml]; rfl) (argsL := [(.int (Int32.ofNat 2))]) (lenOf pd_11 rfl) rfl (Nat.le_of_eq rfl) (cells' := 17) rfl (by decide) (slots' := 667) rfl (by decide) (pc' := 267) rfl ?_
        intro T109 r109 G109 Q109
        obtain rfl : r109 = .int p3 := Q109
        refine Jvm.Own.iloadN G109.here hx (hb hby at_267) rfl (pc' := 268) rfl ?_
        refine Jvm.Own.icmpN G109.here hx (hb hby at_268) (teq (rfl : p3 = p3)).2 (pc' := 271) rfl ?_
        refine Jvm.Own.iconst G109.here hx (hb hby at_271) (v := (1 : Int32)) rfl (pc' := 272) rfl ?_
        refine Jvm.Own.goto G109.here hx (hb hby at_272) (pc' := 276) (by decide) (by decide) ?_
        refine Jvm.Own.istore G109.here hx (hb hby at_276) (Ls' := #[.val (.int p0), .val (.int p1), .val (.int p2), .val (.int p3), .val (.int p4), .val (.ref b1), .val (.int (1 : Int32)), .val (.ref kd), .val (.int (3 : Int32)), .val (.int (Int32.ofNat 1)), .val (.ref d104), .val (.int (1 : Int32))]) rfl (pc' := 278) rfl ?_
        refine Jvm.Own.iload G109.here hx (hb hby at_278) rfl (pc' := 280) rfl ?_
        exact Jvm.Own.retI G109 hx (hb hby at_280) hret hlk (by simp) rfl (by decide) (by decide) ⟨_, rfl, rfl⟩
    by_cases hb28 : (p1 &&& (2 : Int32)) = (0 : Int32)
    · skip
      refine Jvm.Own.ifY G5.here hx (hb hby at_28) ((if0 _ _).trans (teq hb28).1) (pc' := 37) (by decide) (by decide) ?_
      refine Jvm.Own.getstatic G5 hx (hb hby at_37) (host := "") (Or.inl (hw _ (List.mem_of_getElem? (i := 18) rfl))) Via.refl S_s_JsonDocument_Kind_ARRAY (pc' := 40) rfl ?_
      intro T110 G110
      exact K53 T110 G110 w_s_JsonDocument_Kind_ARRAY _ E_s_JsonDocument_Kind_ARRAY F_s_JsonDocument_Kind_ARRAY_ordinal (Or.inr rfl)
    · skip
      refine Jvm.Own.ifN G5.here hx (hb hby at_28) ((if0 _ _).trans (feq hb28).1) (pc' := 31) rfl ?_
      refine Jvm.Own.getstatic G5 hx (hb hby at_31) (host := "") (Or.inl (hw _ (List.mem_of_getElem? (i := 15) rfl))) Via.refl S_s_JsonDocument_Kind_OBJECT (pc' := 34) rfl ?_
      intro T111 G111
      refine Jvm.Own.goto G111.here hx (hb hby at_34) (pc' := 40) (by decide) (by decide) ?_
      exact K53 T111 G111 w_s_JsonDocument_Kind_OBJECT _ E_s_JsonDocument_Kind_OBJECT F_s_JsonDocument_Kind_OBJECT_ordinal (Or.inl rfl)
set_option maxRecDepth 65536 in
set_option maxHeartbeats 4000000 in
theorem comes_1 {Post : Tables → Env → Array Value → State → Outcome → State → Prop} (hpost : ∀ tb e args s v u, (limb_1_1.after args s (.returned v) u = true ∧ limb_1_2.after args s (.returned v) u = true ∧ True) → ReturnedEndW s (.returned v) u (Jvm.fieldLocs frame_1_writes args s ++ Jvm.arrayLocs frame_1_arrays args s ++ Jvm.staticLocs frame_1_statics s) 32 2240 → Post tb e args s (.returned v) u) :
    ArmFor flags0 classFile x code maxLocals ret World_1 tables_1 room_1 Calls_1 rest_1 Pre_1 Post := by
  intro l hfl _ _ p e ha hc hk s m args below hf hA hF happ hP
  obtain ⟨hcalls, hrest, hpre⟩ := hP
  obtain ⟨-, -, -, hnamed, -, -, -, hat⟩ := (Spec.applies_iff hf).mp happ
  obtain ⟨hg, hn⟩ := and_e (Cond.before_iff.mp (show (Jvm.Cond.and given_1 narrow_1).before args s = true from hpre))
  obtain ⟨hcount, hq0⟩ := and_e hg
  obtain ⟨ha0, hq1⟩ := and_e hq0
  obtain ⟨ha1, hq2⟩ := and_e hq1
  obtain ⟨ha2, hq3⟩ := and_e hq2
  obtain ⟨ha3, ha4⟩ := and_e hq3
  obtain ⟨v0, v1, v2, v3, v4, rfl⟩ : ∃ v0 v1 v2 v3 v4 : Value, args = #[v0, v1, v2, v3, v4] := by
    have hs : args.size = 5 := by simpa [Cond.value, given_1] using hcount
    obtain ⟨L⟩ := args
    match L, hs with
    | [v0, v1, v2, v3, v4], _ => exact ⟨v0, v1, v2, v3, v4, rfl⟩
  have hw := fun d (hd : d ∈ tables_1) => atoms_spec (ws := Jvm.Cond.code x code maxLocals ret :: tables_1) hat d (List.mem_cons_of_mem _ hd)
  have hfit : Fit s := fun {y c} hc i hi => by
    obtain ⟨ha, rfl⟩ := Array.getElem?_eq_some_iff.mp hc
    have q := List.all_eq_true.mp ((Array.all_eq_true_iff_forall_mem.mp hF) _ (Array.getElem_mem ha)) i (List.mem_range.mpr hi)
    simpa [Array.getElem?_eq_getElem hi] using q
  obtain ⟨i0, ei0⟩ := is_v ha0
  obtain rfl : v0 = (.int i0) := Option.some.inj ei0
  obtain ⟨i1, ei1⟩ := is_v ha1
  obtain rfl : v1 = (.int i1) := Option.some.inj ei1
  obtain ⟨i2, ei2⟩ := is_v ha2
  obtain rfl : v2 = (.int i2) := Option.some.inj ei2
  obtain ⟨i3, ei3⟩ := is_v ha3
  obtain rfl : v3 = (.int i3) := Option.some.inj ei3
  obtain ⟨i4, ei4⟩ := is_v ha4
  obtain rfl : v4 = (.int i4) := Option.some.inj ei4
  obtain ⟨n0a, n0b⟩ := and_e hn
  obtain ⟨n1a, n1b⟩ := and_e n0b
  obtain ⟨n2a, n2b⟩ := and_e n1b
  obtain ⟨n3a, n3b⟩ := and_e n2b
  obtain ⟨w_s_JsonDocument_Kind_OBJECT, ev_s_JsonDocument_Kind_OBJECT⟩ := exa_v n0a
  have S_s_JsonDocument_Kind_OBJECT := sta_of ev_s_JsonDocument_Kind_OBJECT (hw _ (List.mem_of_getElem? (i := 16) rfl)) (hw _ (List.mem_of_getElem? (i := 17) rfl))
  have E_s_JsonDocument_Kind_OBJECT := Exa.start ev_s_JsonDocument_Kind_OBJECT n0a
  obtain ⟨w_s_JsonDocument_Kind_ARRAY, ev_s_JsonDocument_Kind_ARRAY⟩ := exa_v n1a
  have S_s_JsonDocument_Kind_ARRAY := sta_of ev_s_JsonDocument_Kind_ARRAY (hw _ (List.mem_of_getElem? (i := 16) rfl)) (hw _ (List.mem_of_getElem? (i := 19) rfl))
  have E_s_JsonDocument_Kind_ARRAY := Exa.start ev_s_JsonDocument_Kind_ARRAY n1a
  have ev_s_JsonDocument_Kind_ARRAY_ordinal := eq_to n2a (Term.int_eval _)
  have F_s_JsonDocument_Kind_ARRAY_ordinal := fld_of ev_s_JsonDocument_Kind_ARRAY ev_s_JsonDocument_Kind_ARRAY_ordinal
  have ev_s_JsonDocument_Kind_OBJECT_ordinal := eq_to n3a (Term.int_eval _)
  have F_s_JsonDocument_Kind_OBJECT_ordinal := fld_of ev_s_JsonDocument_Kind_OBJECT ev_s_JsonDocument_Kind_OBJECT_ordinal
  have ev_s_JsonDocument_LAST_HOLDING := eq_to n3b (Term.int_eval _)
  have S_s_JsonDocument_LAST_HOLDING := sta_of ev_s_JsonDocument_LAST_HOLDING (hw _ (List.mem_of_getElem? (i := 76) rfl)) (hw _ (List.mem_of_getElem? (i := 104) rfl))
  obtain ⟨n, o, h1, h2, h3, v, L, rfl, ⟨N, -, w, rfl, hv⟩, hq⟩ := rm0 l s _ hw i0 i1 i2 i3 i4 w_s_JsonDocument_Kind_OBJECT w_s_JsonDocument_Kind_ARRAY s.heap (Ext.refl _) S_s_JsonDocument_Kind_OBJECT E_s_JsonDocument_Kind_OBJECT S_s_JsonDocument_Kind_ARRAY E_s_JsonDocument_Kind_ARRAY F_s_JsonDocument_Kind_ARRAY_ordinal F_s_JsonDocument_Kind_OBJECT_ordinal S_s_JsonDocument_LAST_HOLDING p e ha hc hk s m _ below hf ((Spec.applies_iff_loose hf).mp happ).1 ⟨rfl, State.Warmed39.refl s, rfl⟩ trivial
  obtain rfl : w = .int 1 := hv
  refine ⟨n, _, h1, h2, h3, hpost _ _ _ _ _ _ ⟨Cond.after_iff.mpr rfl, Cond.after_iff.mpr (eq_i res_at (Term.int_eval (1)) rfl), trivial⟩ ⟨hq.1, hq.2.1, hq.2.2.1, (hq.2.2.2.sift fun y hy => Or.inr (N y hy)).mono (by decide) (by decide)⟩⟩
theorem main_1_1 : Claimed_1_1 := comes_1 fun _ _ _ _ _ _ h hF => ⟨h.1, hF⟩
theorem main_1_2 : Claimed_1_2 := comes_1 fun _ _ _ _ _ _ h hF => ⟨h.2.1, hF⟩
end Jvm.Pilot.@@N@@
namespace Jvm.Pilot.@@N@@
open Jvm Jvm.ClassFile Sem Op Lib Jvm.Free Jvm.Stand Jvm.Pilot.@@N@@.Jvm.D
/-! MADE BY PROGRAM (witnessworld.py) out of the Statement's table words and the real class files: 21 classes; the members and pool entries that the words name. The judged class is class 1, her method 1. -/
namespace start1
open Jvm.ClassFile
def u (s : String) : CpInfo := .utf8 (stringToUtf16 s)
/-- a pool by its gaps: so many unusable entries, then the entry; so many at the end -/
def gap : Nat → List CpInfo → List CpInfo
  | 0, r => r
  | n + 1, r => .unusable :: gap n r
def poolList (es : List (Nat × CpInfo)) (last : Nat) : List CpInfo := es.foldr (fun e r => gap e.1 (e.2 :: r)) (gap last [])
def pool (es : List (Nat × CpInfo)) (last : Nat) : Array CpInfo := ⟨poolList es last⟩
def fileOf (pool : Array CpInfo) (this : Nat) (attrs : Array Attribute := #[]) (ms : Array MethodInfo := #[]) (fl : Nat := 33) (sup : Nat := 0) (ifs : Array Nat := #[]) (fds : Array FieldInfo := #[]) : ClassFile where
  minorVersion := 0
  majorVersion := 65
  constantPool := pool
  accessFlags := fl
  thisClass := this
  superClass := sup
  interfaces := ifs
  fields := fds
  methods := ms
  attributes := attrs
def plain (name : String) (sup : Option ClassId) : Class where
  name := name
  kind := .ordinary
  loader := none
  accessFlags := 33
  super := sup
  interfaces := #[]
  cf := none
  fields := #[]
  methods := #[]
  instanceTypes := #[]
  staticTypes := #[]
  resolved := #[]
  callSites := []
  init := .initialized
  statics := none
  mirror := none

def pool0 : Array CpInfo := pool [(5, u "<init>"), (0, u "()V"), (1, .class_ 10), (1, u "java/lang/Object")] 113

def k0c0 : Code := { maxStack := 0, maxLocals := 1, code := object_method_1_code, exceptionTable := #[], attributes := #[] }
def k0m0 : Method := { name := "<init>", desc := "()V", sig := { parameters := [], returnType := none }, accessFlags := 1, code := some k0c0 }
/-- java/lang/Object -/
def k0 : Class := { plain "java/lang/Object" none with
  accessFlags := 33
  interfaces := #[]
  cf := some (fileOf pool0 8 #[] #[{ accessFlags := 1, nameIndex := 5, descriptorIndex := 6, attributes := #[] }] 33 0 #[] #[])
  fields := #[]
  methods := #[k0m0]
  instanceTypes := #[]
  staticTypes := #[]
  resolved := Array.replicate 124 none
  statics := none }

def pool1 : Array CpInfo := pool [(2, .class_ 4), (1, u "java/lang/Object"), (0, u "<init>"), (0, u "()V"), (0, .class_ 8), (0, u "com/example/tailhead/tailhead/json/JsonDocument$Builder"), (0, .methodref 7 10), (0, .nameAndType 5 11), (0, u "(I)V"), (0, .fieldref 13 14), (0, .class_ 15), (0, .nameAndType 16 17), (0, u "com/example/tailhead/tailhead/json/JsonDocument$Kind"), (0, u "OBJECT"), (0, u "Lcom/example/tailhead/tailhead/json/JsonDocument$Kind;"), (0, .fieldref 13 19), (0, .nameAndType 20 17), (0, u "ARRAY"), (0, .methodref 7 22), (0, .nameAndType 23 24), (0, u "add"), (0, u "(Lcom/example/tailhead/tailhead/json/JsonDocument$Kind;ZII)I"), (0, .methodref 7 26), (0, .nameAndType 27 28), (0, u "complete"), (0, u "(II)V"), (0, .string 30), (0, u ""), (0, .methodref 7 32), (0, .nameAndType 33 34), (0, u "build"), (0, u "(Ljava/lang/String;)Lcom/example/tailhead/tailhead/json/JsonDocument;"), (0, .methodref 36 37), (0, .class_ 38), (0, .nameAndType 39 40), (0, u "com/example/tailhead/tailhead/json/JsonDocument"), (0, u "size"), (0, u "(I)I"), (0, .methodref 36 42), (0, .nameAndType 43 40), (0, u "next"), (0, .class_ 45), (0, u "com/example/tailhead/tailhead/json/BuilderCompletePinLaw"), (2, u "law"), (0, u "(IIIII)Z")] 6

def k1m0 : Method := { name := "<init>", desc := "()V", sig := { parameters := [], returnType := none }, accessFlags := 1, code := none }
def k1c1 : Code := { maxStack := 5, maxLocals := 12, code := code, exceptionTable := #[], attributes := #[] }
def k1m1 : Method := { name := "law", desc := "(IIIII)Z", sig := { parameters := [.int, .int, .int, .int, .int], returnType := some .boolean }, accessFlags := 9, code := some k1c1 }
/-- com/example/tailhead/tailhead/json/BuilderCompletePinLaw -/
def k1 : Class := { plain "com/example/tailhead/tailhead/json/BuilderCompletePinLaw" (some 0) with
  accessFlags := 49
  interfaces := #[]
  cf := some (fileOf pool1 44 #[] #[{ accessFlags := 1, nameIndex := 5, descriptorIndex := 6, attributes := #[] }, { accessFlags := 9, nameIndex := 48, descriptorIndex := 49, attributes := #[] }] 49 2 #[] #[])
  fields := #[]
  methods := #[k1m0, k1m1]
  instanceTypes := #[]
  staticTypes := #[]
  resolved := Array.replicate 56 none
  statics := none }

def pool2 : Array CpInfo := pool [(3, .class_ 4), (0, u "com/example/tailhead/tailhead/json/JsonDocument"), (0, .methodref 6 7), (0, .class_ 8), (0, .nameAndType 9 10), (0, u "java/lang/Object"), (0, u "<init>"), (0, u "()V"), (0, .fieldref 12 13), (0, .class_ 14), (0, .nameAndType 15 16), (0, u "com/example/tailhead/tailhead/json/JsonDocument$Builder"), (0, u "kinds"), (0, u "[B"), (0, .fieldref 12 18), (0, .nameAndType 19 20), (0, u "spans"), (0, u "[I"), (0, .fieldref 12 22), (0, .nameAndType 23 24), (0, u "count"), (0, u "I"), (0, .integer 1073741819), (7, .long 2), (1, .long 1073741819), (1, .methodref 38 39), (0, .class_ 40), (0, .nameAndType 41 42), (0, u "java/lang/Math"), (0, u "min"), (0, u "(JJ)J"), (0, .methodref 44 45), (0, .class_ 46), (0, .nameAndType 47 48), (0, u "java/util/Arrays"), (0, u "copyOf"), (0, u "([BI)[B"), (0, .methodref 44 50), (0, .nameAndType 47 51), (0, u "([II)[I"), (0, .methodref 53 54), (0, .class_ 55), (0, .nameAndType 56 57), (0, u "com/example/tailhead/tailhead/json/JsonDocument$Kind"), (0, u "ordinal"), (0, u "()I"), (23, .methodref 3 82), (0, .nameAndType 9 83), (0, u "(Lcom/example/tailhead/tailhead/json/JsonDocument$Builder;Ljava/lang/String;)V"), (0, u "MAX_NODES"), (1, u "(I)V"), (2, u "add"), (0, u "(Lcom/example/tailhead/tailhead/json/JsonDocument$Kind;ZII)I"), (2, u "complete"), (0, u "(II)V"), (2, u "build"), (0, u "(Ljava/lang/String;)Lcom/example/tailhead/tailhead/json/JsonDocument;")] 6

def k2c0 : Code := { maxStack := 3, maxLocals := 2, code := prog_29_method_1_code, exceptionTable := #[], attributes := #[] }
def k2m0 : Method := { name := "<init>", desc := "(I)V", sig := { parameters := [.int], returnType := none }, accessFlags := 0, code := some k2c0 }
def k2c1 : Code := { maxStack := 4, maxLocals := 6, code := prog_29_method_2_code, exceptionTable := #[], attributes := #[] }
def k2m1 : Method := { name := "add", desc := "(Lcom/example/tailhead/tailhead/json/JsonDocument$Kind;ZII)I", sig := { parameters := [(.object "com/example/tailhead/tailhead/json/JsonDocument$Kind"), .boolean, .int, .int], returnType := some .int }, accessFlags := 0, code := some k2c1 }
def k2c2 : Code := { maxStack := 3, maxLocals := 3, code := prog_29_method_3_code, exceptionTable := #[], attributes := #[] }
def k2m2 : Method := { name := "complete", desc := "(II)V", sig := { parameters := [.int, .int], returnType := none }, accessFlags := 0, code := some k2c2 }
def k2c3 : Code := { maxStack := 4, maxLocals := 2, code := prog_29_method_6_code, exceptionTable := #[], attributes := #[] }
def k2m3 : Method := { name := "build", desc := "(Ljava/lang/String;)Lcom/example/tailhead/tailhead/json/JsonDocument;", sig := { parameters := [(.object "java/lang/String")], returnType := some (.object "com/example/tailhead/tailhead/json/JsonDocument") }, accessFlags := 0, code := some k2c3 }
/-- com/example/tailhead/tailhead/json/JsonDocument$Builder -/
def k2 : Class := { plain "com/example/tailhead/tailhead/json/JsonDocument$Builder" (some 0) with
  accessFlags := 48
  interfaces := #[]
  cf := some (fileOf pool2 12 #[.nestHost 3] #[{ accessFlags := 0, nameIndex := 9, descriptorIndex := 86, attributes := #[] }, { accessFlags := 0, nameIndex := 89, descriptorIndex := 90, attributes := #[] }, { accessFlags := 0, nameIndex := 93, descriptorIndex := 94, attributes := #[] }, { accessFlags := 0, nameIndex := 97, descriptorIndex := 98, attributes := #[] }] 48 6 #[] #[{ accessFlags := 26, nameIndex := 84, descriptorIndex := 24, attributes := #[] }, { accessFlags := 2, nameIndex := 15, descriptorIndex := 16, attributes := #[] }, { accessFlags := 2, nameIndex := 19, descriptorIndex := 20, attributes := #[] }, { accessFlags := 2, nameIndex := 23, descriptorIndex := 24, attributes := #[] }])
  fields := #[{ name := "MAX_NODES", type := .int, accessFlags := 26, slot := 0, constantValue := 0 }, { name := "kinds", type := (.array .byte), accessFlags := 2, slot := 0, constantValue := 0 }, { name := "spans", type := (.array .int), accessFlags := 2, slot := 1, constantValue := 0 }, { name := "count", type := .int, accessFlags := 2, slot := 2, constantValue := 0 }]
  methods := #[k2m0, k2m1, k2m2, k2m3]
  instanceTypes := #[(.array .byte), (.array .int), .int]
  staticTypes := #[.int]
  resolved := Array.replicate 105 none
  statics := none }

def pool3 : Array CpInfo := pool [(1, .class_ 2), (0, u "java/lang/constant/Constable"), (0, .class_ 4), (0, u "java/lang/Object")] 6

/-- java/lang/constant/Constable -/
def k3 : Class := { plain "java/lang/constant/Constable" (some 0) with
  accessFlags := 1537
  interfaces := #[]
  cf := some (fileOf pool3 1 #[] #[] 1537 3 #[] #[])
  fields := #[]
  methods := #[]
  instanceTypes := #[]
  staticTypes := #[]
  resolved := Array.replicate 11 none
  statics := none }

def pool4 : Array CpInfo := pool [(1, .class_ 2), (0, u "java/lang/Comparable"), (0, .class_ 4), (0, u "java/lang/Object")] 7

/-- java/lang/Comparable -/
def k4 : Class := { plain "java/lang/Comparable" (some 0) with
  accessFlags := 1537
  interfaces := #[]
  cf := some (fileOf pool4 1 #[] #[] 1537 3 #[] #[])
  fields := #[]
  methods := #[]
  instanceTypes := #[]
  staticTypes := #[]
  resolved := Array.replicate 12 none
  statics := none }

def pool5 : Array CpInfo := pool [(1, .class_ 2), (0, u "java/io/Serializable"), (0, .class_ 4), (0, u "java/lang/Object")] 2

/-- java/io/Serializable -/
def k5 : Class := { plain "java/io/Serializable" (some 0) with
  accessFlags := 1537
  interfaces := #[]
  cf := some (fileOf pool5 1 #[] #[] 1537 3 #[] #[])
  fields := #[]
  methods := #[]
  instanceTypes := #[]
  staticTypes := #[]
  resolved := Array.replicate 7 none
  statics := none }

def pool6 : Array CpInfo := pool [(2, .class_ 4), (1, u "java/lang/Enum"), (0, u "name"), (0, u "Ljava/lang/String;"), (0, .fieldref 2 8), (0, .nameAndType 9 10), (0, u "ordinal"), (0, u "I"), (1, .class_ 14), (1, u "java/lang/Object"), (4, u "hash"), (86, .class_ 108), (1, u "java/lang/Enum$EnumDesc"), (2, .class_ 112), (0, u "java/lang/constant/Constable"), (0, .class_ 114), (0, u "java/lang/Comparable"), (0, .class_ 116), (0, u "java/io/Serializable"), (9, u "()I")] 77

def k6c0 : Code := { maxStack := 1, maxLocals := 1, code := jdk_37_method_2_code, exceptionTable := #[], attributes := #[] }
def k6m0 : Method := { name := "ordinal", desc := "()I", sig := { parameters := [], returnType := some .int }, accessFlags := 17, code := some k6c0 }
/-- java/lang/Enum -/
def k6 : Class := { plain "java/lang/Enum" (some 0) with
  accessFlags := 1057
  interfaces := #[3, 4, 5]
  cf := some (fileOf pool6 2 #[.nestMembers #[106]] #[{ accessFlags := 17, nameIndex := 9, descriptorIndex := 126, attributes := #[] }] 1057 12 #[111, 113, 115] #[{ accessFlags := 18, nameIndex := 5, descriptorIndex := 6, attributes := #[] }, { accessFlags := 18, nameIndex := 9, descriptorIndex := 10, attributes := #[] }, { accessFlags := 2, nameIndex := 19, descriptorIndex := 10, attributes := #[] }])
  fields := #[{ name := "name", type := (.object "java/lang/String"), accessFlags := 18, slot := 0, constantValue := 0 }, { name := "ordinal", type := .int, accessFlags := 18, slot := 1, constantValue := 0 }, { name := "hash", type := .int, accessFlags := 2, slot := 2, constantValue := 0 }]
  methods := #[k6m0]
  instanceTypes := #[(.object "java/lang/String"), .int, .int]
  staticTypes := #[]
  resolved := Array.replicate 204 none
  statics := none }

def pool7 : Array CpInfo := pool [(1, .class_ 2), (0, u "com/example/tailhead/tailhead/json/JsonDocument$Kind"), (2, u "OBJECT"), (0, u "Lcom/example/tailhead/tailhead/json/JsonDocument$Kind;"), (2, u "ARRAY"), (2, u "STRING"), (2, u "NUMBER"), (2, u "BOOLEAN"), (2, u "NULL"), (2, u "$VALUES"), (0, u "[Lcom/example/tailhead/tailhead/json/JsonDocument$Kind;"), (6, .class_ 34), (1, u "java/lang/Enum"), (29, .class_ 65), (0, u "com/example/tailhead/tailhead/json/JsonDocument")] 2

/-- com/example/tailhead/tailhead/json/JsonDocument$Kind -/
def k7 : Class := { plain "com/example/tailhead/tailhead/json/JsonDocument$Kind" (some 6) with
  accessFlags := 16433
  interfaces := #[]
  cf := some (fileOf pool7 1 #[.nestHost 64] #[] 16433 32 #[] #[{ accessFlags := 16409, nameIndex := 5, descriptorIndex := 6, attributes := #[] }, { accessFlags := 16409, nameIndex := 9, descriptorIndex := 6, attributes := #[] }, { accessFlags := 16409, nameIndex := 12, descriptorIndex := 6, attributes := #[] }, { accessFlags := 16409, nameIndex := 15, descriptorIndex := 6, attributes := #[] }, { accessFlags := 16409, nameIndex := 18, descriptorIndex := 6, attributes := #[] }, { accessFlags := 16409, nameIndex := 21, descriptorIndex := 6, attributes := #[] }, { accessFlags := 4122, nameIndex := 24, descriptorIndex := 25, attributes := #[] }])
  fields := #[{ name := "OBJECT", type := (.object "com/example/tailhead/tailhead/json/JsonDocument$Kind"), accessFlags := 16409, slot := 0, constantValue := 0 }, { name := "ARRAY", type := (.object "com/example/tailhead/tailhead/json/JsonDocument$Kind"), accessFlags := 16409, slot := 1, constantValue := 0 }, { name := "STRING", type := (.object "com/example/tailhead/tailhead/json/JsonDocument$Kind"), accessFlags := 16409, slot := 2, constantValue := 0 }, { name := "NUMBER", type := (.object "com/example/tailhead/tailhead/json/JsonDocument$Kind"), accessFlags := 16409, slot := 3, constantValue := 0 }, { name := "BOOLEAN", type := (.object "com/example/tailhead/tailhead/json/JsonDocument$Kind"), accessFlags := 16409, slot := 4, constantValue := 0 }, { name := "NULL", type := (.object "com/example/tailhead/tailhead/json/JsonDocument$Kind"), accessFlags := 16409, slot := 5, constantValue := 0 }, { name := "$VALUES", type := (.array (.object "com/example/tailhead/tailhead/json/JsonDocument$Kind")), accessFlags := 4122, slot := 6, constantValue := 0 }]
  methods := #[]
  instanceTypes := #[(.object "java/lang/String"), .int, .int]
  staticTypes := #[(.object "com/example/tailhead/tailhead/json/JsonDocument$Kind"), (.object "com/example/tailhead/tailhead/json/JsonDocument$Kind"), (.object "com/example/tailhead/tailhead/json/JsonDocument$Kind"), (.object "com/example/tailhead/tailhead/json/JsonDocument$Kind"), (.object "com/example/tailhead/tailhead/json/JsonDocument$Kind"), (.object "com/example/tailhead/tailhead/json/JsonDocument$Kind"), (.array (.object "com/example/tailhead/tailhead/json/JsonDocument$Kind"))]
  resolved := Array.replicate 68 none
  statics := some 0 }

def pool8 : Array CpInfo := pool [(1, .class_ 2), (0, u "java/lang/Math"), (1, .class_ 6), (1, u "java/lang/Object"), (0, u "<init>"), (0, u "()V"), (89, .class_ 100), (1, u "java/lang/Math$RandomNumberGeneratorHolder"), (20, u "(JJ)J"), (50, u "negativeZeroFloatBits"), (0, u "J"), (2, u "negativeZeroDoubleBits"), (24, u "min"), (43, u "$assertionsDisabled"), (0, u "Z"), (88, u "(II)I"), (2, u "twoToTheDoubleScaleDown"), (0, u "D"), (4, u "twoToTheDoubleScaleUp"), (9, u "E"), (3, u "PI"), (2, u "TAU"), (2, u "DEGREES_TO_RADIANS"), (0, u "RADIANS_TO_DEGREES")] 94

def k8m0 : Method := { name := "<init>", desc := "()V", sig := { parameters := [], returnType := none }, accessFlags := 2, code := none }
def k8c1 : Code := { maxStack := 2, maxLocals := 2, code := jdk_29_method_69_code, exceptionTable := #[], attributes := #[] }
def k8m1 : Method := { name := "min", desc := "(II)I", sig := { parameters := [.int, .int], returnType := some .int }, accessFlags := 9, code := some k8c1 }
def k8c2 : Code := { maxStack := 4, maxLocals := 4, code := jdk_29_method_70_code, exceptionTable := #[], attributes := #[] }
def k8m2 : Method := { name := "min", desc := "(JJ)J", sig := { parameters := [.long, .long], returnType := some .long }, accessFlags := 9, code := some k8c2 }
/-- java/lang/Math -/
def k8 : Class := { plain "java/lang/Math" (some 0) with
  accessFlags := 49
  interfaces := #[]
  cf := some (fileOf pool8 1 #[.nestMembers #[98]] #[{ accessFlags := 2, nameIndex := 7, descriptorIndex := 8, attributes := #[] }, { accessFlags := 9, nameIndex := 201, descriptorIndex := 335, attributes := #[] }, { accessFlags := 9, nameIndex := 201, descriptorIndex := 121, attributes := #[] }] 49 4 #[] #[{ accessFlags := 25, nameIndex := 354, descriptorIndex := 339, attributes := #[] }, { accessFlags := 25, nameIndex := 358, descriptorIndex := 339, attributes := #[] }, { accessFlags := 25, nameIndex := 361, descriptorIndex := 339, attributes := #[] }, { accessFlags := 26, nameIndex := 364, descriptorIndex := 339, attributes := #[] }, { accessFlags := 26, nameIndex := 365, descriptorIndex := 339, attributes := #[] }, { accessFlags := 26, nameIndex := 172, descriptorIndex := 173, attributes := #[] }, { accessFlags := 26, nameIndex := 176, descriptorIndex := 173, attributes := #[] }, { accessFlags := 8, nameIndex := 344, descriptorIndex := 339, attributes := #[] }, { accessFlags := 8, nameIndex := 338, descriptorIndex := 339, attributes := #[] }, { accessFlags := 4120, nameIndex := 245, descriptorIndex := 246, attributes := #[] }])
  fields := #[{ name := "E", type := .double, accessFlags := 25, slot := 0, constantValue := 0 }, { name := "PI", type := .double, accessFlags := 25, slot := 1, constantValue := 0 }, { name := "TAU", type := .double, accessFlags := 25, slot := 2, constantValue := 0 }, { name := "DEGREES_TO_RADIANS", type := .double, accessFlags := 26, slot := 3, constantValue := 0 }, { name := "RADIANS_TO_DEGREES", type := .double, accessFlags := 26, slot := 4, constantValue := 0 }, { name := "negativeZeroFloatBits", type := .long, accessFlags := 26, slot := 5, constantValue := 0 }, { name := "negativeZeroDoubleBits", type := .long, accessFlags := 26, slot := 6, constantValue := 0 }, { name := "twoToTheDoubleScaleUp", type := .double, accessFlags := 8, slot := 7, constantValue := 0 }, { name := "twoToTheDoubleScaleDown", type := .double, accessFlags := 8, slot := 8, constantValue := 0 }, { name := "$assertionsDisabled", type := .boolean, accessFlags := 4120, slot := 9, constantValue := 0 }]
  methods := #[k8m0, k8m1, k8m2]
  instanceTypes := #[]
  staticTypes := #[.double, .double, .double, .double, .double, .long, .long, .double, .double, .boolean]
  resolved := Array.replicate 460 none
  statics := none }

def pool9 : Array CpInfo := pool [(2, .class_ 4), (1, u "java/lang/Object"), (0, u "<init>"), (0, u "()V"), (7, .class_ 16), (1, u "java/util/Arrays"), (57, .class_ 76), (1, u "java/util/Arrays$NaturalOrder"), (36, .class_ 115), (1, u "java/util/Arrays$LegacyMergeSort"), (1, u "Z"), (32, .methodref 151 152), (0, .class_ 153), (0, .nameAndType 154 155), (0, u "java/lang/System"), (0, u "arraycopy"), (0, u "(Ljava/lang/Object;ILjava/lang/Object;II)V"), (146, u "copyOf"), (1, .methodref 305 306), (0, .class_ 307), (0, .nameAndType 308 309), (0, u "java/lang/Math"), (0, u "min"), (0, u "(II)I"), (65, .class_ 376), (0, u "java/util/Arrays$ArrayList"), (68, u "$assertionsDisabled"), (269, u "MIN_ARRAY_SORT_GRAN"), (0, u "I"), (2, u "INSERTIONSORT_THRESHOLD"), (149, u "([BI)[B"), (1, u "([II)[I"), (103, .class_ 976), (0, u "java/util/Arrays$ArrayItr")] 52

def k9m0 : Method := { name := "<init>", desc := "()V", sig := { parameters := [], returnType := none }, accessFlags := 2, code := none }
def k9c1 : Code := { maxStack := 6, maxLocals := 3, code := jdk_65_method_121_code, exceptionTable := #[], attributes := #[] }
def k9m1 : Method := { name := "copyOf", desc := "([BI)[B", sig := { parameters := [(.array .byte), .int], returnType := some (.array .byte) }, accessFlags := 9, code := some k9c1 }
def k9c2 : Code := { maxStack := 6, maxLocals := 3, code := jdk_65_method_123_code, exceptionTable := #[], attributes := #[] }
def k9m2 : Method := { name := "copyOf", desc := "([II)[I", sig := { parameters := [(.array .int), .int], returnType := some (.array .int) }, accessFlags := 9, code := some k9c2 }
/-- java/util/Arrays -/
def k9 : Class := { plain "java/util/Arrays" (some 0) with
  accessFlags := 49
  interfaces := #[]
  cf := some (fileOf pool9 14 #[.nestMembers #[975, 375, 113, 74]] #[{ accessFlags := 2, nameIndex := 5, descriptorIndex := 6, attributes := #[] }, { accessFlags := 9, nameIndex := 302, descriptorIndex := 869, attributes := #[] }, { accessFlags := 9, nameIndex := 302, descriptorIndex := 871, attributes := #[] }] 49 2 #[] #[{ accessFlags := 26, nameIndex := 715, descriptorIndex := 716, attributes := #[] }, { accessFlags := 26, nameIndex := 719, descriptorIndex := 716, attributes := #[] }, { accessFlags := 4120, nameIndex := 445, descriptorIndex := 117, attributes := #[] }])
  fields := #[{ name := "MIN_ARRAY_SORT_GRAN", type := .int, accessFlags := 26, slot := 0, constantValue := 0 }, { name := "INSERTIONSORT_THRESHOLD", type := .int, accessFlags := 26, slot := 1, constantValue := 0 }, { name := "$assertionsDisabled", type := .boolean, accessFlags := 4120, slot := 2, constantValue := 0 }]
  methods := #[k9m0, k9m1, k9m2]
  instanceTypes := #[]
  staticTypes := #[.int, .int, .boolean]
  resolved := Array.replicate 1029 none
  statics := none }

def pool10 : Array CpInfo := pool [(2, .class_ 4), (1, u "java/lang/Object"), (0, u "<init>"), (0, u "()V"), (1, .class_ 10), (1, u "java/lang/System"), (0, u "allowSecurityManager"), (0, u "I"), (16, u "cons"), (0, u "Ljava/io/Console;"), (77, .class_ 110), (1, u "java/lang/System$CallersHolder"), (43, u "initialErrStream"), (0, u "Ljava/io/PrintStream;"), (19, u "security"), (0, u "Ljava/lang/SecurityManager;"), (31, .class_ 209), (0, u "java/lang/System$1"), (7, u "props"), (0, u "Ljava/util/Properties;"), (2, u "lineSeparator"), (0, u "Ljava/lang/String;"), (96, .class_ 321), (1, u "java/lang/System$LoggerFinder"), (5, .class_ 328), (0, u "java/lang/System$Logger"), (67, u "err"), (2, u "out"), (91, u "notSupportedJnuEncoding"), (15, u "in"), (17, u "initialIn"), (0, u "Ljava/io/InputStream;"), (35, u "bootLayer"), (0, u "Ljava/lang/ModuleLayer;"), (99, .class_ 664), (0, u "java/lang/System$2"), (9, u "NEVER"), (2, u "MAYBE"), (49, u "arraycopy"), (0, u "(Ljava/lang/Object;ILjava/lang/Object;II)V"), (72, .class_ 802), (0, u "java/lang/System$Logger$Level")] 31

def k10m0 : Method := { name := "<init>", desc := "()V", sig := { parameters := [], returnType := none }, accessFlags := 2, code := none }
def k10m1 : Method := { name := "arraycopy", desc := "(Ljava/lang/Object;ILjava/lang/Object;II)V", sig := { parameters := [(.object "java/lang/Object"), .int, (.object "java/lang/Object"), .int, .int], returnType := none }, accessFlags := 265, code := none }
/-- java/lang/System -/
def k10 : Class := { plain "java/lang/System" (some 0) with
  accessFlags := 49
  interfaces := #[]
  cf := some (fileOf pool10 8 #[.nestMembers #[319, 327, 801, 108, 663, 208]] #[{ accessFlags := 2, nameIndex := 5, descriptorIndex := 6, attributes := #[] }, { accessFlags := 265, nameIndex := 727, descriptorIndex := 728, attributes := #[] }] 49 2 #[] #[{ accessFlags := 25, nameIndex := 507, descriptorIndex := 526, attributes := #[] }, { accessFlags := 25, nameIndex := 399, descriptorIndex := 155, attributes := #[] }, { accessFlags := 25, nameIndex := 396, descriptorIndex := 155, attributes := #[] }, { accessFlags := 10, nameIndex := 525, descriptorIndex := 526, attributes := #[] }, { accessFlags := 26, nameIndex := 674, descriptorIndex := 12, attributes := #[] }, { accessFlags := 26, nameIndex := 677, descriptorIndex := 12, attributes := #[] }, { accessFlags := 10, nameIndex := 11, descriptorIndex := 12, attributes := #[] }, { accessFlags := 74, nameIndex := 175, descriptorIndex := 176, attributes := #[] }, { accessFlags := 10, nameIndex := 491, descriptorIndex := 222, attributes := #[] }, { accessFlags := 74, nameIndex := 29, descriptorIndex := 30, attributes := #[] }, { accessFlags := 74, nameIndex := 154, descriptorIndex := 155, attributes := #[] }, { accessFlags := 10, nameIndex := 217, descriptorIndex := 218, attributes := #[] }, { accessFlags := 10, nameIndex := 221, descriptorIndex := 222, attributes := #[] }, { accessFlags := 8, nameIndex := 562, descriptorIndex := 563, attributes := #[] }])
  fields := #[{ name := "in", type := (.object "java/io/InputStream"), accessFlags := 25, slot := 0, constantValue := 0 }, { name := "out", type := (.object "java/io/PrintStream"), accessFlags := 25, slot := 1, constantValue := 0 }, { name := "err", type := (.object "java/io/PrintStream"), accessFlags := 25, slot := 2, constantValue := 0 }, { name := "initialIn", type := (.object "java/io/InputStream"), accessFlags := 10, slot := 3, constantValue := 0 }, { name := "NEVER", type := .int, accessFlags := 26, slot := 4, constantValue := 0 }, { name := "MAYBE", type := .int, accessFlags := 26, slot := 5, constantValue := 0 }, { name := "allowSecurityManager", type := .int, accessFlags := 10, slot := 6, constantValue := 0 }, { name := "security", type := (.object "java/lang/SecurityManager"), accessFlags := 74, slot := 7, constantValue := 0 }, { name := "notSupportedJnuEncoding", type := (.object "java/lang/String"), accessFlags := 10, slot := 8, constantValue := 0 }, { name := "cons", type := (.object "java/io/Console"), accessFlags := 74, slot := 9, constantValue := 0 }, { name := "initialErrStream", type := (.object "java/io/PrintStream"), accessFlags := 74, slot := 10, constantValue := 0 }, { name := "props", type := (.object "java/util/Properties"), accessFlags := 10, slot := 11, constantValue := 0 }, { name := "lineSeparator", type := (.object "java/lang/String"), accessFlags := 10, slot := 12, constantValue := 0 }, { name := "bootLayer", type := (.object "java/lang/ModuleLayer"), accessFlags := 8, slot := 13, constantValue := 0 }]
  methods := #[k10m0, k10m1]
  instanceTypes := #[]
  staticTypes := #[(.object "java/io/InputStream"), (.object "java/io/PrintStream"), (.object "java/io/PrintStream"), (.object "java/io/InputStream"), .int, .int, .int, (.object "java/lang/SecurityManager"), (.object "java/lang/String"), (.object "java/io/Console"), (.object "java/io/PrintStream"), (.object "java/util/Properties"), (.object "java/lang/String"), (.object "java/lang/ModuleLayer")]
  resolved := Array.replicate 834 none
  statics := none }

def pool11 : Array CpInfo := pool [(2, .class_ 4), (1, u "java/lang/CharSequence"), (42, .class_ 48), (0, u "java/lang/CharSequence$1CodePointIterator"), (10, .class_ 60), (0, u "java/lang/CharSequence$1CharIterator"), (5, .class_ 67), (0, u "java/lang/Object")] 63

/-- java/lang/CharSequence -/
def k11 : Class := { plain "java/lang/CharSequence" (some 0) with
  accessFlags := 1537
  interfaces := #[]
  cf := some (fileOf pool11 2 #[.nestMembers #[47, 59]] #[] 1537 66 #[] #[])
  fields := #[]
  methods := #[]
  instanceTypes := #[]
  staticTypes := #[]
  resolved := Array.replicate 131 none
  statics := none }

def pool12 : Array CpInfo := pool [(1, .class_ 2), (0, u "java/lang/constant/ConstantDesc"), (0, .class_ 4), (0, u "java/lang/Object")] 32

/-- java/lang/constant/ConstantDesc -/
def k12 : Class := { plain "java/lang/constant/ConstantDesc" (some 0) with
  accessFlags := 1537
  interfaces := #[]
  cf := some (fileOf pool12 1 #[] #[] 1537 3 #[] #[])
  fields := #[]
  methods := #[]
  instanceTypes := #[]
  staticTypes := #[]
  resolved := Array.replicate 37 none
  statics := none }

def pool13 : Array CpInfo := pool [(2, .class_ 4), (1, u "java/lang/Object"), (0, u "<init>"), (0, u "()V"), (3, .class_ 12), (1, u "java/lang/String"), (0, u "value"), (0, u "[B"), (2, u "coder"), (0, u "B"), (2, u "hash"), (0, u "I"), (2, u "hashIsZero"), (0, u "Z"), (13, u "COMPACT_STRINGS"), (534, .class_ 576), (0, u "java/lang/CharSequence"), (22, u "CASE_INSENSITIVE_ORDER"), (0, u "Ljava/util/Comparator;"), (500, u "serialPersistentFields"), (0, u "[Ljava/io/ObjectStreamField;"), (0, .class_ 1104), (0, u "java/lang/String$CaseInsensitiveComparator"), (1, .class_ 1107), (0, u "java/io/Serializable"), (0, .class_ 1109), (0, u "java/lang/Comparable"), (0, .class_ 1111), (0, u "java/lang/constant/Constable"), (0, .class_ 1113), (0, u "java/lang/constant/ConstantDesc"), (2, u "serialVersionUID"), (0, u "J"), (3, u "REPL"), (0, u "C"), (2, u "LATIN1"), (1, u "UTF16")] 323

def k13m0 : Method := { name := "<init>", desc := "()V", sig := { parameters := [], returnType := none }, accessFlags := 1, code := none }
/-- java/lang/String -/
def k13 : Class := { plain "java/lang/String" (some 0) with
  accessFlags := 49
  interfaces := #[5, 4, 11, 3, 12]
  cf := some (fileOf pool13 10 #[.nestMembers #[1103]] #[{ accessFlags := 1, nameIndex := 5, descriptorIndex := 6, attributes := #[] }] 49 2 #[1106, 1108, 575, 1110, 1112] #[{ accessFlags := 18, nameIndex := 13, descriptorIndex := 14, attributes := #[] }, { accessFlags := 18, nameIndex := 17, descriptorIndex := 18, attributes := #[] }, { accessFlags := 2, nameIndex := 21, descriptorIndex := 22, attributes := #[] }, { accessFlags := 2, nameIndex := 25, descriptorIndex := 26, attributes := #[] }, { accessFlags := 26, nameIndex := 1116, descriptorIndex := 1117, attributes := #[] }, { accessFlags := 24, nameIndex := 40, descriptorIndex := 26, attributes := #[] }, { accessFlags := 26, nameIndex := 1101, descriptorIndex := 1102, attributes := #[] }, { accessFlags := 26, nameIndex := 1121, descriptorIndex := 1122, attributes := #[] }, { accessFlags := 25, nameIndex := 599, descriptorIndex := 600, attributes := #[] }, { accessFlags := 24, nameIndex := 1125, descriptorIndex := 18, attributes := #[] }, { accessFlags := 24, nameIndex := 1127, descriptorIndex := 18, attributes := #[] }])
  fields := #[{ name := "value", type := (.array .byte), accessFlags := 18, slot := 0, constantValue := 0 }, { name := "coder", type := .byte, accessFlags := 18, slot := 1, constantValue := 0 }, { name := "hash", type := .int, accessFlags := 2, slot := 2, constantValue := 0 }, { name := "hashIsZero", type := .boolean, accessFlags := 2, slot := 3, constantValue := 0 }, { name := "serialVersionUID", type := .long, accessFlags := 26, slot := 0, constantValue := 0 }, { name := "COMPACT_STRINGS", type := .boolean, accessFlags := 24, slot := 1, constantValue := 0 }, { name := "serialPersistentFields", type := (.array (.object "java/io/ObjectStreamField")), accessFlags := 26, slot := 2, constantValue := 0 }, { name := "REPL", type := .char, accessFlags := 26, slot := 3, constantValue := 0 }, { name := "CASE_INSENSITIVE_ORDER", type := (.object "java/util/Comparator"), accessFlags := 25, slot := 4, constantValue := 0 }, { name := "LATIN1", type := .byte, accessFlags := 24, slot := 5, constantValue := 0 }, { name := "UTF16", type := .byte, accessFlags := 24, slot := 6, constantValue := 0 }]
  methods := #[k13m0]
  instanceTypes := #[(.array .byte), .byte, .int, .boolean]
  staticTypes := #[.long, .boolean, (.array (.object "java/io/ObjectStreamField")), .char, (.object "java/util/Comparator"), .byte, .byte]
  resolved := Array.replicate 1451 none
  statics := none }

def pool14 : Array CpInfo := pool [(1, .methodref 2 3), (0, .class_ 4), (0, .nameAndType 5 6), (0, u "java/lang/Object"), (0, u "<init>"), (0, u "()V"), (0, .class_ 8), (0, u "com/example/tailhead/tailhead/json/JsonDocument"), (0, .class_ 10), (0, u "java/lang/String"), (0, .fieldref 7 12), (0, .nameAndType 13 14), (0, u "shared"), (0, u "[Ljava/lang/String;"), (0, .fieldref 7 16), (0, .nameAndType 17 18), (0, u "text"), (0, u "Ljava/lang/String;"), (0, .fieldref 20 21), (0, .class_ 22), (0, .nameAndType 23 24), (0, u "com/example/tailhead/tailhead/json/JsonDocument$Builder"), (0, u "kinds"), (0, u "[B"), (0, .fieldref 7 21), (0, .fieldref 20 27), (0, .nameAndType 28 29), (0, u "spans"), (0, u "[I"), (0, .fieldref 7 27), (2, u "KINDS"), (0, u "[Lcom/example/tailhead/tailhead/json/JsonDocument$Kind;"), (0, .fieldref 7 36), (0, .nameAndType 37 38), (0, u "LAST_HOLDING"), (0, u "I"), (3, u "(I)I"), (2, u "size"), (6, u "next"), (18, .class_ 73), (1, u "com/example/tailhead/tailhead/json/JsonDocument$Kind"), (62, u "ESCAPED"), (2, u "MAX_SHARED_LENGTH"), (1, u "SHARED_SLOTS"), (1, u "(Lcom/example/tailhead/tailhead/json/JsonDocument$Builder;Ljava/lang/String;)V")] 13

def k14c0 : Code := { maxStack := 2, maxLocals := 3, code := prog_28_method_1_code, exceptionTable := #[], attributes := #[] }
def k14m0 : Method := { name := "<init>", desc := "(Lcom/example/tailhead/tailhead/json/JsonDocument$Builder;Ljava/lang/String;)V", sig := { parameters := [(.object "com/example/tailhead/tailhead/json/JsonDocument$Builder"), (.object "java/lang/String")], returnType := none }, accessFlags := 2, code := some k14c0 }
def k14c1 : Code := { maxStack := 3, maxLocals := 2, code := prog_28_method_4_code, exceptionTable := #[], attributes := #[] }
def k14m1 : Method := { name := "size", desc := "(I)I", sig := { parameters := [.int], returnType := some .int }, accessFlags := 1, code := some k14c1 }
def k14c2 : Code := { maxStack := 3, maxLocals := 2, code := prog_28_method_6_code, exceptionTable := #[], attributes := #[] }
def k14m2 : Method := { name := "next", desc := "(I)I", sig := { parameters := [.int], returnType := some .int }, accessFlags := 1, code := some k14c2 }
/-- com/example/tailhead/tailhead/json/JsonDocument -/
def k14 : Class := { plain "com/example/tailhead/tailhead/json/JsonDocument" (some 0) with
  accessFlags := 49
  interfaces := #[]
  cf := some (fileOf pool14 7 #[.nestMembers #[20, 71]] #[{ accessFlags := 2, nameIndex := 5, descriptorIndex := 143, attributes := #[] }, { accessFlags := 1, nameIndex := 45, descriptorIndex := 42, attributes := #[] }, { accessFlags := 1, nameIndex := 52, descriptorIndex := 42, attributes := #[] }] 49 2 #[] #[{ accessFlags := 26, nameIndex := 33, descriptorIndex := 34, attributes := #[] }, { accessFlags := 26, nameIndex := 136, descriptorIndex := 38, attributes := #[] }, { accessFlags := 26, nameIndex := 37, descriptorIndex := 38, attributes := #[] }, { accessFlags := 26, nameIndex := 139, descriptorIndex := 38, attributes := #[] }, { accessFlags := 26, nameIndex := 141, descriptorIndex := 38, attributes := #[] }, { accessFlags := 18, nameIndex := 17, descriptorIndex := 18, attributes := #[] }, { accessFlags := 18, nameIndex := 23, descriptorIndex := 24, attributes := #[] }, { accessFlags := 18, nameIndex := 28, descriptorIndex := 29, attributes := #[] }, { accessFlags := 18, nameIndex := 13, descriptorIndex := 14, attributes := #[] }])
  fields := #[{ name := "KINDS", type := (.array (.object "com/example/tailhead/tailhead/json/JsonDocument$Kind")), accessFlags := 26, slot := 0, constantValue := 0 }, { name := "ESCAPED", type := .int, accessFlags := 26, slot := 1, constantValue := 0 }, { name := "LAST_HOLDING", type := .int, accessFlags := 26, slot := 2, constantValue := 0 }, { name := "MAX_SHARED_LENGTH", type := .int, accessFlags := 26, slot := 3, constantValue := 0 }, { name := "SHARED_SLOTS", type := .int, accessFlags := 26, slot := 4, constantValue := 0 }, { name := "text", type := (.object "java/lang/String"), accessFlags := 18, slot := 0, constantValue := 0 }, { name := "kinds", type := (.array .byte), accessFlags := 18, slot := 1, constantValue := 0 }, { name := "spans", type := (.array .int), accessFlags := 18, slot := 2, constantValue := 0 }, { name := "shared", type := (.array (.object "java/lang/String")), accessFlags := 18, slot := 3, constantValue := 0 }]
  methods := #[k14m0, k14m1, k14m2]
  instanceTypes := #[(.object "java/lang/String"), (.array .byte), (.array .int), (.array (.object "java/lang/String"))]
  staticTypes := #[(.array (.object "com/example/tailhead/tailhead/json/JsonDocument$Kind")), .int, .int, .int, .int]
  resolved := ((Array.replicate 157 none).setIfInBounds 19 (some (.field 2 1))).setIfInBounds 26 (some (.field 2 2))
  statics := some 1 }

def pool15 : Array CpInfo := pool [(1, u "java/lang/Cloneable"), (0, .class_ 1), (0, u "java/lang/Object"), (0, .class_ 3)] 3

/-- java/lang/Cloneable -/
def k15 : Class := { plain "java/lang/Cloneable" (some 0) with
  accessFlags := 1537
  interfaces := #[]
  cf := some (fileOf pool15 2 #[] #[] 1537 4 #[] #[])
  fields := #[]
  methods := #[]
  instanceTypes := #[]
  staticTypes := #[]
  resolved := Array.replicate 8 none
  statics := none }

/-- the primitive byte -/
def k16 : Class := { plain "byte" none with kind := .primitive 'B', accessFlags := 0x411 }
/-- [B -/
def k17 : Class := { plain "[B" (some 0) with kind := .array 16 .byte, interfaces := #[15, 5], accessFlags := 1041 }

/-- the primitive int -/
def k18 : Class := { plain "int" none with kind := .primitive 'I', accessFlags := 0x411 }
/-- [I -/
def k19 : Class := { plain "[I" (some 0) with kind := .array 18 .int, interfaces := #[15, 5], accessFlags := 1041 }

/-- [Ljava/lang/String; -/
def k20 : Class := { plain "[Ljava/lang/String;" (some 0) with kind := .array 13 (.object "java/lang/String"), interfaces := #[15, 5], accessFlags := 1041 }

def heap : Heap := #[{ cls := 7, slots := #[.ref 2, .ref 3, .null, .null, .null, .null, .null], vm := .statics 7 },
  { cls := 14, slots := #[.null, .int 0, .int 1, .int 0, .int 0], vm := .statics 14 },
  { cls := 7, slots := #[.null, .int 0, .int 0], vm := .none },
  { cls := 7, slots := #[.null, .int 1, .int 0], vm := .none }]
def classes : Array Class := #[k0, k1, k2, k3, k4, k5, k6, k7, k8, k9, k10, k11, k12, k13, k14, k15, k16, k17, k18, k19, k20]
def interned : List (Array UInt16 × Addr) := []
def slotsUsed : Nat := 18
def theMethod : MethodId := ⟨1, 1⟩
def args0 : Array Value := #[.int 5, .int 7, .int 9, .int 3, .int 2]
def aboutOver (below : List Frame) : State where
  vm := { classes := classes, interned := interned.toArray }
  heap := heap
  slotsUsed := slotsUsed
  threads := #[{ frames := .invoking theMethod args0 :: below }]
def below0 : List Frame := [.native { method := ⟨0, 0⟩, args := #[] }]
def about1 : State := aboutOver below0
def p0 : Program := .bare "" "" ""
def e0 : Env := launch0.env 0 0 0
theorem w_frames : about1.frames = Frame.invoking theMethod args0 :: below0 := rfl
set_option maxRecDepth 65536 in
theorem w_args : argsFit about1.vm theMethod args0 = true := by decide +kernel
set_option maxRecDepth 65536 in
theorem w_heap : heapFits about1 = true := by decide +kernel
set_option maxRecDepth 65536 in
theorem w_runnable : about1.curStatus? = some .runnable := by decide +kernel
set_option maxRecDepth 65536 in
theorem w_alone : about1.alone = true := by decide +kernel
set_option maxRecDepth 65536 in
theorem w_named : about1.methodNamed? x = some theMethod := by decide +kernel
set_option maxRecDepth 65536 in
theorem w_hears : about1.hears theMethod below0 = true := by decide +kernel
set_option maxRecDepth 65536 in
theorem w_ripe : about1.ripe theMethod args0 below0 = true := by decide +kernel
theorem w_running : about1.status = .running := rfl
set_option maxRecDepth 65536 in
theorem w_room : about1.hasRoom e0.platform room_1 = true :=
  launch0.hasRoom_least _ room_1 (by decide +kernel) (by decide +kernel) (by decide +kernel) (by decide +kernel) (by decide +kernel) (by decide +kernel)
theorem allAtoms_all (ts : List Jvm.Cond) (a : Array Jvm.Value) (st : Jvm.State) : (allAtoms ts).before a st = ts.all (fun c => c.before a st) := by
  induction ts with
  | nil => rfl
  | cons c t ih =>
    show (Jvm.Cond.and c (allAtoms t)).before a st = _
    rw [Jvm.Cond.before_and, ih, List.all_cons]
def words1 : List Jvm.Cond := Jvm.Cond.code x code maxLocals ret :: tables_1
/-- a 'code' word, met by the world's own term for the bytes: nothing is compared byte by byte -/
theorem code_word {y : MethodName} {bytes : ByteArray} {mx : Nat} {rt : Option FieldType} {a : Array Value} {s : State} {m : MethodId} {meth : Method} {c : Code} (h1 : s.methodNamed? y = some m) (h2 : s.vm.method? m = some meth) (h3 : meth.code = some c) (h4 : c.code = bytes)
    (h5 : (c.maxLocals == mx && c.exceptionTable.isEmpty && decide (c.maxStack ≤ mostOperands) && decide (meth.sig.returnType = rt) && !meth.locks && decide (parseMethodDescriptor y.desc = some meth.sig)) = true) : (Jvm.Cond.code y bytes mx rt).before a s = true := by
  simp only [Bool.and_eq_true, beq_iff_eq, Bool.not_eq_true', decide_eq_true_eq] at h5
  obtain ⟨⟨⟨⟨⟨g1, g2⟩, g3⟩, g4⟩, g5⟩, g6⟩ := h5
  simp [Cond.before, Cond.holds, Cond.value, h1, h2, h3, h4, g1, g2, g3, g4, g5, g6]
def isCode : Jvm.Cond → Bool
  | .code _ _ _ _ => true
  | _ => false
theorem all_split {L : List Jvm.Cond} {P : Jvm.Cond → Bool} (h1 : L.all (fun c => isCode c || P c) = true) (h2 : ∀ c ∈ L.filter isCode, P c = true) : L.all P = true := by
  refine List.all_eq_true.mpr fun c hc => ?_
  have h := List.all_eq_true.mp h1 c hc
  rcases Bool.eq_false_or_eq_true (isCode c) with hi | hi
  · exact h2 c (List.mem_filter.mpr ⟨hc, hi⟩)
  · simpa [hi] using h
set_option maxRecDepth 65536 in
theorem w_c0 : (Jvm.Cond.code x code maxLocals ret).before args0 about1 = true := code_word (m := ⟨1, 1⟩) (meth := k1m1) (c := k1c1) (by decide +kernel) rfl rfl rfl (by decide +kernel)
set_option maxRecDepth 65536 in
theorem w_c1 : (Jvm.Cond.code ({ cls := "com/example/tailhead/tailhead/json/JsonDocument$Builder", name := "<init>", desc := "(I)V" } : Jvm.MethodName) prog_29_method_1_code (2 : Nat) (Option.none : Option Jvm.ClassFile.FieldType)).before args0 about1 = true := code_word (m := ⟨2, 0⟩) (meth := k2m0) (c := k2c0) (by decide +kernel) rfl rfl rfl (by decide +kernel)
set_option maxRecDepth 65536 in
theorem w_c2 : (Jvm.Cond.code ({ cls := "java/lang/Object", name := "<init>", desc := "()V" } : Jvm.MethodName) object_method_1_code (1 : Nat) (Option.none : Option Jvm.ClassFile.FieldType)).before args0 about1 = true := code_word (m := ⟨0, 0⟩) (meth := k0m0) (c := k0c0) (by decide +kernel) rfl rfl rfl (by decide +kernel)
set_option maxRecDepth 65536 in
theorem w_c3 : (Jvm.Cond.code ({ cls := "com/example/tailhead/tailhead/json/JsonDocument$Builder", name := "add", desc := "(Lcom/example/tailhead/tailhead/json/JsonDocument$Kind;ZII)I" } : Jvm.MethodName) prog_29_method_2_code (6 : Nat) (Option.some Jvm.ClassFile.FieldType.int)).before args0 about1 = true := code_word (m := ⟨2, 1⟩) (meth := k2m1) (c := k2c1) (by decide +kernel) rfl rfl rfl (by decide +kernel)
set_option maxRecDepth 65536 in
theorem w_c4 : (Jvm.Cond.code ({ cls := "java/lang/Math", name := "min", desc := "(JJ)J" } : Jvm.MethodName) jdk_29_method_70_code (4 : Nat) (Option.some Jvm.ClassFile.FieldType.long)).before args0 about1 = true := code_word (m := ⟨8, 2⟩) (meth := k8m2) (c := k8c2) (by decide +kernel) rfl rfl rfl (by decide +kernel)
set_option maxRecDepth 65536 in
theorem w_c5 : (Jvm.Cond.code ({ cls := "java/util/Arrays", name := "copyOf", desc := "([BI)[B" } : Jvm.MethodName) jdk_65_method_121_code (3 : Nat) (Option.some (Jvm.ClassFile.FieldType.array Jvm.ClassFile.FieldType.byte))).before args0 about1 = true := code_word (m := ⟨9, 1⟩) (meth := k9m1) (c := k9c1) (by decide +kernel) rfl rfl rfl (by decide +kernel)
set_option maxRecDepth 65536 in
theorem w_c6 : (Jvm.Cond.code ({ cls := "java/lang/Math", name := "min", desc := "(II)I" } : Jvm.MethodName) jdk_29_method_69_code (2 : Nat) (Option.some Jvm.ClassFile.FieldType.int)).before args0 about1 = true := code_word (m := ⟨8, 1⟩) (meth := k8m1) (c := k8c1) (by decide +kernel) rfl rfl rfl (by decide +kernel)
set_option maxRecDepth 65536 in
theorem w_c7 : (Jvm.Cond.code ({ cls := "java/util/Arrays", name := "copyOf", desc := "([II)[I" } : Jvm.MethodName) jdk_65_method_123_code (3 : Nat) (Option.some (Jvm.ClassFile.FieldType.array Jvm.ClassFile.FieldType.int))).before args0 about1 = true := code_word (m := ⟨9, 2⟩) (meth := k9m2) (c := k9c2) (by decide +kernel) rfl rfl rfl (by decide +kernel)
set_option maxRecDepth 65536 in
theorem w_c8 : (Jvm.Cond.code ({ cls := "java/lang/Enum", name := "ordinal", desc := "()I" } : Jvm.MethodName) jdk_37_method_2_code (1 : Nat) (Option.some Jvm.ClassFile.FieldType.int)).before args0 about1 = true := code_word (m := ⟨6, 0⟩) (meth := k6m0) (c := k6c0) (by decide +kernel) rfl rfl rfl (by decide +kernel)
set_option maxRecDepth 65536 in
theorem w_c9 : (Jvm.Cond.code ({ cls := "com/example/tailhead/tailhead/json/JsonDocument$Builder", name := "complete", desc := "(II)V" } : Jvm.MethodName) prog_29_method_3_code (3 : Nat) (Option.none : Option Jvm.ClassFile.FieldType)).before args0 about1 = true := code_word (m := ⟨2, 2⟩) (meth := k2m2) (c := k2c2) (by decide +kernel) rfl rfl rfl (by decide +kernel)
set_option maxRecDepth 65536 in
theorem w_c10 : (Jvm.Cond.code ({ cls := "com/example/tailhead/tailhead/json/JsonDocument$Builder", name := "build", desc := "(Ljava/lang/String;)Lcom/example/tailhead/tailhead/json/JsonDocument;" } : Jvm.MethodName) prog_29_method_6_code (2 : Nat) (Option.some (Jvm.ClassFile.FieldType.object "com/example/tailhead/tailhead/json/JsonDocument"))).before args0 about1 = true := code_word (m := ⟨2, 3⟩) (meth := k2m3) (c := k2c3) (by decide +kernel) rfl rfl rfl (by decide +kernel)
set_option maxRecDepth 65536 in
theorem w_c11 : (Jvm.Cond.code ({ cls := "com/example/tailhead/tailhead/json/JsonDocument", name := "<init>", desc := "(Lcom/example/tailhead/tailhead/json/JsonDocument$Builder;Ljava/lang/String;)V" } : Jvm.MethodName) prog_28_method_1_code (3 : Nat) (Option.none : Option Jvm.ClassFile.FieldType)).before args0 about1 = true := code_word (m := ⟨14, 0⟩) (meth := k14m0) (c := k14c0) (by decide +kernel) rfl rfl rfl (by decide +kernel)
set_option maxRecDepth 65536 in
theorem w_c12 : (Jvm.Cond.code ({ cls := "com/example/tailhead/tailhead/json/JsonDocument", name := "size", desc := "(I)I" } : Jvm.MethodName) prog_28_method_4_code (2 : Nat) (Option.some Jvm.ClassFile.FieldType.int)).before args0 about1 = true := code_word (m := ⟨14, 1⟩) (meth := k14m1) (c := k14c1) (by decide +kernel) rfl rfl rfl (by decide +kernel)
set_option maxRecDepth 65536 in
theorem w_c13 : (Jvm.Cond.code ({ cls := "com/example/tailhead/tailhead/json/JsonDocument", name := "next", desc := "(I)I" } : Jvm.MethodName) prog_28_method_6_code (2 : Nat) (Option.some Jvm.ClassFile.FieldType.int)).before args0 about1 = true := code_word (m := ⟨14, 2⟩) (meth := k14m2) (c := k14c2) (by decide +kernel) rfl rfl rfl (by decide +kernel)
def codes1 : List Jvm.Cond := [Jvm.Cond.code x code maxLocals ret, Jvm.Cond.code ({ cls := "com/example/tailhead/tailhead/json/JsonDocument$Builder", name := "<init>", desc := "(I)V" } : Jvm.MethodName) prog_29_method_1_code (2 : Nat) (Option.none : Option Jvm.ClassFile.FieldType), Jvm.Cond.code ({ cls := "java/lang/Object", name := "<init>", desc := "()V" } : Jvm.MethodName) object_method_1_code (1 : Nat) (Option.none : Option Jvm.ClassFile.FieldType), Jvm.Cond.code ({ cls := "com/example/tailhead/tailhead/json/JsonDocument$Builder", name := "add", desc := "(Lcom/example/tailhead/tailhead/json/JsonDocument$Kind;ZII)I" } : Jvm.MethodName) prog_29_method_2_code (6 : Nat) (Option.some Jvm.ClassFile.FieldType.int), Jvm.Cond.code ({ cls := "java/lang/Math", name := "min", desc := "(JJ)J" } : Jvm.MethodName) jdk_29_method_70_code (4 : Nat) (Option.some Jvm.ClassFile.FieldType.long), Jvm.Cond.code ({ cls := "java/util/Arrays", name := "copyOf", desc := "([BI)[B" } : Jvm.MethodName) jdk_65_method_121_code (3 : Nat) (Option.some (Jvm.ClassFile.FieldType.array Jvm.ClassFile.FieldType.byte)), Jvm.Cond.code ({ cls := "java/lang/Math", name := "min", desc := "(II)I" } : Jvm.MethodName) jdk_29_method_69_code (2 : Nat) (Option.some Jvm.ClassFile.FieldType.int), Jvm.Cond.code ({ cls := "java/util/Arrays", name := "copyOf", desc := "([II)[I" } : Jvm.MethodName) jdk_65_method_123_code (3 : Nat) (Option.some (Jvm.ClassFile.FieldType.array Jvm.ClassFile.FieldType.int)), Jvm.Cond.code ({ cls := "java/lang/Enum", name := "ordinal", desc := "()I" } : Jvm.MethodName) jdk_37_method_2_code (1 : Nat) (Option.some Jvm.ClassFile.FieldType.int), Jvm.Cond.code ({ cls := "com/example/tailhead/tailhead/json/JsonDocument$Builder", name := "complete", desc := "(II)V" } : Jvm.MethodName) prog_29_method_3_code (3 : Nat) (Option.none : Option Jvm.ClassFile.FieldType), Jvm.Cond.code ({ cls := "com/example/tailhead/tailhead/json/JsonDocument$Builder", name := "build", desc := "(Ljava/lang/String;)Lcom/example/tailhead/tailhead/json/JsonDocument;" } : Jvm.MethodName) prog_29_method_6_code (2 : Nat) (Option.some (Jvm.ClassFile.FieldType.object "com/example/tailhead/tailhead/json/JsonDocument")), Jvm.Cond.code ({ cls := "com/example/tailhead/tailhead/json/JsonDocument", name := "<init>", desc := "(Lcom/example/tailhead/tailhead/json/JsonDocument$Builder;Ljava/lang/String;)V" } : Jvm.MethodName) prog_28_method_1_code (3 : Nat) (Option.none : Option Jvm.ClassFile.FieldType), Jvm.Cond.code ({ cls := "com/example/tailhead/tailhead/json/JsonDocument", name := "size", desc := "(I)I" } : Jvm.MethodName) prog_28_method_4_code (2 : Nat) (Option.some Jvm.ClassFile.FieldType.int), Jvm.Cond.code ({ cls := "com/example/tailhead/tailhead/json/JsonDocument", name := "next", desc := "(I)I" } : Jvm.MethodName) prog_28_method_6_code (2 : Nat) (Option.some Jvm.ClassFile.FieldType.int)]
set_option maxRecDepth 65536 in
theorem codes_eq : words1.filter isCode = codes1 := rfl
theorem w_codes : ∀ c ∈ words1.filter isCode, c.before args0 about1 = true := by
  rw [codes_eq]
  intro c hc
  simp only [codes1, List.mem_cons, List.not_mem_nil, or_false] at hc
  rcases hc with rfl | rfl | rfl | rfl | rfl | rfl | rfl | rfl | rfl | rfl | rfl | rfl | rfl | rfl
  · exact w_c0
  · exact w_c1
  · exact w_c2
  · exact w_c3
  · exact w_c4
  · exact w_c5
  · exact w_c6
  · exact w_c7
  · exact w_c8
  · exact w_c9
  · exact w_c10
  · exact w_c11
  · exact w_c12
  · exact w_c13
set_option maxRecDepth 65536 in
theorem w_t1 : (words1.take 24).all (fun c => isCode c || c.before args0 about1) = true := by decide +kernel
set_option maxRecDepth 65536 in
theorem w_t2 : ((words1.drop 24).take 24).all (fun c => isCode c || c.before args0 about1) = true := by decide +kernel
set_option maxRecDepth 65536 in
theorem w_t3 : (((words1.drop 24).drop 24).take 24).all (fun c => isCode c || c.before args0 about1) = true := by decide +kernel
set_option maxRecDepth 65536 in
theorem w_t4 : ((((words1.drop 24).drop 24).drop 24).take 24).all (fun c => isCode c || c.before args0 about1) = true := by decide +kernel
set_option maxRecDepth 65536 in
theorem w_t5 : ((((words1.drop 24).drop 24).drop 24).drop 24).all (fun c => isCode c || c.before args0 about1) = true := by decide +kernel
theorem w_tables : (allAtoms (Jvm.Cond.code x code maxLocals ret :: tables_1)).before args0 about1 = true := by
  rw [allAtoms_all]
  show words1.all (fun c => c.before args0 about1) = true
  refine all_split ?_ w_codes
  rw [← List.take_append_drop 24 words1, List.all_append, w_t1, ← List.take_append_drop 24 (words1.drop 24), List.all_append, w_t2, ← List.take_append_drop 24 ((words1.drop 24).drop 24), List.all_append, w_t3, ← List.take_append_drop 24 (((words1.drop 24).drop 24).drop 24), List.all_append, w_t4, w_t5]
  rfl
set_option maxRecDepth 65536 in
theorem w_case : (Jvm.Cond.and given_1 narrow_1).before args0 about1 = true := by decide +kernel
theorem w_applies : (headSpec (Jvm.Cond.code x code maxLocals ret :: tables_1) room_1).applies x e0.platform about1 = true :=
  (Spec.applies_iff w_frames).mpr ⟨w_running, w_runnable, w_alone, w_named, w_hears, w_ripe, w_room, w_tables⟩
theorem atStart : AtStart classFile x code maxLocals ret World_1 tables_1 room_1 Calls_1 rest_1 Pre_1 launch0 p0 e0 about1 theMethod args0 below0 :=
  ⟨lists_1, trivial, launch0.admits_env _ _ _, launch0.least_env, fairChoices_fair.cas, fairChoices_fair.clock, w_frames, w_args, w_heap, w_applies, trivial, trivial, w_case⟩
end start1
theorem witness_1 : WitnessClaimed_1 := ⟨start1.p0, start1.e0, start1.about1, start1.theMethod, start1.args0, start1.below0, start1.atStart⟩
end Jvm.Pilot.@@N@@
