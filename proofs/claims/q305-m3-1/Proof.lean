import JvmDerived
import JvmDerived.Pilot.@@N@@Statement
import JvmDerived.Pilot.@@N@@Code
set_option linter.unusedVariables false
set_option linter.unusedSimpArgs false
namespace Jvm.Own
open Sem ClassFile Op Lib Jvm.Stand Jvm.Free Jvm.LawKit Jvm.RoadKit
section Base
variable {b : Bool} {p : Program} {l : Launch} {e : Env} {R : Room} {s : State} {m : MethodId} {args : Array Value} {below : List Frame} {meth : Method} {c : Code} {Z : State} {a0 : Array Value} {own : String} {T : State} {h : Heap} {cells slots cells' slots' : Nat} {Q : Option Value → Heap → Prop} {pc pc' : Nat} {Ls : Array Slot} {st : List Value}
/-- the end of a walk: wide (Strings may have been interned) or narrow -/
def EndB (b : Bool) (s : State) (o : Outcome) (t : State) (L : List Loc) (k n : Nat) : Prop := match b with
  | true => ReturnedEndW s o t L k n
  | false => FrameEnd s o t L k n
/-- where a walk stands: Z is the law's own start, whose cells all stand as they stood -/
def Go (b : Bool) (p : Program) (l : Launch) (e : Env) (R : Room) (s : State) (m : MethodId) (args : Array Value) (below : List Frame) (meth : Method) (c : Code) (Z : State) (own : String) (T : State) (h : Heap) (cells slots : Nat) : Prop :=
  ∃ (vm0 : Vm) (k0 : Nat) (locs : List Loc), Stand p l e R (s.setVm vm0) m args below meth c T locs cells slots ∧ (b = false → vm0 = s.vm) ∧ s.Since vm0 k0 ∧ k0 ≤ h.size ∧ Z.Warmed39 vm0 ∧ vm0.findClass own = some m.cls ∧ T.heap = h ∧ Fr Z.heap.size locs ∧ Ext Z.heap h
/-- from here the method comes to its end, and Q holds there -/
def Fz (b : Bool) (p : Program) (e : Env) (R : Room) (s : State) (below : List Frame) (Z : State) (Q : Option Value → Heap → Prop) (u : State) : Prop :=
  ∃ (t : State) (o : Outcome), Steps p.tables e below u t ∧ t.status = .running ∧ Ended t below o ∧ ∃ v L, o = .returned v ∧ (Fr Z.heap.size L ∧ Ext Z.heap t.heap ∧ Q v t.heap) ∧ EndB b s o t L R.cells R.slots
/-- a body's contract -/
def Met (b : Bool) (l : Launch) (Z : State) (y : MethodName) (bytes : ByteArray) (maxL : Nat) (ret : Option FieldType) (ws : List Cond) (rm : Room) (as' : Array Value) (h0 : Heap) (Q : Option Value → Heap → Prop) : Prop :=
  MetFree l y (head1 (Cond.code y bytes maxL ret :: ws) rm) (fun a U => a = as' ∧ Z.Warmed39 U.vm ∧ U.heap = h0) (fun _ _ _ _ _ => True) (fun _ U o U' => ∃ v L, o = .returned v ∧ (Fr Z.heap.size L ∧ Ext Z.heap U'.heap ∧ Q v U'.heap) ∧ EndB b U o U' L rm.cells rm.slots)
abbrev Met1 (b : Bool) (l : Launch) (Z : State) (y : MethodName) (bytes : ByteArray) (maxL : Nat) (ret : Option FieldType) (ws : List Cond) (rm : Room) (as' : Array Value) (h0 : Heap) (q : Value → Heap → Prop) : Prop := Met b l Z y bytes maxL ret ws rm as' h0 (fun v h' => ∃ w, v = some w ∧ q w h')
abbrev Met0 (b : Bool) (l : Launch) (Z : State) (y : MethodName) (bytes : ByteArray) (maxL : Nat) (ret : Option FieldType) (ws : List Cond) (rm : Room) (as' : Array Value) (h0 : Heap) (q : Heap → Prop) : Prop := Met b l Z y bytes maxL ret ws rm as' h0 (fun v h' => v = none ∧ q h')
theorem Met.imp {y : MethodName} {bytes : ByteArray} {maxL : Nat} {ret : Option FieldType} {ws : List Cond} {rm : Room} {as' : Array Value} {h0 : Heap} {Q Q' : Option Value → Heap → Prop} (M : Met b l Z y bytes maxL ret ws rm as' h0 Q) (f : ∀ v h, Q v h → Q' v h) : Met b l Z y bytes maxL ret ws rm as' h0 Q' := fun p e ha hc hk s m args below hf happ hP hK => by
  obtain ⟨n, o, h1, h2, h3, v, L, h4, ⟨h5, h6, h7⟩, h8⟩ := M p e ha hc hk s m args below hf happ hP hK
  exact ⟨n, o, h1, h2, h3, v, L, h4, ⟨h5, h6, f _ _ h7⟩, h8⟩
theorem met_body {y : MethodName} {bytes : ByteArray} {maxL : Nat} {ret : Option FieldType} {ws : List Cond} {rm : Room} {as' : Array Value} {h0 : Heap} (hp : plainFor y = true) (O : Ext Z.heap h0)
    (body : ∀ (p : Program) (e : Env) (s : State) (m : MethodId) (below : List Frame) (meth : Method) (c : Code) (T : State), p.tables.exec = Jvm.exec → c.code = bytes → c.maxLocals = maxL → meth.sig.returnType = ret → meth.locks = false → meth.name = y.name →
      Go b p l e rm s m as' below meth c Z y.cls T h0 0 0 → Fz b p e rm s below Z Q (T.setTop (entryFrame m as' maxL))) : Met b l Z y bytes maxL ret ws rm as' h0 Q := by
  refine MetFree.of_bodySF hp hisR ?_
  intro p e s m args below meth c s₁ Bd hml hP hK
  obtain ⟨rfl, hZ, hh⟩ := hP
  have X0 : Stand p l e rm s m args below meth c s₁ [] 0 0 := Stand.of_body Bd
  have e0 : s₁.heap = h0 := by rw [← hh, Bd.state]; rfl
  obtain ⟨t, o, h1, h2, h3, h4⟩ := body p e s m below meth c s₁ Bd.exec Bd.bytes hml Bd.returns (BodyLoose.notSynchronized Bd) (name_of_methodNamed Bd.named Bd.method).1 ⟨s.vm, 0, [], X0, fun _ => rfl, (State.WarmedH.refl s).since 0, Nat.zero_le _, hZ, findClass_of_methodNamed Bd.named, e0, Fr.nil _, O⟩
  exact ⟨t, o, h1, h2, h3, h4⟩
theorem Go.here (G : Go b p l e R s m args below meth c Z own T h cells slots) : At T m c below := by obtain ⟨_, _, _, X, _⟩ := G; exact X.here
theorem Go.old (G : Go b p l e R s m args below meth c Z own T h cells slots) : Ext Z.heap h := by obtain ⟨_, _, _, _, _, _, _, _, _, _, _, O⟩ := G; exact O
theorem Go.mono (G : Go b p l e R s m args below meth c Z own T h cells slots) (hc : cells ≤ cells') (hs : slots ≤ slots') : Go b p l e R s m args below meth c Z own T h cells' slots' := by
  obtain ⟨vm0, k0, locs, X, r⟩ := G
  exact ⟨vm0, k0, locs, X.mono hc hs, r⟩
theorem Fz.of {u u' : State} (f : ∀ t, Steps p.tables e below u' t → Steps p.tables e below u t) (K : Fz b p e R s below Z Q u') : Fz b p e R s below Z Q u := by
  obtain ⟨t, o, h1, r⟩ := K
  exact ⟨t, o, f t h1, r⟩
theorem Fz.entry {g g' : JFrame} (q : g = g') (K : Fz b p e R s below Z Q (T.setTop g')) : Fz b p e R s below Z Q (T.setTop g) := q ▸ K

theorem aload {k : Nat} {v : Value} (H : At T m c below) (hx : p.tables.exec = Jvm.exec) (hd : decode c.code pc = .ok (.aload k, 2)) (hl : Ls[k]? = some (.val v)) (hv : v.isRef = true) (hp : pc + 2 = pc') (K : Fz b p e R s below Z Q (T.setTop (mkF m pc' Ls (v :: st)))) : Fz b p e R s below Z Q (T.setTop (mkF m pc Ls st)) := by
  subst hp
  exact Fz.of (fun t k => XS.aload H hx rfl hd hl hv k) K
theorem aloadN {k : Fin 4} {v : Value} (H : At T m c below) (hx : p.tables.exec = Jvm.exec) (hd : decode c.code pc = .ok (.aload_n k, 1)) (hl : Ls[k.val]? = some (.val v)) (hv : v.isRef = true) (hp : pc + 1 = pc') (K : Fz b p e R s below Z Q (T.setTop (mkF m pc' Ls (v :: st)))) : Fz b p e R s below Z Q (T.setTop (mkF m pc Ls st)) := by
  subst hp
  exact Fz.of (fun t k => XS.aloadN H hx rfl hd hl hv k) K
theorem iload {k : Nat} {v : Int32} (H : At T m c below) (hx : p.tables.exec = Jvm.exec) (hd : decode c.code pc = .ok (.iload k, 2)) (hl : Ls[k]? = some (.val (.int v))) (hp : pc + 2 = pc') (K : Fz b p e R s below Z Q (T.setTop (mkF m pc' Ls ((.int v) :: st)))) : Fz b p e R s below Z Q (T.setTop (mkF m pc Ls st)) := by
  subst hp
  exact Fz.of (fun t k => XS.iload H hx rfl hd hl k) K
theorem iloadN {k : Fin 4} {v : Int32} (H : At T m c below) (hx : p.tables.exec = Jvm.exec) (hd : decode c.code pc = .ok (.iload_n k, 1)) (hl : Ls[k.val]? = some (.val (.int v))) (hp : pc + 1 = pc') (K : Fz b p e R s below Z Q (T.setTop (mkF m pc' Ls ((.int v) :: st)))) : Fz b p e R s below Z Q (T.setTop (mkF m pc Ls st)) := by
  subst hp
  exact Fz.of (fun t k => XS.iloadN H hx rfl hd hl k) K
theorem lload {k : Nat} {v : Int64} (H : At T m c below) (hx : p.tables.exec = Jvm.exec) (hd : decode c.code pc = .ok (.lload k, 2)) (hl : Ls[k]? = some (.val (.long v))) (hp : pc + 2 = pc') (K : Fz b p e R s below Z Q (T.setTop (mkF m pc' Ls ((.long v) :: st)))) : Fz b p e R s below Z Q (T.setTop (mkF m pc Ls st)) := by
  subst hp
  exact Fz.of (fun t k => XS.lload H hx rfl hd hl k) K
theorem lloadN {k : Fin 4} {v : Int64} (H : At T m c below) (hx : p.tables.exec = Jvm.exec) (hd : decode c.code pc = .ok (.lload_n k, 1)) (hl : Ls[k.val]? = some (.val (.long v))) (hp : pc + 1 = pc') (K : Fz b p e R s below Z Q (T.setTop (mkF m pc' Ls ((.long v) :: st)))) : Fz b p e R s below Z Q (T.setTop (mkF m pc Ls st)) := by
  subst hp
  exact Fz.of (fun t k => XS.lloadN H hx rfl hd hl k) K
theorem astore {k : Nat} {v : Value} {Ls' : Array Slot} (H : At T m c below) (hx : p.tables.exec = Jvm.exec) (hd : decode c.code pc = .ok (.astore k, 2)) (hv : v.isRef = true) (hl : storeLocals Ls k v = some Ls') (hp : pc + 2 = pc') (K : Fz b p e R s below Z Q (T.setTop (mkF m pc' Ls' st))) : Fz b p e R s below Z Q (T.setTop (mkF m pc Ls (v :: st))) := by
  subst hp
  exact Fz.of (fun t k => XS.astore H hx rfl hd rfl hv hl k) K
theorem astoreN {k : Fin 4} {v : Value} {Ls' : Array Slot} (H : At T m c below) (hx : p.tables.exec = Jvm.exec) (hd : decode c.code pc = .ok (.astore_n k, 1)) (hv : v.isRef = true) (hl : storeLocals Ls k.val v = some Ls') (hp : pc + 1 = pc') (K : Fz b p e R s below Z Q (T.setTop (mkF m pc' Ls' st))) : Fz b p e R s below Z Q (T.setTop (mkF m pc Ls (v :: st))) := by
  subst hp
  exact Fz.of (fun t k => XS.astoreN H hx rfl hd rfl hv hl k) K
theorem istore {k : Nat} {v : Int32} {Ls' : Array Slot} (H : At T m c below) (hx : p.tables.exec = Jvm.exec) (hd : decode c.code pc = .ok (.istore k, 2)) (hl : storeLocals Ls k (.int v) = some Ls') (hp : pc + 2 = pc') (K : Fz b p e R s below Z Q (T.setTop (mkF m pc' Ls' st))) : Fz b p e R s below Z Q (T.setTop (mkF m pc Ls ((.int v) :: st))) := by
  subst hp
  exact Fz.of (fun t k => XS.istore H hx rfl hd rfl hl k) K
theorem istoreN {k : Fin 4} {v : Int32} {Ls' : Array Slot} (H : At T m c below) (hx : p.tables.exec = Jvm.exec) (hd : decode c.code pc = .ok (.istore_n k, 1)) (hl : storeLocals Ls k.val (.int v) = some Ls') (hp : pc + 1 = pc') (K : Fz b p e R s below Z Q (T.setTop (mkF m pc' Ls' st))) : Fz b p e R s below Z Q (T.setTop (mkF m pc Ls ((.int v) :: st))) := by
  subst hp
  exact Fz.of (fun t k => XS.istoreN H hx rfl hd rfl hl k) K
theorem lstore {k : Nat} {v : Int64} {Ls' : Array Slot} (H : At T m c below) (hx : p.tables.exec = Jvm.exec) (hd : decode c.code pc = .ok (.lstore k, 2)) (hl : storeLocals Ls k (.long v) = some Ls') (hp : pc + 2 = pc') (K : Fz b p e R s below Z Q (T.setTop (mkF m pc' Ls' st))) : Fz b p e R s below Z Q (T.setTop (mkF m pc Ls ((.long v) :: st))) := by
  subst hp
  exact Fz.of (fun t k => XS.lstore H hx rfl hd rfl hl k) K
theorem lstoreN {k : Fin 4} {v : Int64} {Ls' : Array Slot} (H : At T m c below) (hx : p.tables.exec = Jvm.exec) (hd : decode c.code pc = .ok (.lstore_n k, 1)) (hl : storeLocals Ls k.val (.long v) = some Ls') (hp : pc + 1 = pc') (K : Fz b p e R s below Z Q (T.setTop (mkF m pc' Ls' st))) : Fz b p e R s below Z Q (T.setTop (mkF m pc Ls ((.long v) :: st))) := by
  subst hp
  exact Fz.of (fun t k => XS.lstoreN H hx rfl hd rfl hl k) K
theorem iconst {i : Int} {v : Int32} (H : At T m c below) (hx : p.tables.exec = Jvm.exec) (hd : decode c.code pc = .ok (.iconst i, 1)) (hv : Int32.ofInt i = v) (hp : pc + 1 = pc') (K : Fz b p e R s below Z Q (T.setTop (mkF m pc' Ls (.int v :: st)))) : Fz b p e R s below Z Q (T.setTop (mkF m pc Ls st)) := by
  subst hp; subst hv
  exact Fz.of (fun t k => XS.iconst H hx rfl hd k) K
theorem bipush {i : Int} {v : Int32} (H : At T m c below) (hx : p.tables.exec = Jvm.exec) (hd : decode c.code pc = .ok (.bipush i, 2)) (hv : (Int8.ofInt i).toInt32 = v) (hp : pc + 2 = pc') (K : Fz b p e R s below Z Q (T.setTop (mkF m pc' Ls (.int v :: st)))) : Fz b p e R s below Z Q (T.setTop (mkF m pc Ls st)) := by
  subst hp; subst hv
  exact Fz.of (fun t k => XS.bipush H hx rfl hd k) K
theorem sipush {i : Int} {v : Int32} (H : At T m c below) (hx : p.tables.exec = Jvm.exec) (hd : decode c.code pc = .ok (.sipush i, 3)) (hv : (Int16.ofInt i).toInt32 = v) (hp : pc + 3 = pc') (K : Fz b p e R s below Z Q (T.setTop (mkF m pc' Ls (.int v :: st)))) : Fz b p e R s below Z Q (T.setTop (mkF m pc Ls st)) := by
  subst hp; subst hv
  exact Fz.of (fun t k => XS.sipush H hx rfl hd k) K
theorem lconst {i : Fin 2} {v : Int64} (H : At T m c below) (hx : p.tables.exec = Jvm.exec) (hd : decode c.code pc = .ok (.lconst i, 1)) (hv : Int64.ofNat i = v) (hp : pc + 1 = pc') (K : Fz b p e R s below Z Q (T.setTop (mkF m pc' Ls (.long v :: st)))) : Fz b p e R s below Z Q (T.setTop (mkF m pc Ls st)) := by
  subst hp; subst hv
  exact Fz.of (fun t k => XS.lconst H hx rfl hd k) K
theorem aconstNull (H : At T m c below) (hx : p.tables.exec = Jvm.exec) (hd : decode c.code pc = .ok (.aconst_null, 1)) (hp : pc + 1 = pc') (K : Fz b p e R s below Z Q (T.setTop (mkF m pc' Ls (.null :: st)))) : Fz b p e R s below Z Q (T.setTop (mkF m pc Ls st)) := by
  subst hp
  exact Fz.of (fun t k => XS.aconstNull H hx rfl hd k) K
theorem iadd {x y : Int32} (H : At T m c below) (hx : p.tables.exec = Jvm.exec) (hd : decode c.code pc = .ok (.iadd, 1)) (hp : pc + 1 = pc') (K : Fz b p e R s below Z Q (T.setTop (mkF m pc' Ls (.int (x + y) :: st)))) : Fz b p e R s below Z Q (T.setTop (mkF m pc Ls (.int y :: .int x :: st))) := by
  subst hp
  exact Fz.of (fun t k => XS.iadd H hx rfl hd rfl k) K
theorem ladd {x y : Int64} (H : At T m c below) (hx : p.tables.exec = Jvm.exec) (hd : decode c.code pc = .ok (.ladd, 1)) (hp : pc + 1 = pc') (K : Fz b p e R s below Z Q (T.setTop (mkF m pc' Ls (.long (x + y) :: st)))) : Fz b p e R s below Z Q (T.setTop (mkF m pc Ls (.long y :: .long x :: st))) := by
  subst hp
  exact Fz.of (fun t k => XS.ladd H hx rfl hd rfl k) K
theorem isub {x y : Int32} (H : At T m c below) (hx : p.tables.exec = Jvm.exec) (hd : decode c.code pc = .ok (.isub, 1)) (hp : pc + 1 = pc') (K : Fz b p e R s below Z Q (T.setTop (mkF m pc' Ls (.int (x - y) :: st)))) : Fz b p e R s below Z Q (T.setTop (mkF m pc Ls (.int y :: .int x :: st))) := by
  subst hp
  exact Fz.of (fun t k => XS.isub H hx rfl hd rfl k) K
theorem lsub {x y : Int64} (H : At T m c below) (hx : p.tables.exec = Jvm.exec) (hd : decode c.code pc = .ok (.lsub, 1)) (hp : pc + 1 = pc') (K : Fz b p e R s below Z Q (T.setTop (mkF m pc' Ls (.long (x - y) :: st)))) : Fz b p e R s below Z Q (T.setTop (mkF m pc Ls (.long y :: .long x :: st))) := by
  subst hp
  exact Fz.of (fun t k => XS.lsub H hx rfl hd rfl k) K
theorem imul {x y : Int32} (H : At T m c below) (hx : p.tables.exec = Jvm.exec) (hd : decode c.code pc = .ok (.imul, 1)) (hp : pc + 1 = pc') (K : Fz b p e R s below Z Q (T.setTop (mkF m pc' Ls (.int (x * y) :: st)))) : Fz b p e R s below Z Q (T.setTop (mkF m pc Ls (.int y :: .int x :: st))) := by
  subst hp
  exact Fz.of (fun t k => XS.imul H hx rfl hd rfl k) K
theorem lmul {x y : Int64} (H : At T m c below) (hx : p.tables.exec = Jvm.exec) (hd : decode c.code pc = .ok (.lmul, 1)) (hp : pc + 1 = pc') (K : Fz b p e R s below Z Q (T.setTop (mkF m pc' Ls (.long (x * y) :: st)))) : Fz b p e R s below Z Q (T.setTop (mkF m pc Ls (.long y :: .long x :: st))) := by
  subst hp
  exact Fz.of (fun t k => XS.lmul H hx rfl hd rfl k) K
theorem iand {x y : Int32} (H : At T m c below) (hx : p.tables.exec = Jvm.exec) (hd : decode c.code pc = .ok (.iand, 1)) (hp : pc + 1 = pc') (K : Fz b p e R s below Z Q (T.setTop (mkF m pc' Ls (.int (x &&& y) :: st)))) : Fz b p e R s below Z Q (T.setTop (mkF m pc Ls (.int y :: .int x :: st))) := by
  subst hp
  exact Fz.of (fun t k => XS.iand H hx rfl hd rfl k) K
theorem land {x y : Int64} (H : At T m c below) (hx : p.tables.exec = Jvm.exec) (hd : decode c.code pc = .ok (.land, 1)) (hp : pc + 1 = pc') (K : Fz b p e R s below Z Q (T.setTop (mkF m pc' Ls (.long (x &&& y) :: st)))) : Fz b p e R s below Z Q (T.setTop (mkF m pc Ls (.long y :: .long x :: st))) := by
  subst hp
  exact Fz.of (fun t k => XS.land H hx rfl hd rfl k) K
theorem ior {x y : Int32} (H : At T m c below) (hx : p.tables.exec = Jvm.exec) (hd : decode c.code pc = .ok (.ior, 1)) (hp : pc + 1 = pc') (K : Fz b p e R s below Z Q (T.setTop (mkF m pc' Ls (.int (x ||| y) :: st)))) : Fz b p e R s below Z Q (T.setTop (mkF m pc Ls (.int y :: .int x :: st))) := by
  subst hp
  exact Fz.of (fun t k => XS.ior H hx rfl hd rfl k) K
theorem lor {x y : Int64} (H : At T m c below) (hx : p.tables.exec = Jvm.exec) (hd : decode c.code pc = .ok (.lor, 1)) (hp : pc + 1 = pc') (K : Fz b p e R s below Z Q (T.setTop (mkF m pc' Ls (.long (x ||| y) :: st)))) : Fz b p e R s below Z Q (T.setTop (mkF m pc Ls (.long y :: .long x :: st))) := by
  subst hp
  exact Fz.of (fun t k => XS.lor H hx rfl hd rfl k) K
theorem ixor {x y : Int32} (H : At T m c below) (hx : p.tables.exec = Jvm.exec) (hd : decode c.code pc = .ok (.ixor, 1)) (hp : pc + 1 = pc') (K : Fz b p e R s below Z Q (T.setTop (mkF m pc' Ls (.int (x ^^^ y) :: st)))) : Fz b p e R s below Z Q (T.setTop (mkF m pc Ls (.int y :: .int x :: st))) := by
  subst hp
  exact Fz.of (fun t k => XS.ixor H hx rfl hd rfl k) K
theorem lxor {x y : Int64} (H : At T m c below) (hx : p.tables.exec = Jvm.exec) (hd : decode c.code pc = .ok (.lxor, 1)) (hp : pc + 1 = pc') (K : Fz b p e R s below Z Q (T.setTop (mkF m pc' Ls (.long (x ^^^ y) :: st)))) : Fz b p e R s below Z Q (T.setTop (mkF m pc Ls (.long y :: .long x :: st))) := by
  subst hp
  exact Fz.of (fun t k => XS.lxor H hx rfl hd rfl k) K
theorem iaddC {x y v : Int32} (H : At T m c below) (hx : p.tables.exec = Jvm.exec) (hd : decode c.code pc = .ok (.iadd, 1)) (hv : x + y = v) (hp : pc + 1 = pc') (K : Fz b p e R s below Z Q (T.setTop (mkF m pc' Ls (.int v :: st)))) : Fz b p e R s below Z Q (T.setTop (mkF m pc Ls (.int y :: .int x :: st))) := by
  subst hp; subst hv
  exact Fz.of (fun t k => XS.iadd H hx rfl hd rfl k) K
theorem isubC {x y v : Int32} (H : At T m c below) (hx : p.tables.exec = Jvm.exec) (hd : decode c.code pc = .ok (.isub, 1)) (hv : x - y = v) (hp : pc + 1 = pc') (K : Fz b p e R s below Z Q (T.setTop (mkF m pc' Ls (.int v :: st)))) : Fz b p e R s below Z Q (T.setTop (mkF m pc Ls (.int y :: .int x :: st))) := by
  subst hp; subst hv
  exact Fz.of (fun t k => XS.isub H hx rfl hd rfl k) K
theorem imulC {x y v : Int32} (H : At T m c below) (hx : p.tables.exec = Jvm.exec) (hd : decode c.code pc = .ok (.imul, 1)) (hv : x * y = v) (hp : pc + 1 = pc') (K : Fz b p e R s below Z Q (T.setTop (mkF m pc' Ls (.int v :: st)))) : Fz b p e R s below Z Q (T.setTop (mkF m pc Ls (.int y :: .int x :: st))) := by
  subst hp; subst hv
  exact Fz.of (fun t k => XS.imul H hx rfl hd rfl k) K
theorem iandC {x y v : Int32} (H : At T m c below) (hx : p.tables.exec = Jvm.exec) (hd : decode c.code pc = .ok (.iand, 1)) (hv : x &&& y = v) (hp : pc + 1 = pc') (K : Fz b p e R s below Z Q (T.setTop (mkF m pc' Ls (.int v :: st)))) : Fz b p e R s below Z Q (T.setTop (mkF m pc Ls (.int y :: .int x :: st))) := by
  subst hp; subst hv
  exact Fz.of (fun t k => XS.iand H hx rfl hd rfl k) K
theorem ishrC {x y v : Int32} (H : At T m c below) (hx : p.tables.exec = Jvm.exec) (hd : decode c.code pc = .ok (.ishr, 1)) (hv : x >>> (y &&& 31) = v) (hp : pc + 1 = pc') (K : Fz b p e R s below Z Q (T.setTop (mkF m pc' Ls (.int v :: st)))) : Fz b p e R s below Z Q (T.setTop (mkF m pc Ls (.int y :: .int x :: st))) := by
  subst hp; subst hv
  exact Fz.of (fun t k => XS.ishr H hx rfl hd rfl k) K
theorem ishlC {x y v : Int32} (H : At T m c below) (hx : p.tables.exec = Jvm.exec) (hd : decode c.code pc = .ok (.ishl, 1)) (hv : x <<< (y &&& 31) = v) (hp : pc + 1 = pc') (K : Fz b p e R s below Z Q (T.setTop (mkF m pc' Ls (.int v :: st)))) : Fz b p e R s below Z Q (T.setTop (mkF m pc Ls (.int y :: .int x :: st))) := by
  subst hp; subst hv
  exact Fz.of (fun t k => XS.ishl H hx rfl hd rfl k) K
theorem idiv {x y : Int32} (H : At T m c below) (hx : p.tables.exec = Jvm.exec) (hd : decode c.code pc = .ok (.idiv, 1)) (hy : y ≠ 0) (hp : pc + 1 = pc') (K : Fz b p e R s below Z Q (T.setTop (mkF m pc' Ls (.int (x / y) :: st)))) : Fz b p e R s below Z Q (T.setTop (mkF m pc Ls (.int y :: .int x :: st))) := by
  subst hp
  exact Fz.of (fun t k => XS.idiv H hx rfl hd rfl hy k) K
theorem irem {x y : Int32} (H : At T m c below) (hx : p.tables.exec = Jvm.exec) (hd : decode c.code pc = .ok (.irem, 1)) (hy : y ≠ 0) (hp : pc + 1 = pc') (K : Fz b p e R s below Z Q (T.setTop (mkF m pc' Ls (.int (x % y) :: st)))) : Fz b p e R s below Z Q (T.setTop (mkF m pc Ls (.int y :: .int x :: st))) := by
  subst hp
  exact Fz.of (fun t k => XS.irem H hx rfl hd rfl hy (by rw [show x - x / y * y = x % y from Jvm.irem_eq_mod x y]; exact k)) K
theorem ineg {x : Int32} (H : At T m c below) (hx : p.tables.exec = Jvm.exec) (hd : decode c.code pc = .ok (.ineg, 1)) (hp : pc + 1 = pc') (K : Fz b p e R s below Z Q (T.setTop (mkF m pc' Ls (.int (-x) :: st)))) : Fz b p e R s below Z Q (T.setTop (mkF m pc Ls (.int x :: st))) := by
  subst hp
  exact Fz.of (fun t k => XS.ineg H hx rfl hd rfl k) K
theorem lneg {x : Int64} (H : At T m c below) (hx : p.tables.exec = Jvm.exec) (hd : decode c.code pc = .ok (.lneg, 1)) (hp : pc + 1 = pc') (K : Fz b p e R s below Z Q (T.setTop (mkF m pc' Ls (.long (-x) :: st)))) : Fz b p e R s below Z Q (T.setTop (mkF m pc Ls (.long x :: st))) := by
  subst hp
  exact Fz.of (fun t k => XS.lneg H hx rfl hd rfl k) K
theorem i2l {x : Int32} (H : At T m c below) (hx : p.tables.exec = Jvm.exec) (hd : decode c.code pc = .ok (.i2l, 1)) (hp : pc + 1 = pc') (K : Fz b p e R s below Z Q (T.setTop (mkF m pc' Ls (.long x.toInt64 :: st)))) : Fz b p e R s below Z Q (T.setTop (mkF m pc Ls (.int x :: st))) := by
  subst hp
  exact Fz.of (fun t k => XS.i2l H hx rfl hd rfl k) K
theorem l2i {x : Int64} (H : At T m c below) (hx : p.tables.exec = Jvm.exec) (hd : decode c.code pc = .ok (.l2i, 1)) (hp : pc + 1 = pc') (K : Fz b p e R s below Z Q (T.setTop (mkF m pc' Ls (.int x.toInt32 :: st)))) : Fz b p e R s below Z Q (T.setTop (mkF m pc Ls (.long x :: st))) := by
  subst hp
  exact Fz.of (fun t k => XS.l2i H hx rfl hd rfl k) K
theorem i2b {x : Int32} (H : At T m c below) (hx : p.tables.exec = Jvm.exec) (hd : decode c.code pc = .ok (.i2b, 1)) (hp : pc + 1 = pc') (K : Fz b p e R s below Z Q (T.setTop (mkF m pc' Ls (.int x.toInt8.toInt32 :: st)))) : Fz b p e R s below Z Q (T.setTop (mkF m pc Ls (.int x :: st))) := by
  subst hp
  exact Fz.of (fun t k => XS.i2b H hx rfl hd rfl k) K
theorem i2s {x : Int32} (H : At T m c below) (hx : p.tables.exec = Jvm.exec) (hd : decode c.code pc = .ok (.i2s, 1)) (hp : pc + 1 = pc') (K : Fz b p e R s below Z Q (T.setTop (mkF m pc' Ls (.int x.toInt16.toInt32 :: st)))) : Fz b p e R s below Z Q (T.setTop (mkF m pc Ls (.int x :: st))) := by
  subst hp
  exact Fz.of (fun t k => XS.i2s H hx rfl hd rfl k) K
theorem i2c {x : Int32} (H : At T m c below) (hx : p.tables.exec = Jvm.exec) (hd : decode c.code pc = .ok (.i2c, 1)) (hp : pc + 1 = pc') (K : Fz b p e R s below Z Q (T.setTop (mkF m pc' Ls (.int x.toUInt32.toUInt16.toUInt32.toInt32 :: st)))) : Fz b p e R s below Z Q (T.setTop (mkF m pc Ls (.int x :: st))) := by
  subst hp
  exact Fz.of (fun t k => XS.i2c H hx rfl hd rfl k) K
theorem ishl {x y : Int32} (H : At T m c below) (hx : p.tables.exec = Jvm.exec) (hd : decode c.code pc = .ok (.ishl, 1)) (hp : pc + 1 = pc') (K : Fz b p e R s below Z Q (T.setTop (mkF m pc' Ls (.int (x <<< (y &&& 31)) :: st)))) : Fz b p e R s below Z Q (T.setTop (mkF m pc Ls (.int y :: .int x :: st))) := by
  subst hp
  exact Fz.of (fun t k => XS.ishl H hx rfl hd rfl k) K
theorem ishr {x y : Int32} (H : At T m c below) (hx : p.tables.exec = Jvm.exec) (hd : decode c.code pc = .ok (.ishr, 1)) (hp : pc + 1 = pc') (K : Fz b p e R s below Z Q (T.setTop (mkF m pc' Ls (.int (x >>> (y &&& 31)) :: st)))) : Fz b p e R s below Z Q (T.setTop (mkF m pc Ls (.int y :: .int x :: st))) := by
  subst hp
  exact Fz.of (fun t k => XS.ishr H hx rfl hd rfl k) K
theorem iushr {x y : Int32} (H : At T m c below) (hx : p.tables.exec = Jvm.exec) (hd : decode c.code pc = .ok (.iushr, 1)) (hp : pc + 1 = pc') (K : Fz b p e R s below Z Q (T.setTop (mkF m pc' Ls (.int ((x.toUInt32 >>> (y &&& 31).toUInt32).toInt32) :: st)))) : Fz b p e R s below Z Q (T.setTop (mkF m pc Ls (.int y :: .int x :: st))) := by
  subst hp
  exact Fz.of (fun t k => XS.iushr H hx rfl hd rfl k) K
theorem lcmp {x y : Int64} (H : At T m c below) (hx : p.tables.exec = Jvm.exec) (hd : decode c.code pc = .ok (.lcmp, 1)) (hp : pc + 1 = pc') (K : Fz b p e R s below Z Q (T.setTop (mkF m pc' Ls (.int (lcmpW x y) :: st)))) : Fz b p e R s below Z Q (T.setTop (mkF m pc Ls (.long y :: .long x :: st))) := by
  subst hp
  exact Fz.of (fun t k => XS.lcmp H hx rfl hd rfl k) K
theorem dup {x : Value} (H : At T m c below) (hx : p.tables.exec = Jvm.exec) (hd : decode c.code pc = .ok (.dup, 1)) (hc : x.category = 1) (hp : pc + 1 = pc') (K : Fz b p e R s below Z Q (T.setTop (mkF m pc' Ls (x :: x :: st)))) : Fz b p e R s below Z Q (T.setTop (mkF m pc Ls (x :: st))) := by
  subst hp
  exact Fz.of (fun t k => XS.dup H hx rfl hd rfl hc k) K
theorem pop {x : Value} (H : At T m c below) (hx : p.tables.exec = Jvm.exec) (hd : decode c.code pc = .ok (.pop, 1)) (hc : x.category = 1) (hp : pc + 1 = pc') (K : Fz b p e R s below Z Q (T.setTop (mkF m pc' Ls st))) : Fz b p e R s below Z Q (T.setTop (mkF m pc Ls (x :: st))) := by
  subst hp
  exact Fz.of (fun t k => XS.pop H hx rfl hd rfl hc k) K
theorem dupX1 {x y : Value} (H : At T m c below) (hx : p.tables.exec = Jvm.exec) (hd : decode c.code pc = .ok (.dup_x1, 1)) (hc : x.category = 1) (hc' : y.category = 1) (hp : pc + 1 = pc') (K : Fz b p e R s below Z Q (T.setTop (mkF m pc' Ls (x :: y :: x :: st)))) : Fz b p e R s below Z Q (T.setTop (mkF m pc Ls (x :: y :: st))) := by
  subst hp
  exact Fz.of (fun t k => XS.dupX1 H hx rfl hd rfl hc hc' k) K
theorem goto {o : Int} (H : At T m c below) (hx : p.tables.exec = Jvm.exec) (hd : decode c.code pc = .ok (.goto o, 3)) (ho : 0 ≤ (pc : Int) + o) (hp : ((pc : Int) + o).toNat = pc') (K : Fz b p e R s below Z Q (T.setTop (mkF m pc' Ls st))) : Fz b p e R s below Z Q (T.setTop (mkF m pc Ls st)) :=
  Fz.of (fun t k => XS.goto H hx rfl rfl hd ho hp k) K
theorem ifY {cd : ClassFile.Cond} {x : Int32} {o : Int} (H : At T m c below) (hx : p.tables.exec = Jvm.exec) (hd : decode c.code pc = .ok (.ifCond cd o, 3)) (hc : ifCond.holds cd x = true) (ho : 0 ≤ (pc : Int) + o) (hp : ((pc : Int) + o).toNat = pc') (K : Fz b p e R s below Z Q (T.setTop (mkF m pc' Ls st))) : Fz b p e R s below Z Q (T.setTop (mkF m pc Ls (.int x :: st))) :=
  Fz.of (fun t k => XS.ifYes H hx rfl rfl hd rfl hc ho hp k) K
theorem icmpY {cd : ClassFile.Cond} {x y : Int32} {o : Int} (H : At T m c below) (hx : p.tables.exec = Jvm.exec) (hd : decode c.code pc = .ok (.if_icmp cd o, 3)) (hc : if_icmp.holds cd x y = true) (ho : 0 ≤ (pc : Int) + o) (hp : ((pc : Int) + o).toNat = pc') (K : Fz b p e R s below Z Q (T.setTop (mkF m pc' Ls st))) : Fz b p e R s below Z Q (T.setTop (mkF m pc Ls (.int y :: .int x :: st))) :=
  Fz.of (fun t k => XS.icmpYes H hx rfl rfl hd rfl hc ho hp k) K
theorem ifnullY {o : Int} (H : At T m c below) (hx : p.tables.exec = Jvm.exec) (hd : decode c.code pc = .ok (.ifnull o, 3)) (ho : 0 ≤ (pc : Int) + o) (hp : ((pc : Int) + o).toNat = pc') (K : Fz b p e R s below Z Q (T.setTop (mkF m pc' Ls st))) : Fz b p e R s below Z Q (T.setTop (mkF m pc Ls (.null :: st))) :=
  Fz.of (fun t k => XS.ifnullYes H hx rfl rfl hd rfl ho hp k) K
theorem ifnonnullY {a : Addr} {o : Int} (H : At T m c below) (hx : p.tables.exec = Jvm.exec) (hd : decode c.code pc = .ok (.ifnonnull o, 3)) (ho : 0 ≤ (pc : Int) + o) (hp : ((pc : Int) + o).toNat = pc') (K : Fz b p e R s below Z Q (T.setTop (mkF m pc' Ls st))) : Fz b p e R s below Z Q (T.setTop (mkF m pc Ls (.ref a :: st))) :=
  Fz.of (fun t k => XS.ifnonnullYes H hx rfl rfl hd rfl ho hp k) K
theorem acmpY {cd : ClassFile.ACond} {x y : Value} {o : Int} (H : At T m c below) (hx : p.tables.exec = Jvm.exec) (hd : decode c.code pc = .ok (.if_acmp cd o, 3)) (h1 : x.isRef = true) (h2 : y.isRef = true) (hc : Jvm.Free.XT.acmp cd x y = true) (ho : 0 ≤ (pc : Int) + o) (hp : ((pc : Int) + o).toNat = pc') (K : Fz b p e R s below Z Q (T.setTop (mkF m pc' Ls st))) : Fz b p e R s below Z Q (T.setTop (mkF m pc Ls (y :: x :: st))) :=
  Fz.of (fun t k => Jvm.Free.XT.acmpYes H hx rfl rfl hd rfl h1 h2 hc ho hp k) K
theorem ifN {cd : ClassFile.Cond} {o : Int} {x : Int32} (H : At T m c below) (hx : p.tables.exec = Jvm.exec) (hd : decode c.code pc = .ok (.ifCond cd o, 3)) (hc : ifCond.holds cd x = false) (hp : pc + 3 = pc') (K : Fz b p e R s below Z Q (T.setTop (mkF m pc' Ls st))) : Fz b p e R s below Z Q (T.setTop (mkF m pc Ls (.int x :: st))) := by
  subst hp
  exact Fz.of (fun t k => XS.ifNo H hx rfl hd rfl hc k) K
theorem icmpN {cd : ClassFile.Cond} {o : Int} {x y : Int32} (H : At T m c below) (hx : p.tables.exec = Jvm.exec) (hd : decode c.code pc = .ok (.if_icmp cd o, 3)) (hc : if_icmp.holds cd x y = false) (hp : pc + 3 = pc') (K : Fz b p e R s below Z Q (T.setTop (mkF m pc' Ls st))) : Fz b p e R s below Z Q (T.setTop (mkF m pc Ls (.int y :: .int x :: st))) := by
  subst hp
  exact Fz.of (fun t k => XS.icmpNo H hx rfl hd rfl hc k) K
theorem ifnullN {o : Int} {a : Addr} (H : At T m c below) (hx : p.tables.exec = Jvm.exec) (hd : decode c.code pc = .ok (.ifnull o, 3)) (hp : pc + 3 = pc') (K : Fz b p e R s below Z Q (T.setTop (mkF m pc' Ls st))) : Fz b p e R s below Z Q (T.setTop (mkF m pc Ls (.ref a :: st))) := by
  subst hp
  exact Fz.of (fun t k => XS.ifnullNo H hx rfl hd rfl k) K
theorem ifnonnullN {o : Int} (H : At T m c below) (hx : p.tables.exec = Jvm.exec) (hd : decode c.code pc = .ok (.ifnonnull o, 3)) (hp : pc + 3 = pc') (K : Fz b p e R s below Z Q (T.setTop (mkF m pc' Ls st))) : Fz b p e R s below Z Q (T.setTop (mkF m pc Ls (.null :: st))) := by
  subst hp
  exact Fz.of (fun t k => XS.ifnonnullNo H hx rfl hd rfl k) K
theorem acmpN {cd : ClassFile.ACond} {o : Int} {x y : Value} (H : At T m c below) (hx : p.tables.exec = Jvm.exec) (hd : decode c.code pc = .ok (.if_acmp cd o, 3)) (h1 : x.isRef = true) (h2 : y.isRef = true) (hc : Jvm.Free.XT.acmp cd x y = false) (hp : pc + 3 = pc') (K : Fz b p e R s below Z Q (T.setTop (mkF m pc' Ls st))) : Fz b p e R s below Z Q (T.setTop (mkF m pc Ls (y :: x :: st))) := by
  subst hp
  exact Fz.of (fun t k => Jvm.Free.XT.acmpNo H hx rfl hd rfl h1 h2 hc k) K
theorem getstatic {R0 O' n d host : String} {index : Nat} {v : Value} (G : Go b p l e R s m args below meth c Z own T h cells slots) (hx : p.tables.exec = Jvm.exec) (hd : decode c.code pc = .ok (.getstatic index, 3)) (w : (Cond.fieldLink own index R0 n d).before a0 Z = true ∨ (Cond.fieldLinkNest own index R0 n d host).before a0 Z = true) (via : Via Z R0 O' n d) (F : Sta Z Z.heap O' n d v) (hp : pc + 3 = pc')
    (K : ∀ T', Go b p l e R s m args below meth c Z own T' h cells slots → Fz b p e R s below Z Q (T'.setTop (mkF m pc' Ls (v :: st)))) : Fz b p e R s below Z Q (T.setTop (mkF m pc Ls st)) := by
  subst hp
  obtain ⟨vm0, k0, locs, X, hb, hS, hk, hZ, hown, eT, N, O⟩ := G
  obtain ⟨T', X', e', f⟩ := getS2 X hx hZ hown w via eT (F.ext O) (g := mkF m pc Ls st) rfl hd
  exact Fz.of f (K T' ⟨vm0, k0, locs, X', hb, hS, hk, hZ, hown, e', N, O⟩)
theorem getfield {R0 O' n d host : String} {index : Nat} {a : Addr} {v : Value} (G : Go b p l e R s m args below meth c Z own T h cells slots) (hx : p.tables.exec = Jvm.exec) (hd : decode c.code pc = .ok (.getfield index, 3)) (w : (Cond.fieldLink own index R0 n d).before a0 Z = true ∨ (Cond.fieldLinkNest own index R0 n d host).before a0 Z = true) (via : Via Z R0 O' n d) (F : Fld Z h a O' n d v) (hp : pc + 3 = pc')
    (K : ∀ T', Go b p l e R s m args below meth c Z own T' h cells slots → Fz b p e R s below Z Q (T'.setTop (mkF m pc' Ls (v :: st)))) : Fz b p e R s below Z Q (T.setTop (mkF m pc Ls (.ref a :: st))) := by
  subst hp
  obtain ⟨vm0, k0, locs, X, hb, hS, hk, hZ, hown, eT, N, O⟩ := G
  obtain ⟨T', X', e', f⟩ := getF X hx hZ hown w via eT F (g := mkF m pc Ls (.ref a :: st)) rfl rfl hd
  exact Fz.of f (K T' ⟨vm0, k0, locs, X', hb, hS, hk, hZ, hown, e', N, O⟩)
theorem putfield {R0 O' n d host C : String} {index kk : Nat} {ty : FieldType} {a : Addr} {v u : Value} (G : Go b p l e R s m args below meth c Z own T h cells slots) (hx : p.tables.exec = Jvm.exec) (hd : decode c.code pc = .ok (.putfield index, 3)) (w : (Cond.fieldLink own index R0 n d).before a0 Z = true ∨ (Cond.fieldLinkNest own index R0 n d host).before a0 Z = true) (via : Via Z R0 O' n d) (F : Fld Z h a O' n d u) (E : Exa Z h a C) (L : (Cond.lays C O' n d).before a0 Z = true ∨ ((Cond.laysFinal C O' n d).before a0 Z = true ∧ own = O' ∧ meth.name = "<init>")) (wi : (Cond.instantiable C kk).before a0 Z = true) (hty : parseFieldDescriptor d = some ty) (hn : narrow ty v = v) (hf : fits ty v = true) (ga : Z.heap.size ≤ a) (hp : pc + 3 = pc')
    (K : ∀ T' h', Go b p l e R s m args below meth c Z own T' h' cells slots → Wr h h' a (Jvm.RoadKit.slotOf Z O' n d) v → Fz b p e R s below Z Q (T'.setTop (mkF m pc' Ls st))) : Fz b p e R s below Z Q (T.setTop (mkF m pc Ls (v :: .ref a :: st))) := by
  subst hp
  obtain ⟨vm0, k0, locs, X, hb, hS, hk, hZ, hown, eT, N, O⟩ := G
  obtain ⟨T', h', X', e', W', f⟩ := putF X hx hZ hown w via eT F E L wi hty hn hf (g := mkF m pc Ls (v :: .ref a :: st)) rfl rfl hd
  exact Fz.of f (K T' h' ⟨vm0, k0, _, X', hb, hS, by rw [W'.size]; exact hk, hZ, hown, e', Fr.snoc X' N ga, (Old.wr (n0 := Z.heap.size) ⟨rfl, O⟩ W' ga).2⟩ W')
theorem putfieldN {R0 O' n d C : String} {index kk : Nat} {ty : FieldType} {a : Addr} {v v' u : Value} (G : Go b p l e R s m args below meth c Z own T h cells slots) (hx : p.tables.exec = Jvm.exec) (hd : decode c.code pc = .ok (.putfield index, 3)) (w : (Cond.fieldLink own index R0 n d).before a0 Z = true) (via : Via Z R0 O' n d) (F : Fld Z h a O' n d u) (E : Exa Z h a C) (L : (Cond.lays C O' n d).before a0 Z = true ∨ ((Cond.laysFinal C O' n d).before a0 Z = true ∧ own = O' ∧ meth.name = "<init>")) (wi : (Cond.instantiable C kk).before a0 Z = true) (hty : parseFieldDescriptor d = some ty) (hn : narrow ty v = v') (hf : fits ty v' = true) (ga : Z.heap.size ≤ a) (hp : pc + 3 = pc')
    (K : ∀ T' h', Go b p l e R s m args below meth c Z own T' h' cells slots → Wr h h' a (Jvm.RoadKit.slotOf Z O' n d) v' → Fz b p e R s below Z Q (T'.setTop (mkF m pc' Ls st))) : Fz b p e R s below Z Q (T.setTop (mkF m pc Ls (v :: .ref a :: st))) := by
  subst hp
  obtain ⟨vm0, k0, locs, X, hb, hS, hk, hZ, hown, eT, N, O⟩ := G
  obtain ⟨T', h', X', e', W', f⟩ := putFN X hx hZ hown w via eT F E L wi hty hn hf (g := mkF m pc Ls (v :: .ref a :: st)) rfl rfl hd
  exact Fz.of f (K T' h' ⟨vm0, k0, _, X', hb, hS, by rw [W'.size]; exact hk, hZ, hown, e', Fr.snoc X' N ga, (Old.wr (n0 := Z.heap.size) ⟨rfl, O⟩ W' ga).2⟩ W')
theorem new {C : String} {index kk : Nat} (G : Go b p l e R s m args below meth c Z own T h cells slots) (hx : p.tables.exec = Jvm.exec) (hd : decode c.code pc = .ok (.new index, 3)) (w : (Cond.classLink own index C).before a0 Z = true) (wi : (Cond.instantiable C kk).before a0 Z = true) (wz : (Cond.initialized C).before a0 Z = true) (hc : cells + 1 = cells') (hc' : cells' ≤ R.cells) (hs : slots + kk = slots') (hs' : slots' ≤ R.slots) (hp : pc + 3 = pc')
    (K : ∀ T' h' a, a = h.size → Go b p l e R s m args below meth c Z own T' h' cells' slots' → Ext h h' → Exa Z h' a C → (∀ {O nm d : String} {ty : FieldType}, Laid Z a0 C O nm d → parseFieldDescriptor d = some ty → Fld Z h' a O nm d (defaultValue ty)) → Fz b p e R s below Z Q (T'.setTop (mkF m pc' Ls (.ref a :: st)))) : Fz b p e R s below Z Q (T.setTop (mkF m pc Ls st)) := by
  subst hp
  obtain ⟨vm0, k0, locs, X, hb, hS, hk, hZ, hown, eT, N, O⟩ := G
  subst hc; subst hs
  obtain ⟨T', h', X', e', E', A', D', -, f⟩ := newO X hx hZ hown w wi wz eT (g := mkF m pc Ls st) rfl hd hc' hs'
  exact Fz.of f (K T' h' h.size rfl ⟨vm0, k0, locs, X', hb, hS, Nat.le_trans hk E'.1, hZ, hown, e', N, (Old.ext (n0 := Z.heap.size) ⟨rfl, O⟩ E').2⟩ E' A' D')
theorem newarray {aty : ArrayType} {z : Int32} {cap : Nat} (G : Go b p l e R s m args below meth c Z own T h cells slots) (hx : p.tables.exec = Jvm.exec) (hd : decode c.code pc = .ok (.newarray aty, 2)) (w : (Cond.arrayClass (newarray.typeOf aty)).before a0 Z = true) (hn : ¬ z < 0) (hcap : z.toNatClampNeg ≤ cap) (hb8 : cap * 8 ≤ 536870912) (hc : cells + 1 = cells') (hc' : cells' ≤ R.cells) (hs : slots + cap = slots') (hs' : slots' ≤ R.slots) (hp : pc + 2 = pc')
    (K : ∀ T' h' a k, a = h.size → Go b p l e R s m args below meth c Z own T' h' cells' slots' → Ext h h' → Arv Z h' a k (newarray.typeOf aty) z [] (defaultValue (newarray.typeOf aty)) → Fz b p e R s below Z Q (T'.setTop (mkF m pc' Ls (.ref a :: st)))) : Fz b p e R s below Z Q (T.setTop (mkF m pc Ls (.int z :: st))) := by
  subst hp
  obtain ⟨vm0, k0, locs, X, hb, hS, hk, hZ, hown, eT, N, O⟩ := G
  subst hc; subst hs
  obtain ⟨T', h', k, X', e', E', A', f⟩ := newP X hx hZ w eT (g := mkF m pc Ls (.int z :: st)) rfl hd rfl hn hcap hb8 hc' hs'
  exact Fz.of f (K T' h' h.size k rfl ⟨vm0, k0, locs, X', hb, hS, Nat.le_trans hk E'.1, hZ, hown, e', N, (Old.ext (n0 := Z.heap.size) ⟨rfl, O⟩ E').2⟩ E' (Arv.new A' hn))
theorem anewarray {C : String} {index : Nat} {z : Int32} {cap : Nat} (G : Go b p l e R s m args below meth c Z own T h cells slots) (hx : p.tables.exec = Jvm.exec) (hd : decode c.code pc = .ok (.anewarray index, 3)) (w : (Cond.classLink own index C).before a0 Z = true) (w2 : (Cond.arrayOver (.object C)).before a0 Z = true) (hn : ¬ z < 0) (hcap : z.toNatClampNeg ≤ cap) (hb8 : cap * 8 ≤ 536870912) (hc : cells + 1 = cells') (hc' : cells' ≤ R.cells) (hs : slots + cap = slots') (hs' : slots' ≤ R.slots) (hp : pc + 3 = pc')
    (K : ∀ T' h' a k, a = h.size → Go b p l e R s m args below meth c Z own T' h' cells' slots' → Ext h h' → Arv Z h' a k (.object C) z [] .null → Ovr Z k C → Fz b p e R s below Z Q (T'.setTop (mkF m pc' Ls (.ref a :: st)))) : Fz b p e R s below Z Q (T.setTop (mkF m pc Ls (.int z :: st))) := by
  subst hp
  obtain ⟨vm0, k0, locs, X, hb, hS, hk, hZ, hown, eT, N, O⟩ := G
  subst hc; subst hs
  obtain ⟨T', h', k, X', e', E', A', O2, f⟩ := newR X hx hZ hown w w2 eT (g := mkF m pc Ls (.int z :: st)) rfl hd rfl hn hcap hb8 hc' hs'
  exact Fz.of f (K T' h' h.size k rfl ⟨vm0, k0, locs, X', hb, hS, Nat.le_trans hk E'.1, hZ, hown, e', N, (Old.ext (n0 := Z.heap.size) ⟨rfl, O⟩ E').2⟩ E' (Arv.new A' hn) O2)
theorem iastore {k : ClassId} {z j x : Int32} {a : Addr} {vs : List Value} {dv : Value} {i : Nat} (G : Go b p l e R s m args below meth c Z own T h cells slots) (hx : p.tables.exec = Jvm.exec) (hd : decode c.code pc = .ok (.iastore, 1)) (V : Arv Z h a k .int z vs dv) (hj : ¬ j < 0 ∧ j < z) (hi : j.toNatClampNeg = i) (hl : i < vs.length) (ga : Z.heap.size ≤ a) (hp : pc + 1 = pc')
    (K : ∀ T' h', Go b p l e R s m args below meth c Z own T' h' cells slots → Wr h h' a j.toNatClampNeg (.int x) → Arv Z h' a k .int z (vs.set i (.int x)) dv → Fz b p e R s below Z Q (T'.setTop (mkF m pc' Ls st))) : Fz b p e R s below Z Q (T.setTop (mkF m pc Ls (.int x :: .int j :: .ref a :: st))) := by
  subst hp
  obtain ⟨vm0, k0, locs, X, hb, hS, hk, hZ, hown, eT, N, O⟩ := G
  obtain ⟨cl, A, q1, S, q3, H, G2⟩ := V
  obtain ⟨T', h', X', e', W', f⟩ := stI X hx hZ eT A (inb_of S hj) (g := mkF m pc Ls (.int x :: .int j :: .ref a :: st)) rfl rfl hd
  exact Fz.of f (K T' h' ⟨vm0, k0, _, X', hb, hS, by rw [W'.size]; exact hk, hZ, hown, e', Fr.snoc X' N ga, (Old.wr (n0 := Z.heap.size) ⟨rfl, O⟩ W' ga).2⟩ W' (Arv.set A q1 S q3 H G2 rfl W' i hi hl))
theorem bastore {k : ClassId} {z j x : Int32} {a : Addr} {vs : List Value} {dv : Value} {i : Nat} (G : Go b p l e R s m args below meth c Z own T h cells slots) (hx : p.tables.exec = Jvm.exec) (hd : decode c.code pc = .ok (.bastore, 1)) (V : Arv Z h a k .byte z vs dv) (hj : ¬ j < 0 ∧ j < z) (hi : j.toNatClampNeg = i) (hl : i < vs.length) (ga : Z.heap.size ≤ a) (hp : pc + 1 = pc')
    (K : ∀ T' h', Go b p l e R s m args below meth c Z own T' h' cells slots → Wr h h' a j.toNatClampNeg (.int (nar .byte x)) → Arv Z h' a k .byte z (vs.set i (.int (nar .byte x))) dv → Fz b p e R s below Z Q (T'.setTop (mkF m pc' Ls st))) : Fz b p e R s below Z Q (T.setTop (mkF m pc Ls (.int x :: .int j :: .ref a :: st))) := by
  subst hp
  obtain ⟨vm0, k0, locs, X, hb, hS, hk, hZ, hown, eT, N, O⟩ := G
  obtain ⟨cl, A, q1, S, q3, H, G2⟩ := V
  obtain ⟨T', h', X', e', W', f⟩ := stB X hx hZ eT A (inb_of S hj) (g := mkF m pc Ls (.int x :: .int j :: .ref a :: st)) rfl rfl hd
  exact Fz.of f (K T' h' ⟨vm0, k0, _, X', hb, hS, by rw [W'.size]; exact hk, hZ, hown, e', Fr.snoc X' N ga, (Old.wr (n0 := Z.heap.size) ⟨rfl, O⟩ W' ga).2⟩ W' (Arv.set A q1 S q3 H G2 (fits_nar_byte x) W' i hi hl))
theorem castore {k : ClassId} {z j x : Int32} {a : Addr} {vs : List Value} {dv : Value} {i : Nat} (G : Go b p l e R s m args below meth c Z own T h cells slots) (hx : p.tables.exec = Jvm.exec) (hd : decode c.code pc = .ok (.castore, 1)) (V : Arv Z h a k .char z vs dv) (hj : ¬ j < 0 ∧ j < z) (hi : j.toNatClampNeg = i) (hl : i < vs.length) (ga : Z.heap.size ≤ a) (hp : pc + 1 = pc')
    (K : ∀ T' h', Go b p l e R s m args below meth c Z own T' h' cells slots → Wr h h' a j.toNatClampNeg (.int (nar .char x)) → Arv Z h' a k .char z (vs.set i (.int (nar .char x))) dv → Fz b p e R s below Z Q (T'.setTop (mkF m pc' Ls st))) : Fz b p e R s below Z Q (T.setTop (mkF m pc Ls (.int x :: .int j :: .ref a :: st))) := by
  subst hp
  obtain ⟨vm0, k0, locs, X, hb, hS, hk, hZ, hown, eT, N, O⟩ := G
  obtain ⟨cl, A, q1, S, q3, H, G2⟩ := V
  obtain ⟨T', h', X', e', W', f⟩ := stC X hx hZ eT A (inb_of S hj) (g := mkF m pc Ls (.int x :: .int j :: .ref a :: st)) rfl rfl hd
  exact Fz.of f (K T' h' ⟨vm0, k0, _, X', hb, hS, by rw [W'.size]; exact hk, hZ, hown, e', Fr.snoc X' N ga, (Old.wr (n0 := Z.heap.size) ⟨rfl, O⟩ W' ga).2⟩ W' (Arv.set A q1 S q3 H G2 (fits_nar_char x) W' i hi hl))
theorem aastore {C : String} {k : ClassId} {z j : Int32} {a y : Addr} {vs : List Value} {dv : Value} {i : Nat} (G : Go b p l e R s m args below meth c Z own T h cells slots) (hx : p.tables.exec = Jvm.exec) (hd : decode c.code pc = .ok (.aastore, 1)) (V : Arv Z h a k (.object C) z vs dv) (OV : Ovr Z k C) (I : Ins Z h y C true) (hj : ¬ j < 0 ∧ j < z) (hi : j.toNatClampNeg = i) (hl : i < vs.length) (ga : Z.heap.size ≤ a) (hp : pc + 1 = pc')
    (K : ∀ T' h', Go b p l e R s m args below meth c Z own T' h' cells slots → Wr h h' a j.toNatClampNeg (.ref y) → Arv Z h' a k (.object C) z (vs.set i (.ref y)) dv → Fz b p e R s below Z Q (T'.setTop (mkF m pc' Ls st))) : Fz b p e R s below Z Q (T.setTop (mkF m pc Ls (.ref y :: .int j :: .ref a :: st))) := by
  subst hp
  obtain ⟨vm0, k0, locs, X, hb, hS, hk, hZ, hown, eT, N, O⟩ := G
  obtain ⟨cl, A, q1, S, q3, H, G2⟩ := V
  obtain ⟨T', h', X', e', W', f⟩ := stR X hx hZ eT A (inb_of S hj) rfl (Sto.ofV A q1 OV I) (g := mkF m pc Ls (.ref y :: .int j :: .ref a :: st)) rfl rfl hd
  exact Fz.of f (K T' h' ⟨vm0, k0, _, X', hb, hS, by rw [W'.size]; exact hk, hZ, hown, e', Fr.snoc X' N ga, (Old.wr (n0 := Z.heap.size) ⟨rfl, O⟩ W' ga).2⟩ W' (Arv.set A q1 S q3 H G2 rfl W' i hi hl))
theorem iaload {k : ClassId} {z j : Int32} {a : Addr} {v : Value} {vs : List Value} {dv : Value} (G : Go b p l e R s m args below meth c Z own T h cells slots) (hx : p.tables.exec = Jvm.exec) (hd : decode c.code pc = .ok (.iaload, 1)) (V : Arv Z h a k .int z vs dv) (hj : ¬ j < 0 ∧ j < z) (hv : vs.getD j.toNatClampNeg dv = v) (hp : pc + 1 = pc') (K : Fz b p e R s below Z Q (T.setTop (mkF m pc' Ls (v :: st)))) : Fz b p e R s below Z Q (T.setTop (mkF m pc Ls (.int j :: .ref a :: st))) := by
  subst hp
  obtain ⟨vm0, k0, locs, X, hb, hS, hk, hZ, hown, eT, N, O⟩ := G
  obtain ⟨cl, A, q1, S, q3, H, G2⟩ := V
  exact Fz.of (fun t k => X.iaload hx (by rw [eT]; exact A.1) (State.isArrayOf_alike hZ.alike A.2.1) A.2.2 (inb_of S hj) (H.at (inb_of S hj) hv) (g := mkF m pc Ls (.int j :: .ref a :: st)) rfl rfl hd t k) K
theorem caload {k : ClassId} {z j : Int32} {a : Addr} {v : Value} {vs : List Value} {dv : Value} (G : Go b p l e R s m args below meth c Z own T h cells slots) (hx : p.tables.exec = Jvm.exec) (hd : decode c.code pc = .ok (.caload, 1)) (V : Arv Z h a k .char z vs dv) (hj : ¬ j < 0 ∧ j < z) (hv : vs.getD j.toNatClampNeg dv = v) (hp : pc + 1 = pc') (K : Fz b p e R s below Z Q (T.setTop (mkF m pc' Ls (v :: st)))) : Fz b p e R s below Z Q (T.setTop (mkF m pc Ls (.int j :: .ref a :: st))) := by
  subst hp
  obtain ⟨vm0, k0, locs, X, hb, hS, hk, hZ, hown, eT, N, O⟩ := G
  obtain ⟨cl, A, q1, S, q3, H, G2⟩ := V
  exact Fz.of (fun t k => X.caload hx (by rw [eT]; exact A.1) (State.isArrayOf_alike hZ.alike A.2.1) A.2.2 (inb_of S hj) (H.at (inb_of S hj) hv) (g := mkF m pc Ls (.int j :: .ref a :: st)) rfl rfl hd t k) K
theorem baload {k : ClassId} {z j : Int32} {a : Addr} {v : Value} {vs : List Value} {dv : Value} (G : Go b p l e R s m args below meth c Z own T h cells slots) (hx : p.tables.exec = Jvm.exec) (hd : decode c.code pc = .ok (.baload, 1)) (V : Arv Z h a k .byte z vs dv) (hj : ¬ j < 0 ∧ j < z) (hv : vs.getD j.toNatClampNeg dv = v) (hp : pc + 1 = pc') (K : Fz b p e R s below Z Q (T.setTop (mkF m pc' Ls (v :: st)))) : Fz b p e R s below Z Q (T.setTop (mkF m pc Ls (.int j :: .ref a :: st))) := by
  subst hp
  obtain ⟨vm0, k0, locs, X, hb, hS, hk, hZ, hown, eT, N, O⟩ := G
  obtain ⟨cl, A, q1, S, q3, H, G2⟩ := V
  exact Fz.of (fun t k => X.baloadBytes hx (by rw [eT]; exact A.1) (State.isArrayOf_alike hZ.alike A.2.1) A.2.2 (inb_of S hj) (H.at (inb_of S hj) hv) (g := mkF m pc Ls (.int j :: .ref a :: st)) rfl rfl hd t k) K
theorem aaload {k : ClassId} {z j : Int32} {a : Addr} {v : Value} {vs : List Value} {dv : Value} {C : String} (G : Go b p l e R s m args below meth c Z own T h cells slots) (hx : p.tables.exec = Jvm.exec) (hd : decode c.code pc = .ok (.aaload, 1)) (V : Arv Z h a k (.object C) z vs dv) (hj : ¬ j < 0 ∧ j < z) (hv : vs.getD j.toNatClampNeg dv = v) (hp : pc + 1 = pc') (K : Fz b p e R s below Z Q (T.setTop (mkF m pc' Ls (v :: st)))) : Fz b p e R s below Z Q (T.setTop (mkF m pc Ls (.int j :: .ref a :: st))) := by
  subst hp
  obtain ⟨vm0, k0, locs, X, hb, hS, hk, hZ, hown, eT, N, O⟩ := G
  obtain ⟨cl, A, q1, S, q3, H, G2⟩ := V
  exact Fz.of (fun t k => X.aaload hx (by rw [eT]; exact A.1) (State.isArrayOf_alike hZ.alike A.2.1) rfl A.2.2 (inb_of S hj) (H.at (inb_of S hj) hv) (g := mkF m pc Ls (.int j :: .ref a :: st)) rfl rfl hd t k) K
theorem arraylength {k : ClassId} {ty : FieldType} {z : Int32} {a : Addr} {vs : List Value} {dv : Value} (G : Go b p l e R s m args below meth c Z own T h cells slots) (hx : p.tables.exec = Jvm.exec) (hd : decode c.code pc = .ok (.arraylength, 1)) (V : Arv Z h a k ty z vs dv) (hp : pc + 1 = pc') (K : Fz b p e R s below Z Q (T.setTop (mkF m pc' Ls (.int z :: st)))) : Fz b p e R s below Z Q (T.setTop (mkF m pc Ls (.ref a :: st))) := by
  subst hp
  obtain ⟨vm0, k0, locs, X, hb, hS, hk, hZ, hown, eT, N, O⟩ := G
  obtain ⟨cl, A, q1, S, q3, H, G2⟩ := V
  exact Fz.of (fun t k => X.arraylength hx (by rw [eT]; exact A.1) (State.isArrayOf_alike hZ.alike A.2.1) (g := mkF m pc Ls (.ref a :: st)) rfl rfl hd t (by rw [len_of S q3]; exact k)) K
theorem checkcast {C : String} {index : Nat} {a : Addr} (G : Go b p l e R s m args below meth c Z own T h cells slots) (hx : p.tables.exec = Jvm.exec) (hd : decode c.code pc = .ok (.checkcast index, 3)) (w : (Cond.classLink own index C).before a0 Z = true) (I : Ins Z h a C true) (hp : pc + 3 = pc')
    (K : ∀ T', Go b p l e R s m args below meth c Z own T' h cells slots → Fz b p e R s below Z Q (T'.setTop (mkF m pc' Ls (.ref a :: st)))) : Fz b p e R s below Z Q (T.setTop (mkF m pc Ls (.ref a :: st))) := by
  subst hp
  obtain ⟨vm0, k0, locs, X, hb, hS, hk, hZ, hown, eT, N, O⟩ := G
  obtain ⟨T', X', e', f⟩ := castY X hx hZ hown w eT I (g := mkF m pc Ls (.ref a :: st)) rfl rfl hd
  exact Fz.of f (K T' ⟨vm0, k0, locs, X', hb, hS, hk, hZ, hown, e', N, O⟩)
theorem instY {C : String} {index : Nat} {a : Addr} (G : Go b p l e R s m args below meth c Z own T h cells slots) (hx : p.tables.exec = Jvm.exec) (hd : decode c.code pc = .ok (.instanceof index, 3)) (w : (Cond.classLink own index C).before a0 Z = true) (I : Ins Z h a C true) (hp : pc + 3 = pc')
    (K : ∀ T', Go b p l e R s m args below meth c Z own T' h cells slots → Fz b p e R s below Z Q (T'.setTop (mkF m pc' Ls (.int (1 : Int32) :: st)))) : Fz b p e R s below Z Q (T.setTop (mkF m pc Ls (.ref a :: st))) := by
  subst hp
  obtain ⟨vm0, k0, locs, X, hb, hS, hk, hZ, hown, eT, N, O⟩ := G
  obtain ⟨T', X', e', f⟩ := Jvm.RoadKit.instY X hx hZ hown w eT I (g := mkF m pc Ls (.ref a :: st)) rfl rfl hd
  exact Fz.of f (K T' ⟨vm0, k0, locs, X', hb, hS, hk, hZ, hown, e', N, O⟩)
theorem iinc {k : Nat} {ct : Int} {x v : Int32} {Ls' : Array Slot} (H : At T m c below) (hx : p.tables.exec = Jvm.exec) (hd : decode c.code pc = .ok (.iinc k ct, 3)) (hl : Ls[k]? = some (.val (.int x))) (hv : x + Int32.ofInt ct = v) (hl' : storeLocals Ls k (.int v) = some Ls') (hp : pc + 3 = pc') (K : Fz b p e R s below Z Q (T.setTop (mkF m pc' Ls' st))) : Fz b p e R s below Z Q (T.setTop (mkF m pc Ls st)) := by
  subst hp; subst hv
  exact Fz.of (fun t k => XS.iinc H hx rfl hd hl hl' k) K
theorem ldcI {index : Nat} {v : Int32} (G : Go b p l e R s m args below meth c Z own T h cells slots) (hx : p.tables.exec = Jvm.exec) (hd : decode c.code pc = .ok (.ldc index, 2)) (w : (Cond.constant own index v).before a0 Z = true) (hp : pc + 2 = pc') (K : Fz b p e R s below Z Q (T.setTop (mkF m pc' Ls (.int v :: st)))) : Fz b p e R s below Z Q (T.setTop (mkF m pc Ls st)) := by
  subst hp
  obtain ⟨vm0, k0, locs, X, hb, hS, hk, hZ, hown, eT, N, O⟩ := G
  exact Fz.of (fun t k => X.ldcInt hx hown (mvT hZ w) (g := mkF m pc Ls st) rfl hd t k) K
theorem ldcJ {index : Nat} {v : Int64} (G : Go b p l e R s m args below meth c Z own T h cells slots) (hx : p.tables.exec = Jvm.exec) (hd : decode c.code pc = .ok (.ldc2_w index, 3)) (w : (Cond.constantLong own index v).before a0 Z = true) (hp : pc + 3 = pc') (K : Fz b p e R s below Z Q (T.setTop (mkF m pc' Ls (.long v :: st)))) : Fz b p e R s below Z Q (T.setTop (mkF m pc Ls st)) := by
  subst hp
  obtain ⟨vm0, k0, locs, X, hb, hS, hk, hZ, hown, eT, N, O⟩ := G
  exact Fz.of (fun t k => X.ldc2Long hx hown (mvT hZ w) (g := mkF m pc Ls st) rfl hd t k) K
theorem ldcF {index : Nat} {v : UInt32} (G : Go b p l e R s m args below meth c Z own T h cells slots) (hx : p.tables.exec = Jvm.exec) (hd : decode c.code pc = .ok (.ldc index, 2)) (w : (Cond.constantFloat own index v).before a0 Z = true) (hp : pc + 2 = pc') (K : Fz b p e R s below Z Q (T.setTop (mkF m pc' Ls (.float v :: st)))) : Fz b p e R s below Z Q (T.setTop (mkF m pc Ls st)) := by
  subst hp
  obtain ⟨vm0, k0, locs, X, hb, hS, hk, hZ, hown, eT, N, O⟩ := G
  exact Fz.of (fun t k => X.ldcFloatC hx hown (mvT hZ w) (g := mkF m pc Ls st) rfl hd t k) K
theorem ldcS {text : String} {index n : Nat} (hwide : b = true) (G : Go b p l e R s m args below meth c Z own T h cells slots) (hx : p.tables.exec = Jvm.exec) (hd : decode c.code pc = .ok (.ldc index, 2)) (w : (Cond.stringLink own index text).before a0 Z = true) (wS : ∀ a ∈ Bundle.stringAtoms, a.before a0 Z = true) (hn : 4 * text.toList.length ≤ n) (hbig : n ≤ 536870912) (hc : cells + 2 = cells') (hc' : cells' ≤ R.cells) (hs : slots + (n + 4) = slots') (hs' : slots' ≤ R.slots) (hp : pc + 2 = pc')
    (K : ∀ T' h' a, Go b p l e R s m args below meth c Z own T' h' cells' slots' → Ext h h' → Fz b p e R s below Z Q (T'.setTop (mkF m pc' Ls (.ref a :: st)))) : Fz b p e R s below Z Q (T.setTop (mkF m pc Ls st)) := by
  subst hp; subst hc; subst hs; subst hwide
  obtain ⟨vm0, k0, locs, X, hb, hS, hk, hZ, hown, eT, N, O⟩ := G
  obtain ⟨a, T', h', k1, X', e', E', hS', hk', hZ', hown', f⟩ := Jvm.RoadKit.ldcS X hx hZ hown w wS eT hS hk (g := mkF m pc Ls st) rfl hd hn hbig hc' hs'
  exact Fz.of f (K T' h' a ⟨T'.vm, k1, locs, X', (fun q => nomatch q), hS', hk', hZ', hown', e', N, (Old.ext (n0 := Z.heap.size) ⟨rfl, O⟩ E').2⟩ E')
theorem initObj {index : Nat} {a : Addr} {W : Nat} (G : Go b p l e R s m args below meth c Z own T h cells slots) (hx : p.tables.exec = Jvm.exec) (hd : decode c.code pc = .ok (.invokespecial index, 3)) (w1 : (Cond.methodLink own index Lib.objectInit).before a0 Z = true) (w2 : (Cond.instanceMethod Lib.objectInit).before a0 Z = true) (w3 : (Cond.code Lib.objectInit ⟨#[0xb1]⟩ 1 none).before a0 Z = true) (hsize : Ls.size = c.maxLocals) (hf : 1 ≤ R.frames) (hW : 2 * 0 + (st.map fun v => v.category).sum ≤ W) (hl : W + 12 ≤ R.locals) (hp : pc + 3 = pc')
    (K : ∀ T', Go b p l e R s m args below meth c Z own T' h cells slots → Fz b p e R s below Z Q (T'.setTop (mkF m pc' Ls st))) : Fz b p e R s below Z Q (T.setTop (mkF m pc Ls (.ref a :: st))) := by
  subst hp
  obtain ⟨vm0, k0, locs, X, hb, hS, hk, hZ, hown, eT, N, O⟩ := G
  obtain ⟨T', X', e', f⟩ := initO X hx hZ hown w1 w2 w3 eT (g := mkF m pc Ls (.ref a :: st)) rfl hsize rfl hd hf hW hl
  exact Fz.of f (K T' ⟨vm0, k0, locs, X', hb, hS, hk, hZ, hown, e', N, O⟩)
theorem EndB.more {o : Outcome} {t : State} {L : List Loc} {k n k' n' : Nat} (E : EndB b s o t L k n) (hk : k ≤ k') (hn : n ≤ n') : EndB b s o t L k' n' := by
  cases b
  · exact ⟨E.1, E.2.1, E.2.2.mono hk hn⟩
  · exact ⟨E.1, E.2.1, E.2.2.1, E.2.2.2.mono hk hn⟩
theorem leaving (G : Go b p l e R s m args below meth c Z own T h cells slots) {v : Option Value} (hv : meth.sig.returnType = none → v = none) (hlocks : meth.locks = false) (hc : cells ≤ R.cells) (hs : slots ≤ R.slots) (hq : Q v h) {f : JFrame}
    (K : ∀ (locs : List Loc) (vm0 : Vm), Stand p l e R (s.setVm vm0) m args below meth c T locs cells slots → ∀ fs : List Frame, (∀ (f : JFrame) (acts : List Action), f.method = m → f.locked = none → f.entered = [] → (doReturn e (T.setTop f) acts v).1 = T.setFrames fs) → Steps p.tables e below (T.setTop f) (T.setFrames fs)) : Fz b p e R s below Z Q (T.setTop f) := by
  obtain ⟨vm0, k0, locs, X, hb, hS, hk, hZ, hown, eT, N, O⟩ := G
  subst eT
  cases b
  · have q := hb rfl
    subst q
    have X2 : Stand p l e R s m args below meth c T locs cells slots := X
    obtain ⟨fs, hr, hrun, hended, hW, hsame⟩ := X2.leave (v := v) hv hlocks
    exact ⟨_, _, K locs _ X fs hr, hrun, hended, v, locs, rfl, ⟨N, O, hq⟩, ⟨v, rfl⟩, hW, hsame.mono hc hs⟩
  · obtain ⟨fs, hr, hrun, hended, hE⟩ := X.leaveW hS hk (v := v) hv hlocks
    exact ⟨_, _, K locs _ X fs hr, hrun, hended, v, locs, rfl, ⟨N, O, hq⟩, EndB.more (b := true) hE hc hs⟩
theorem ret0 (G : Go b p l e R s m args below meth c Z own T h cells slots) (hx : p.tables.exec = Jvm.exec) (hd : decode c.code pc = .ok (.return_, 1)) (hret : meth.sig.returnType = none) (hlocks : meth.locks = false) (hc : cells ≤ R.cells) (hs : slots ≤ R.slots) (hq : Q none h) : Fz b p e R s below Z Q (T.setTop (mkF m pc Ls [])) :=
  leaving G (fun _ => rfl) hlocks hc hs hq (fun locs vm0 X fs hr => X.returnOut hx hret hd hr)
theorem ret1 {t : FieldType} {i : Instr} {w : Value} (G : Go b p l e R s m args below meth c Z own T h cells slots) (hx : p.tables.exec = Jvm.exec) (hd : decode c.code pc = .ok (i, 1)) (hret : meth.sig.returnType = some t) (hlocks : meth.locks = false) (hn : narrow t w = w)
    (hi : (i = .ireturn ∧ (t = .int ∨ t = .boolean ∨ t = .byte ∨ t = .char ∨ t = .short) ∧ ∃ z, w = .int z) ∨ (i = .lreturn ∧ t = .long ∧ ∃ z, w = .long z) ∨ (i = .dreturn ∧ t = .double ∧ ∃ z, w = .double z) ∨ (i = .freturn ∧ t = .float ∧ ∃ z, w = .float z) ∨ (i = .areturn ∧ t.isReference = true ∧ w.isRef = true))
    (hc : cells ≤ R.cells) (hs : slots ≤ R.slots) (hq : Q (some w) h) : Fz b p e R s below Z Q (T.setTop (mkF m pc Ls (w :: st))) :=
  leaving G (fun q => by rw [hret] at q; cases q) hlocks hc hs hq (fun locs vm0 X fs hr => retOut X hx hret hn hi hd hr)
theorem retI {t : FieldType} {z : Int32} (G : Go b p l e R s m args below meth c Z own T h cells slots) (hx : p.tables.exec = Jvm.exec) (hd : decode c.code pc = .ok (.ireturn, 1)) (hret : meth.sig.returnType = some t) (hlocks : meth.locks = false) (ht : t = .int ∨ t = .boolean ∨ t = .byte ∨ t = .char ∨ t = .short) (hn : narrow t (.int z) = .int z) (hc : cells ≤ R.cells) (hs : slots ≤ R.slots) (hq : Q (some (.int z)) h) : Fz b p e R s below Z Q (T.setTop (mkF m pc Ls (.int z :: st))) :=
  ret1 G hx hd hret hlocks hn (Or.inl ⟨rfl, ht, z, rfl⟩) hc hs hq
theorem retA {t : FieldType} {w : Value} (G : Go b p l e R s m args below meth c Z own T h cells slots) (hx : p.tables.exec = Jvm.exec) (hd : decode c.code pc = .ok (.areturn, 1)) (hret : meth.sig.returnType = some t) (hlocks : meth.locks = false) (ht : t.isReference = true) (hw : w.isRef = true) (hn : narrow t w = w) (hc : cells ≤ R.cells) (hs : slots ≤ R.slots) (hq : Q (some w) h) : Fz b p e R s below Z Q (T.setTop (mkF m pc Ls (w :: st))) :=
  ret1 G hx hd hret hlocks hn (Or.inr (Or.inr (Or.inr (Or.inr ⟨rfl, ht, hw⟩)))) hc hs hq
theorem retL {z : Int64} (G : Go b p l e R s m args below meth c Z own T h cells slots) (hx : p.tables.exec = Jvm.exec) (hd : decode c.code pc = .ok (.lreturn, 1)) (hret : meth.sig.returnType = some .long) (hlocks : meth.locks = false) (hc : cells ≤ R.cells) (hs : slots ≤ R.slots) (hq : Q (some (.long z)) h) : Fz b p e R s below Z Q (T.setTop (mkF m pc Ls (.long z :: st))) :=
  ret1 G hx hd hret hlocks rfl (Or.inr (Or.inl ⟨rfl, rfl, z, rfl⟩)) hc hs hq
theorem callS {index : Nat} {y : MethodName} {bytes : ByteArray} {maxL : Nat} {ret : Option FieldType} {rm : Room} {W : Nat} {argsL : List Value} {stk : List Value}  {Q' : Option Value → Heap → Prop} (G : Go b p l e R s m args below meth c Z own T h cells slots) (hx : p.tables.exec = Jvm.exec) (hd : decode c.code pc = .ok (.invokestatic index, 3)) (w1 : (Cond.methodLink own index y).before a0 Z = true) (w2 : (Cond.static y).before a0 Z = true) (w3 : (Cond.initialized y.cls).before a0 Z = true) (w4 : (Cond.code y bytes maxL ret).before a0 Z = true) (hy : y.cls ≠ "java/lang/invoke/MethodHandle" ∧ y.cls ≠ "java/lang/invoke/VarHandle") (hM : Met b l Z y bytes maxL ret [] rm (argsL).toArray h Q') (hf : rm.frames + 1 ≤ R.frames) (hl : W + (maxL + 11) + rm.locals ≤ R.locals) (hsize : Ls.size = c.maxLocals) (hlen : ∀ sig, parseMethodDescriptor y.desc = some sig → argsL.length = sig.parameters.length) (hst : stk = argsL.reverse ++ st) (hW : 2 * 0 + (st.map fun v => v.category).sum ≤ W) (hc : cells + rm.cells = cells') (hc' : cells' ≤ R.cells) (hs : slots + rm.slots = slots') (hs' : slots' ≤ R.slots) (hp : pc + 3 = pc')
    (K : ∀ (T' : State) (h' : Heap) (v : Option Value), Go b p l e R s m args below meth c Z own T' h' cells' slots' → Q' v h' → Fz b p e R s below Z Q (T'.setTop (mkF m pc' Ls (v.toList ++ st)))) : Fz b p e R s below Z Q (T.setTop (mkF m pc Ls stk)) := by
  subst hp; subst hc; subst hs
  obtain ⟨vm0, k0, locs, X, hb, hS, hk, hZ, hown, eT, N, O⟩ := G
  cases b
  · have q0 := hb rfl
    subst q0
    have X2 : Stand p l e R s m args below meth c T locs cells slots := X
    have hZ2 : Z.Warmed39 s.vm := hZ
    have hK := backOf (W := W) (R := R) (p := p) (e := e) (below := below) (args := args) (len := 3) (Q := fun v h L => Fr Z.heap.size L ∧ Ext Z.heap h ∧ Q' v h) hM hZ2 w4 w3 hf hl
    obtain ⟨v, vm₁, ⟨T1, L1, k1, n1⟩, -, X1, ⟨Lc, hQ, l1, y1, z1⟩, f⟩ := Jvm.LawKit.callS X2 hx (y := y) hown (mvT hZ2 w1) (mvT hZ2 w2) (mvT hZ2 w3) (mvT hZ2 w4) hy hK (g := mkF m pc Ls stk) rfl hsize (argsL := argsL) (rest := st) hlen hst hW hd (fun _ _ => ⟨rfl, eT, hc', hs'⟩)
    dsimp only [Pt.U, Pt.locs, Pt.cells, Pt.slots] at X1 l1 y1 z1 f hQ
    subst l1 y1 z1
    exact Fz.of f (K T1 T1.heap v ⟨s.vm, 0, _, X1, fun _ => rfl, (State.WarmedH.refl s).since 0, Nat.zero_le _, hZ2, hown, rfl, Fr.app N hQ.1, hQ.2.1⟩ hQ.2.2)
  · have hZ2 : Z.Warmed39 (s.setVm vm0).vm := hZ
    have hK := backOfS (W := W) (R := R) (p := p) (e := e) (below := below) (args := args) (len := 3) (Q := fun v h L => Fr Z.heap.size L ∧ Ext Z.heap h ∧ Q' v h) hM hZ2 w4 w3 hf hl
    obtain ⟨v, vm₁, ⟨T1, L1, k1, n1⟩, -, X1, hS1, hg1, ⟨Lc, hQ, l1, y1, z1⟩, f⟩ := callSS X hx (y := y) hown (mvT hZ2 w1) (mvT hZ2 w2) (mvT hZ2 w3) (mvT hZ2 w4) hy hK (g := mkF m pc Ls stk) rfl hsize (argsL := argsL) (rest := st) hlen hst hW hd (fun _ _ => ⟨rfl, eT, hc', hs'⟩)
    dsimp only [Pt.U, Pt.locs, Pt.cells, Pt.slots] at X1 hS1 hg1 l1 y1 z1 f hQ
    subst l1 y1 z1
    have X3 : Stand p l e R (s.setVm T1.vm) m args below meth c T1 (locs ++ Lc) (cells + rm.cells) (slots + rm.slots) := X1
    exact Fz.of (fun t k => f.trans k) (K T1 T1.heap v ⟨T1.vm, T1.heap.size, _, X3, (fun q => nomatch q), hS.trans hS1 (Nat.le_trans hk (by rw [← eT]; exact hg1)), Nat.le_refl _, State.Warmed39.trans (t := s.setVm vm0) hZ hS1.1, (hS1.1.alike.findClass _ _).trans hown, rfl, Fr.app N hQ.1, hQ.2.1⟩ hQ.2.2)
theorem callS1 {index : Nat} {y : MethodName} {bytes : ByteArray} {maxL : Nat} {ret : Option FieldType} {rm : Room} {W : Nat} {argsL : List Value} {stk : List Value}  {q : Value → Heap → Prop} (G : Go b p l e R s m args below meth c Z own T h cells slots) (hx : p.tables.exec = Jvm.exec) (hd : decode c.code pc = .ok (.invokestatic index, 3)) (w1 : (Cond.methodLink own index y).before a0 Z = true) (w2 : (Cond.static y).before a0 Z = true) (w3 : (Cond.initialized y.cls).before a0 Z = true) (w4 : (Cond.code y bytes maxL ret).before a0 Z = true) (hy : y.cls ≠ "java/lang/invoke/MethodHandle" ∧ y.cls ≠ "java/lang/invoke/VarHandle") (hM : Met1 b l Z y bytes maxL ret [] rm (argsL).toArray h q) (hf : rm.frames + 1 ≤ R.frames) (hl : W + (maxL + 11) + rm.locals ≤ R.locals) (hsize : Ls.size = c.maxLocals) (hlen : ∀ sig, parseMethodDescriptor y.desc = some sig → argsL.length = sig.parameters.length) (hst : stk = argsL.reverse ++ st) (hW : 2 * 0 + (st.map fun v => v.category).sum ≤ W) (hc : cells + rm.cells = cells') (hc' : cells' ≤ R.cells) (hs : slots + rm.slots = slots') (hs' : slots' ≤ R.slots) (hp : pc + 3 = pc')
    (K : ∀ (T' : State) (h' : Heap) (w : Value), Go b p l e R s m args below meth c Z own T' h' cells' slots' → q w h' → Fz b p e R s below Z Q (T'.setTop (mkF m pc' Ls (w :: st)))) : Fz b p e R s below Z Q (T.setTop (mkF m pc Ls stk)) := 
  callS G hx hd w1 w2 w3 w4 hy hM hf hl hsize hlen hst hW hc hc' hs hs' hp (fun T' h' v G' hq => by
    obtain ⟨w, rfl, hq⟩ := hq
    exact K T' h' w G' hq)
theorem callSP {index : Nat} {y : MethodName} {bytes : ByteArray} {maxL : Nat} {ret : Option FieldType} {rm : Room} {W : Nat} {argsL : List Value} {stk : List Value}  {q : Value → Prop} (G : Go b p l e R s m args below meth c Z own T h cells slots) (hx : p.tables.exec = Jvm.exec) (hd : decode c.code pc = .ok (.invokestatic index, 3)) (w1 : (Cond.methodLink own index y).before a0 Z = true) (w2 : (Cond.static y).before a0 Z = true) (w3 : (Cond.initialized y.cls).before a0 Z = true) (w4 : (Cond.code y bytes maxL ret).before a0 Z = true) (hy : y.cls ≠ "java/lang/invoke/MethodHandle" ∧ y.cls ≠ "java/lang/invoke/VarHandle") (hM : Met1 b l Z y bytes maxL ret [] rm (argsL).toArray h (fun w h' => h' = h ∧ q w)) (hf : rm.frames + 1 ≤ R.frames) (hl : W + (maxL + 11) + rm.locals ≤ R.locals) (hsize : Ls.size = c.maxLocals) (hlen : ∀ sig, parseMethodDescriptor y.desc = some sig → argsL.length = sig.parameters.length) (hst : stk = argsL.reverse ++ st) (hW : 2 * 0 + (st.map fun v => v.category).sum ≤ W) (hc : cells + rm.cells = cells') (hc' : cells' ≤ R.cells) (hs : slots + rm.slots = slots') (hs' : slots' ≤ R.slots) (hp : pc + 3 = pc')
    (K : ∀ (T' : State) (w : Value), Go b p l e R s m args below meth c Z own T' h cells' slots' → q w → Fz b p e R s below Z Q (T'.setTop (mkF m pc' Ls (w :: st)))) : Fz b p e R s below Z Q (T.setTop (mkF m pc Ls stk)) := 
  callS G hx hd w1 w2 w3 w4 hy hM hf hl hsize hlen hst hW hc hc' hs hs' hp (fun T' h' v G' hq => by
    obtain ⟨w, rfl, e1, hq⟩ := hq
    subst e1
    exact K T' w G' hq)
theorem callS0 {index : Nat} {y : MethodName} {bytes : ByteArray} {maxL : Nat} {ret : Option FieldType} {rm : Room} {W : Nat} {argsL : List Value} {stk : List Value}  {q : Heap → Prop} (G : Go b p l e R s m args below meth c Z own T h cells slots) (hx : p.tables.exec = Jvm.exec) (hd : decode c.code pc = .ok (.invokestatic index, 3)) (w1 : (Cond.methodLink own index y).before a0 Z = true) (w2 : (Cond.static y).before a0 Z = true) (w3 : (Cond.initialized y.cls).before a0 Z = true) (w4 : (Cond.code y bytes maxL ret).before a0 Z = true) (hy : y.cls ≠ "java/lang/invoke/MethodHandle" ∧ y.cls ≠ "java/lang/invoke/VarHandle") (hM : Met0 b l Z y bytes maxL ret [] rm (argsL).toArray h q) (hf : rm.frames + 1 ≤ R.frames) (hl : W + (maxL + 11) + rm.locals ≤ R.locals) (hsize : Ls.size = c.maxLocals) (hlen : ∀ sig, parseMethodDescriptor y.desc = some sig → argsL.length = sig.parameters.length) (hst : stk = argsL.reverse ++ st) (hW : 2 * 0 + (st.map fun v => v.category).sum ≤ W) (hc : cells + rm.cells = cells') (hc' : cells' ≤ R.cells) (hs : slots + rm.slots = slots') (hs' : slots' ≤ R.slots) (hp : pc + 3 = pc')
    (K : ∀ (T' : State) (h' : Heap) , Go b p l e R s m args below meth c Z own T' h' cells' slots' → q h' → Fz b p e R s below Z Q (T'.setTop (mkF m pc' Ls st))) : Fz b p e R s below Z Q (T.setTop (mkF m pc Ls stk)) := 
  callS G hx hd w1 w2 w3 w4 hy hM hf hl hsize hlen hst hW hc hc' hs hs' hp (fun T' h' v G' hq => by
    obtain ⟨rfl, hq⟩ := hq
    exact K T' h' G' hq)
theorem callI {index : Nat} {y : MethodName} {bytes : ByteArray} {maxL : Nat} {rm : Room} {W : Nat} {argsL : List Value} {stk : List Value} {a : Addr} {Q' : Option Value → Heap → Prop} (G : Go b p l e R s m args below meth c Z own T h cells slots) (hx : p.tables.exec = Jvm.exec) (hd : decode c.code pc = .ok (.invokespecial index, 3)) (hn : y.name = "<init>") (w1 : (Cond.methodLink own index y).before a0 Z = true) (w2 : (Cond.instanceMethod y).before a0 Z = true) (w3 : (Cond.initialized y.cls).before a0 Z = true) (w4 : (Cond.code y bytes maxL none).before a0 Z = true) (hy : y.cls ≠ "java/lang/invoke/MethodHandle" ∧ y.cls ≠ "java/lang/invoke/VarHandle") (hM : Met b l Z y bytes maxL none [] rm (.ref a :: argsL).toArray h Q') (hf : rm.frames + 1 ≤ R.frames) (hl : W + (maxL + 11) + rm.locals ≤ R.locals) (hsize : Ls.size = c.maxLocals) (hlen : ∀ sig, parseMethodDescriptor y.desc = some sig → argsL.length = sig.parameters.length) (hst : stk = argsL.reverse ++ .ref a :: st) (hW : 2 * 0 + (st.map fun v => v.category).sum ≤ W) (hc : cells + rm.cells = cells') (hc' : cells' ≤ R.cells) (hs : slots + rm.slots = slots') (hs' : slots' ≤ R.slots) (hp : pc + 3 = pc')
    (K : ∀ (T' : State) (h' : Heap) (v : Option Value), Go b p l e R s m args below meth c Z own T' h' cells' slots' → Q' v h' → Fz b p e R s below Z Q (T'.setTop (mkF m pc' Ls (v.toList ++ st)))) : Fz b p e R s below Z Q (T.setTop (mkF m pc Ls stk)) := by
  subst hp; subst hc; subst hs
  obtain ⟨vm0, k0, locs, X, hb, hS, hk, hZ, hown, eT, N, O⟩ := G
  cases b
  · have q0 := hb rfl
    subst q0
    have X2 : Stand p l e R s m args below meth c T locs cells slots := X
    have hZ2 : Z.Warmed39 s.vm := hZ
    have hK := backOf (W := W) (R := R) (p := p) (e := e) (below := below) (args := args) (len := 3) (Q := fun v h L => Fr Z.heap.size L ∧ Ext Z.heap h ∧ Q' v h) hM hZ2 w4 w3 hf hl
    obtain ⟨v, vm₁, ⟨T1, L1, k1, n1⟩, -, X1, ⟨Lc, hQ, l1, y1, z1⟩, f⟩ := X2.specialBack hx (y := y) hn hown (mvT hZ2 w1) (mvT hZ2 w2) (mvT hZ2 w4) hy hK (g := mkF m pc Ls stk) rfl hsize (Steps.refl _) (a := a) (argsL := argsL) (rest := st) hlen hst hW hd (fun _ _ => ⟨rfl, eT, hc', hs'⟩)
    dsimp only [Pt.U, Pt.locs, Pt.cells, Pt.slots] at X1 l1 y1 z1 f hQ
    subst l1 y1 z1
    exact Fz.of (fun t k => f.trans k) (K T1 T1.heap v ⟨s.vm, 0, _, X1, fun _ => rfl, (State.WarmedH.refl s).since 0, Nat.zero_le _, hZ2, hown, rfl, Fr.app N hQ.1, hQ.2.1⟩ hQ.2.2)
  · have hZ2 : Z.Warmed39 (s.setVm vm0).vm := hZ
    have hK := backOfS (W := W) (R := R) (p := p) (e := e) (below := below) (args := args) (len := 3) (Q := fun v h L => Fr Z.heap.size L ∧ Ext Z.heap h ∧ Q' v h) hM hZ2 w4 w3 hf hl
    obtain ⟨v, vm₁, ⟨T1, L1, k1, n1⟩, -, X1, hS1, hg1, ⟨Lc, hQ, l1, y1, z1⟩, f⟩ := X.specialBackS hx (y := y) hn hown (mvT hZ2 w1) (mvT hZ2 w2) (mvT hZ2 w4) hy hK (g := mkF m pc Ls stk) rfl hsize (Steps.refl _) (a := a) (argsL := argsL) (rest := st) hlen hst hW hd (fun _ _ => ⟨rfl, eT, hc', hs'⟩)
    dsimp only [Pt.U, Pt.locs, Pt.cells, Pt.slots] at X1 hS1 hg1 l1 y1 z1 f hQ
    subst l1 y1 z1
    have X3 : Stand p l e R (s.setVm T1.vm) m args below meth c T1 (locs ++ Lc) (cells + rm.cells) (slots + rm.slots) := X1
    exact Fz.of (fun t k => f.trans k) (K T1 T1.heap v ⟨T1.vm, T1.heap.size, _, X3, (fun q => nomatch q), hS.trans hS1 (Nat.le_trans hk (by rw [← eT]; exact hg1)), Nat.le_refl _, State.Warmed39.trans (t := s.setVm vm0) hZ hS1.1, (hS1.1.alike.findClass _ _).trans hown, rfl, Fr.app N hQ.1, hQ.2.1⟩ hQ.2.2)
theorem callI1 {index : Nat} {y : MethodName} {bytes : ByteArray} {maxL : Nat} {rm : Room} {W : Nat} {argsL : List Value} {stk : List Value} {a : Addr} {q : Value → Heap → Prop} (G : Go b p l e R s m args below meth c Z own T h cells slots) (hx : p.tables.exec = Jvm.exec) (hd : decode c.code pc = .ok (.invokespecial index, 3)) (hn : y.name = "<init>") (w1 : (Cond.methodLink own index y).before a0 Z = true) (w2 : (Cond.instanceMethod y).before a0 Z = true) (w3 : (Cond.initialized y.cls).before a0 Z = true) (w4 : (Cond.code y bytes maxL none).before a0 Z = true) (hy : y.cls ≠ "java/lang/invoke/MethodHandle" ∧ y.cls ≠ "java/lang/invoke/VarHandle") (hM : Met1 b l Z y bytes maxL none [] rm (.ref a :: argsL).toArray h q) (hf : rm.frames + 1 ≤ R.frames) (hl : W + (maxL + 11) + rm.locals ≤ R.locals) (hsize : Ls.size = c.maxLocals) (hlen : ∀ sig, parseMethodDescriptor y.desc = some sig → argsL.length = sig.parameters.length) (hst : stk = argsL.reverse ++ .ref a :: st) (hW : 2 * 0 + (st.map fun v => v.category).sum ≤ W) (hc : cells + rm.cells = cells') (hc' : cells' ≤ R.cells) (hs : slots + rm.slots = slots') (hs' : slots' ≤ R.slots) (hp : pc + 3 = pc')
    (K : ∀ (T' : State) (h' : Heap) (w : Value), Go b p l e R s m args below meth c Z own T' h' cells' slots' → q w h' → Fz b p e R s below Z Q (T'.setTop (mkF m pc' Ls (w :: st)))) : Fz b p e R s below Z Q (T.setTop (mkF m pc Ls stk)) := 
  callI G hx hd hn w1 w2 w3 w4 hy hM hf hl hsize hlen hst hW hc hc' hs hs' hp (fun T' h' v G' hq => by
    obtain ⟨w, rfl, hq⟩ := hq
    exact K T' h' w G' hq)
theorem callIP {index : Nat} {y : MethodName} {bytes : ByteArray} {maxL : Nat} {rm : Room} {W : Nat} {argsL : List Value} {stk : List Value} {a : Addr} {q : Value → Prop} (G : Go b p l e R s m args below meth c Z own T h cells slots) (hx : p.tables.exec = Jvm.exec) (hd : decode c.code pc = .ok (.invokespecial index, 3)) (hn : y.name = "<init>") (w1 : (Cond.methodLink own index y).before a0 Z = true) (w2 : (Cond.instanceMethod y).before a0 Z = true) (w3 : (Cond.initialized y.cls).before a0 Z = true) (w4 : (Cond.code y bytes maxL none).before a0 Z = true) (hy : y.cls ≠ "java/lang/invoke/MethodHandle" ∧ y.cls ≠ "java/lang/invoke/VarHandle") (hM : Met1 b l Z y bytes maxL none [] rm (.ref a :: argsL).toArray h (fun w h' => h' = h ∧ q w)) (hf : rm.frames + 1 ≤ R.frames) (hl : W + (maxL + 11) + rm.locals ≤ R.locals) (hsize : Ls.size = c.maxLocals) (hlen : ∀ sig, parseMethodDescriptor y.desc = some sig → argsL.length = sig.parameters.length) (hst : stk = argsL.reverse ++ .ref a :: st) (hW : 2 * 0 + (st.map fun v => v.category).sum ≤ W) (hc : cells + rm.cells = cells') (hc' : cells' ≤ R.cells) (hs : slots + rm.slots = slots') (hs' : slots' ≤ R.slots) (hp : pc + 3 = pc')
    (K : ∀ (T' : State) (w : Value), Go b p l e R s m args below meth c Z own T' h cells' slots' → q w → Fz b p e R s below Z Q (T'.setTop (mkF m pc' Ls (w :: st)))) : Fz b p e R s below Z Q (T.setTop (mkF m pc Ls stk)) := 
  callI G hx hd hn w1 w2 w3 w4 hy hM hf hl hsize hlen hst hW hc hc' hs hs' hp (fun T' h' v G' hq => by
    obtain ⟨w, rfl, e1, hq⟩ := hq
    subst e1
    exact K T' w G' hq)
theorem callI0 {index : Nat} {y : MethodName} {bytes : ByteArray} {maxL : Nat} {rm : Room} {W : Nat} {argsL : List Value} {stk : List Value} {a : Addr} {q : Heap → Prop} (G : Go b p l e R s m args below meth c Z own T h cells slots) (hx : p.tables.exec = Jvm.exec) (hd : decode c.code pc = .ok (.invokespecial index, 3)) (hn : y.name = "<init>") (w1 : (Cond.methodLink own index y).before a0 Z = true) (w2 : (Cond.instanceMethod y).before a0 Z = true) (w3 : (Cond.initialized y.cls).before a0 Z = true) (w4 : (Cond.code y bytes maxL none).before a0 Z = true) (hy : y.cls ≠ "java/lang/invoke/MethodHandle" ∧ y.cls ≠ "java/lang/invoke/VarHandle") (hM : Met0 b l Z y bytes maxL none [] rm (.ref a :: argsL).toArray h q) (hf : rm.frames + 1 ≤ R.frames) (hl : W + (maxL + 11) + rm.locals ≤ R.locals) (hsize : Ls.size = c.maxLocals) (hlen : ∀ sig, parseMethodDescriptor y.desc = some sig → argsL.length = sig.parameters.length) (hst : stk = argsL.reverse ++ .ref a :: st) (hW : 2 * 0 + (st.map fun v => v.category).sum ≤ W) (hc : cells + rm.cells = cells') (hc' : cells' ≤ R.cells) (hs : slots + rm.slots = slots') (hs' : slots' ≤ R.slots) (hp : pc + 3 = pc')
    (K : ∀ (T' : State) (h' : Heap) , Go b p l e R s m args below meth c Z own T' h' cells' slots' → q h' → Fz b p e R s below Z Q (T'.setTop (mkF m pc' Ls st))) : Fz b p e R s below Z Q (T.setTop (mkF m pc Ls stk)) := 
  callI G hx hd hn w1 w2 w3 w4 hy hM hf hl hsize hlen hst hW hc hc' hs hs' hp (fun T' h' v G' hq => by
    obtain ⟨rfl, hq⟩ := hq
    exact K T' h' G' hq)
theorem callV {index : Nat} {y : MethodName} {bytes : ByteArray} {maxL : Nat} {ret : Option FieldType} {rm : Room} {W : Nat} {argsL : List Value} {stk : List Value} {a : Addr} {C : String} {z : MethodName} {Q' : Option Value → Heap → Prop} (G : Go b p l e R s m args below meth c Z own T h cells slots) (hx : p.tables.exec = Jvm.exec) (hd : decode c.code pc = .ok (.invokevirtual index, 3)) (nf : ∀ s' : State, Z.Warmed39 s'.vm → NotFace s' z) (w1 : (Cond.methodLink own index z).before a0 Z = true) (w2 : (Cond.declares z).before a0 Z = true) (w5 : (Cond.selects C z y).before a0 Z = true) (w6 : (Cond.instanceMethod y).before a0 Z = true) (w3 : (Cond.initialized y.cls).before a0 Z = true) (w4 : (Cond.code y bytes maxL ret).before a0 Z = true) (hy : z.cls ≠ "java/lang/invoke/MethodHandle" ∧ z.cls ≠ "java/lang/invoke/VarHandle") (E : Exa Z h a C) (hM : Met b l Z y bytes maxL ret [] rm (.ref a :: argsL).toArray h Q') (hf : rm.frames + 1 ≤ R.frames) (hl : W + (maxL + 11) + rm.locals ≤ R.locals) (hsize : Ls.size = c.maxLocals) (hlen : ∀ sig, parseMethodDescriptor z.desc = some sig → argsL.length = sig.parameters.length) (hst : stk = argsL.reverse ++ .ref a :: st) (hW : 2 * 0 + (st.map fun v => v.category).sum ≤ W) (hc : cells + rm.cells = cells') (hc' : cells' ≤ R.cells) (hs : slots + rm.slots = slots') (hs' : slots' ≤ R.slots) (hp : pc + 3 = pc')
    (K : ∀ (T' : State) (h' : Heap) (v : Option Value), Go b p l e R s m args below meth c Z own T' h' cells' slots' → Q' v h' → Fz b p e R s below Z Q (T'.setTop (mkF m pc' Ls (v.toList ++ st)))) : Fz b p e R s below Z Q (T.setTop (mkF m pc Ls stk)) := by
  subst hp; subst hc; subst hs
  obtain ⟨vm0, k0, locs, X, hb, hS, hk, hZ, hown, eT, N, O⟩ := G
  obtain ⟨cq, kq, qa, qb, qc⟩ := isOf (s := s.setVm vm0) (T := T) hZ eT E
  cases b
  · have q0 := hb rfl
    subst q0
    have X2 : Stand p l e R s m args below meth c T locs cells slots := X
    have hZ2 : Z.Warmed39 s.vm := hZ
    have hK := backOf (W := W) (R := R) (p := p) (e := e) (below := below) (args := args) (len := 3) (Q := fun v h L => Fr Z.heap.size L ∧ Ext Z.heap h ∧ Q' v h) hM hZ2 w4 w3 hf hl
    obtain ⟨v, vm₁, ⟨T1, L1, k1, n1⟩, -, X1, ⟨Lc, hQ, l1, y1, z1⟩, f⟩ := X2.virtualBack hx (y := z) (z := y) hown (mvT hZ2 w1) (mvT hZ2 w2) (nf _ hZ2) (mvT hZ2 w5) (mvT hZ2 w6) hy hK qa qc (g := mkF m pc Ls stk) rfl hsize (Steps.refl _) (argsL := argsL) (rest := st) hlen hst hW hd (fun _ _ => ⟨rfl, eT, hc', hs'⟩)
    dsimp only [Pt.U, Pt.locs, Pt.cells, Pt.slots] at X1 l1 y1 z1 f hQ
    subst l1 y1 z1
    exact Fz.of (fun t k => f.trans k) (K T1 T1.heap v ⟨s.vm, 0, _, X1, fun _ => rfl, (State.WarmedH.refl s).since 0, Nat.zero_le _, hZ2, hown, rfl, Fr.app N hQ.1, hQ.2.1⟩ hQ.2.2)
  · have hZ2 : Z.Warmed39 (s.setVm vm0).vm := hZ
    have hK := backOfS (W := W) (R := R) (p := p) (e := e) (below := below) (args := args) (len := 3) (Q := fun v h L => Fr Z.heap.size L ∧ Ext Z.heap h ∧ Q' v h) hM hZ2 w4 w3 hf hl
    obtain ⟨v, vm₁, ⟨T1, L1, k1, n1⟩, -, X1, hS1, hg1, ⟨Lc, hQ, l1, y1, z1⟩, f⟩ := X.virtualBackS hx (y := z) (z := y) hown (mvT hZ2 w1) (mvT hZ2 w2) (nf _ hZ2) (mvT hZ2 w5) (mvT hZ2 w6) hy hK qa qc (g := mkF m pc Ls stk) rfl hsize (Steps.refl _) (argsL := argsL) (rest := st) hlen hst hW hd (fun _ _ => ⟨rfl, eT, hc', hs'⟩)
    dsimp only [Pt.U, Pt.locs, Pt.cells, Pt.slots] at X1 hS1 hg1 l1 y1 z1 f hQ
    subst l1 y1 z1
    have X3 : Stand p l e R (s.setVm T1.vm) m args below meth c T1 (locs ++ Lc) (cells + rm.cells) (slots + rm.slots) := X1
    exact Fz.of (fun t k => f.trans k) (K T1 T1.heap v ⟨T1.vm, T1.heap.size, _, X3, (fun q => nomatch q), hS.trans hS1 (Nat.le_trans hk (by rw [← eT]; exact hg1)), Nat.le_refl _, State.Warmed39.trans (t := s.setVm vm0) hZ hS1.1, (hS1.1.alike.findClass _ _).trans hown, rfl, Fr.app N hQ.1, hQ.2.1⟩ hQ.2.2)
theorem callV1 {index : Nat} {y : MethodName} {bytes : ByteArray} {maxL : Nat} {ret : Option FieldType} {rm : Room} {W : Nat} {argsL : List Value} {stk : List Value} {a : Addr} {C : String} {z : MethodName} {q : Value → Heap → Prop} (G : Go b p l e R s m args below meth c Z own T h cells slots) (hx : p.tables.exec = Jvm.exec) (hd : decode c.code pc = .ok (.invokevirtual index, 3)) (nf : ∀ s' : State, Z.Warmed39 s'.vm → NotFace s' z) (w1 : (Cond.methodLink own index z).before a0 Z = true) (w2 : (Cond.declares z).before a0 Z = true) (w5 : (Cond.selects C z y).before a0 Z = true) (w6 : (Cond.instanceMethod y).before a0 Z = true) (w3 : (Cond.initialized y.cls).before a0 Z = true) (w4 : (Cond.code y bytes maxL ret).before a0 Z = true) (hy : z.cls ≠ "java/lang/invoke/MethodHandle" ∧ z.cls ≠ "java/lang/invoke/VarHandle") (E : Exa Z h a C) (hM : Met1 b l Z y bytes maxL ret [] rm (.ref a :: argsL).toArray h q) (hf : rm.frames + 1 ≤ R.frames) (hl : W + (maxL + 11) + rm.locals ≤ R.locals) (hsize : Ls.size = c.maxLocals) (hlen : ∀ sig, parseMethodDescriptor z.desc = some sig → argsL.length = sig.parameters.length) (hst : stk = argsL.reverse ++ .ref a :: st) (hW : 2 * 0 + (st.map fun v => v.category).sum ≤ W) (hc : cells + rm.cells = cells') (hc' : cells' ≤ R.cells) (hs : slots + rm.slots = slots') (hs' : slots' ≤ R.slots) (hp : pc + 3 = pc')
    (K : ∀ (T' : State) (h' : Heap) (w : Value), Go b p l e R s m args below meth c Z own T' h' cells' slots' → q w h' → Fz b p e R s below Z Q (T'.setTop (mkF m pc' Ls (w :: st)))) : Fz b p e R s below Z Q (T.setTop (mkF m pc Ls stk)) := 
  callV G hx hd nf w1 w2 w5 w6 w3 w4 hy E hM hf hl hsize hlen hst hW hc hc' hs hs' hp (fun T' h' v G' hq => by
    obtain ⟨w, rfl, hq⟩ := hq
    exact K T' h' w G' hq)
theorem callVP {index : Nat} {y : MethodName} {bytes : ByteArray} {maxL : Nat} {ret : Option FieldType} {rm : Room} {W : Nat} {argsL : List Value} {stk : List Value} {a : Addr} {C : String} {z : MethodName} {q : Value → Prop} (G : Go b p l e R s m args below meth c Z own T h cells slots) (hx : p.tables.exec = Jvm.exec) (hd : decode c.code pc = .ok (.invokevirtual index, 3)) (nf : ∀ s' : State, Z.Warmed39 s'.vm → NotFace s' z) (w1 : (Cond.methodLink own index z).before a0 Z = true) (w2 : (Cond.declares z).before a0 Z = true) (w5 : (Cond.selects C z y).before a0 Z = true) (w6 : (Cond.instanceMethod y).before a0 Z = true) (w3 : (Cond.initialized y.cls).before a0 Z = true) (w4 : (Cond.code y bytes maxL ret).before a0 Z = true) (hy : z.cls ≠ "java/lang/invoke/MethodHandle" ∧ z.cls ≠ "java/lang/invoke/VarHandle") (E : Exa Z h a C) (hM : Met1 b l Z y bytes maxL ret [] rm (.ref a :: argsL).toArray h (fun w h' => h' = h ∧ q w)) (hf : rm.frames + 1 ≤ R.frames) (hl : W + (maxL + 11) + rm.locals ≤ R.locals) (hsize : Ls.size = c.maxLocals) (hlen : ∀ sig, parseMethodDescriptor z.desc = some sig → argsL.length = sig.parameters.length) (hst : stk = argsL.reverse ++ .ref a :: st) (hW : 2 * 0 + (st.map fun v => v.category).sum ≤ W) (hc : cells + rm.cells = cells') (hc' : cells' ≤ R.cells) (hs : slots + rm.slots = slots') (hs' : slots' ≤ R.slots) (hp : pc + 3 = pc')
    (K : ∀ (T' : State) (w : Value), Go b p l e R s m args below meth c Z own T' h cells' slots' → q w → Fz b p e R s below Z Q (T'.setTop (mkF m pc' Ls (w :: st)))) : Fz b p e R s below Z Q (T.setTop (mkF m pc Ls stk)) := 
  callV G hx hd nf w1 w2 w5 w6 w3 w4 hy E hM hf hl hsize hlen hst hW hc hc' hs hs' hp (fun T' h' v G' hq => by
    obtain ⟨w, rfl, e1, hq⟩ := hq
    subst e1
    exact K T' w G' hq)
theorem callV0 {index : Nat} {y : MethodName} {bytes : ByteArray} {maxL : Nat} {ret : Option FieldType} {rm : Room} {W : Nat} {argsL : List Value} {stk : List Value} {a : Addr} {C : String} {z : MethodName} {q : Heap → Prop} (G : Go b p l e R s m args below meth c Z own T h cells slots) (hx : p.tables.exec = Jvm.exec) (hd : decode c.code pc = .ok (.invokevirtual index, 3)) (nf : ∀ s' : State, Z.Warmed39 s'.vm → NotFace s' z) (w1 : (Cond.methodLink own index z).before a0 Z = true) (w2 : (Cond.declares z).before a0 Z = true) (w5 : (Cond.selects C z y).before a0 Z = true) (w6 : (Cond.instanceMethod y).before a0 Z = true) (w3 : (Cond.initialized y.cls).before a0 Z = true) (w4 : (Cond.code y bytes maxL ret).before a0 Z = true) (hy : z.cls ≠ "java/lang/invoke/MethodHandle" ∧ z.cls ≠ "java/lang/invoke/VarHandle") (E : Exa Z h a C) (hM : Met0 b l Z y bytes maxL ret [] rm (.ref a :: argsL).toArray h q) (hf : rm.frames + 1 ≤ R.frames) (hl : W + (maxL + 11) + rm.locals ≤ R.locals) (hsize : Ls.size = c.maxLocals) (hlen : ∀ sig, parseMethodDescriptor z.desc = some sig → argsL.length = sig.parameters.length) (hst : stk = argsL.reverse ++ .ref a :: st) (hW : 2 * 0 + (st.map fun v => v.category).sum ≤ W) (hc : cells + rm.cells = cells') (hc' : cells' ≤ R.cells) (hs : slots + rm.slots = slots') (hs' : slots' ≤ R.slots) (hp : pc + 3 = pc')
    (K : ∀ (T' : State) (h' : Heap) , Go b p l e R s m args below meth c Z own T' h' cells' slots' → q h' → Fz b p e R s below Z Q (T'.setTop (mkF m pc' Ls st))) : Fz b p e R s below Z Q (T.setTop (mkF m pc Ls stk)) := 
  callV G hx hd nf w1 w2 w5 w6 w3 w4 hy E hM hf hl hsize hlen hst hW hc hc' hs hs' hp (fun T' h' v G' hq => by
    obtain ⟨rfl, hq⟩ := hq
    exact K T' h' G' hq)
theorem callU {index : Nat} {y : MethodName} {bytes : ByteArray} {maxL : Nat} {ret : Option FieldType} {rm : Room} {W : Nat} {argsL : List Value} {stk : List Value} {a : Addr} {C owner : String} {z : MethodName} {Q' : Option Value → Heap → Prop} (G : Go b p l e R s m args below meth c Z own T h cells slots) (hx : p.tables.exec = Jvm.exec) (hd : decode c.code pc = .ok (.invokevirtual index, 3)) (w1 : (Cond.methodLink own index z).before a0 Z = true) (w2 : (Cond.sameMethod z.cls owner z.name z.desc).before a0 Z = true) (w5 : (Cond.declares ⟨owner, z.name, z.desc⟩).before a0 Z = true) (w6 : (Cond.selects C z y).before a0 Z = true) (w7 : (Cond.instanceMethod y).before a0 Z = true) (w3 : (Cond.initialized y.cls).before a0 Z = true) (w4 : (Cond.code y bytes maxL ret).before a0 Z = true) (hy : owner ≠ "java/lang/invoke/MethodHandle" ∧ owner ≠ "java/lang/invoke/VarHandle") (E : Exa Z h a C) (hM : Met b l Z y bytes maxL ret [] rm (.ref a :: argsL).toArray h Q') (hf : rm.frames + 1 ≤ R.frames) (hl : W + (maxL + 11) + rm.locals ≤ R.locals) (hsize : Ls.size = c.maxLocals) (hlen : ∀ sig, parseMethodDescriptor z.desc = some sig → argsL.length = sig.parameters.length) (hst : stk = argsL.reverse ++ .ref a :: st) (hW : 2 * 0 + (st.map fun v => v.category).sum ≤ W) (hc : cells + rm.cells = cells') (hc' : cells' ≤ R.cells) (hs : slots + rm.slots = slots') (hs' : slots' ≤ R.slots) (hp : pc + 3 = pc')
    (K : ∀ (T' : State) (h' : Heap) (v : Option Value), Go b p l e R s m args below meth c Z own T' h' cells' slots' → Q' v h' → Fz b p e R s below Z Q (T'.setTop (mkF m pc' Ls (v.toList ++ st)))) : Fz b p e R s below Z Q (T.setTop (mkF m pc Ls stk)) := by
  subst hp; subst hc; subst hs
  obtain ⟨vm0, k0, locs, X, hb, hS, hk, hZ, hown, eT, N, O⟩ := G
  obtain ⟨cq, kq, qa, qb, qc⟩ := isOf (s := s.setVm vm0) (T := T) hZ eT E
  cases b
  · have q0 := hb rfl
    subst q0
    have X2 : Stand p l e R s m args below meth c T locs cells slots := X
    have hZ2 : Z.Warmed39 s.vm := hZ
    have hK := backOf (W := W) (R := R) (p := p) (e := e) (below := below) (args := args) (len := 3) (Q := fun v h L => Fr Z.heap.size L ∧ Ext Z.heap h ∧ Q' v h) hM hZ2 w4 w3 hf hl
    obtain ⟨v, vm₁, ⟨T1, L1, k1, n1⟩, -, X1, ⟨Lc, hQ, l1, y1, z1⟩, f⟩ := X2.virtualBackUp hx (x := z) (y := y) hown (mvT hZ2 w1) (mvT hZ2 w2) (mvT hZ2 w5) hy (mvT hZ2 w6) (mvT hZ2 w7) hK qa qc (g := mkF m pc Ls stk) rfl hsize (Steps.refl _) (argsL := argsL) (rest := st) hlen hst hW hd (fun _ _ => ⟨rfl, eT, hc', hs'⟩)
    dsimp only [Pt.U, Pt.locs, Pt.cells, Pt.slots] at X1 l1 y1 z1 f hQ
    subst l1 y1 z1
    exact Fz.of (fun t k => f.trans k) (K T1 T1.heap v ⟨s.vm, 0, _, X1, fun _ => rfl, (State.WarmedH.refl s).since 0, Nat.zero_le _, hZ2, hown, rfl, Fr.app N hQ.1, hQ.2.1⟩ hQ.2.2)
  · have hZ2 : Z.Warmed39 (s.setVm vm0).vm := hZ
    have hK := backOfS (W := W) (R := R) (p := p) (e := e) (below := below) (args := args) (len := 3) (Q := fun v h L => Fr Z.heap.size L ∧ Ext Z.heap h ∧ Q' v h) hM hZ2 w4 w3 hf hl
    obtain ⟨v, vm₁, ⟨T1, L1, k1, n1⟩, -, X1, hS1, hg1, ⟨Lc, hQ, l1, y1, z1⟩, f⟩ := X.virtualBackUpS hx (x := z) (y := y) hown (mvT hZ2 w1) (mvT hZ2 w2) (mvT hZ2 w5) hy (mvT hZ2 w6) (mvT hZ2 w7) hK qa qc (g := mkF m pc Ls stk) rfl hsize (Steps.refl _) (argsL := argsL) (rest := st) hlen hst hW hd (fun _ _ => ⟨rfl, eT, hc', hs'⟩)
    dsimp only [Pt.U, Pt.locs, Pt.cells, Pt.slots] at X1 hS1 hg1 l1 y1 z1 f hQ
    subst l1 y1 z1
    have X3 : Stand p l e R (s.setVm T1.vm) m args below meth c T1 (locs ++ Lc) (cells + rm.cells) (slots + rm.slots) := X1
    exact Fz.of (fun t k => f.trans k) (K T1 T1.heap v ⟨T1.vm, T1.heap.size, _, X3, (fun q => nomatch q), hS.trans hS1 (Nat.le_trans hk (by rw [← eT]; exact hg1)), Nat.le_refl _, State.Warmed39.trans (t := s.setVm vm0) hZ hS1.1, (hS1.1.alike.findClass _ _).trans hown, rfl, Fr.app N hQ.1, hQ.2.1⟩ hQ.2.2)
theorem callU1 {index : Nat} {y : MethodName} {bytes : ByteArray} {maxL : Nat} {ret : Option FieldType} {rm : Room} {W : Nat} {argsL : List Value} {stk : List Value} {a : Addr} {C owner : String} {z : MethodName} {q : Value → Heap → Prop} (G : Go b p l e R s m args below meth c Z own T h cells slots) (hx : p.tables.exec = Jvm.exec) (hd : decode c.code pc = .ok (.invokevirtual index, 3)) (w1 : (Cond.methodLink own index z).before a0 Z = true) (w2 : (Cond.sameMethod z.cls owner z.name z.desc).before a0 Z = true) (w5 : (Cond.declares ⟨owner, z.name, z.desc⟩).before a0 Z = true) (w6 : (Cond.selects C z y).before a0 Z = true) (w7 : (Cond.instanceMethod y).before a0 Z = true) (w3 : (Cond.initialized y.cls).before a0 Z = true) (w4 : (Cond.code y bytes maxL ret).before a0 Z = true) (hy : owner ≠ "java/lang/invoke/MethodHandle" ∧ owner ≠ "java/lang/invoke/VarHandle") (E : Exa Z h a C) (hM : Met1 b l Z y bytes maxL ret [] rm (.ref a :: argsL).toArray h q) (hf : rm.frames + 1 ≤ R.frames) (hl : W + (maxL + 11) + rm.locals ≤ R.locals) (hsize : Ls.size = c.maxLocals) (hlen : ∀ sig, parseMethodDescriptor z.desc = some sig → argsL.length = sig.parameters.length) (hst : stk = argsL.reverse ++ .ref a :: st) (hW : 2 * 0 + (st.map fun v => v.category).sum ≤ W) (hc : cells + rm.cells = cells') (hc' : cells' ≤ R.cells) (hs : slots + rm.slots = slots') (hs' : slots' ≤ R.slots) (hp : pc + 3 = pc')
    (K : ∀ (T' : State) (h' : Heap) (w : Value), Go b p l e R s m args below meth c Z own T' h' cells' slots' → q w h' → Fz b p e R s below Z Q (T'.setTop (mkF m pc' Ls (w :: st)))) : Fz b p e R s below Z Q (T.setTop (mkF m pc Ls stk)) := 
  callU G hx hd w1 w2 w5 w6 w7 w3 w4 hy E hM hf hl hsize hlen hst hW hc hc' hs hs' hp (fun T' h' v G' hq => by
    obtain ⟨w, rfl, hq⟩ := hq
    exact K T' h' w G' hq)
theorem callUP {index : Nat} {y : MethodName} {bytes : ByteArray} {maxL : Nat} {ret : Option FieldType} {rm : Room} {W : Nat} {argsL : List Value} {stk : List Value} {a : Addr} {C owner : String} {z : MethodName} {q : Value → Prop} (G : Go b p l e R s m args below meth c Z own T h cells slots) (hx : p.tables.exec = Jvm.exec) (hd : decode c.code pc = .ok (.invokevirtual index, 3)) (w1 : (Cond.methodLink own index z).before a0 Z = true) (w2 : (Cond.sameMethod z.cls owner z.name z.desc).before a0 Z = true) (w5 : (Cond.declares ⟨owner, z.name, z.desc⟩).before a0 Z = true) (w6 : (Cond.selects C z y).before a0 Z = true) (w7 : (Cond.instanceMethod y).before a0 Z = true) (w3 : (Cond.initialized y.cls).before a0 Z = true) (w4 : (Cond.code y bytes maxL ret).before a0 Z = true) (hy : owner ≠ "java/lang/invoke/MethodHandle" ∧ owner ≠ "java/lang/invoke/VarHandle") (E : Exa Z h a C) (hM : Met1 b l Z y bytes maxL ret [] rm (.ref a :: argsL).toArray h (fun w h' => h' = h ∧ q w)) (hf : rm.frames + 1 ≤ R.frames) (hl : W + (maxL + 11) + rm.locals ≤ R.locals) (hsize : Ls.size = c.maxLocals) (hlen : ∀ sig, parseMethodDescriptor z.desc = some sig → argsL.length = sig.parameters.length) (hst : stk = argsL.reverse ++ .ref a :: st) (hW : 2 * 0 + (st.map fun v => v.category).sum ≤ W) (hc : cells + rm.cells = cells') (hc' : cells' ≤ R.cells) (hs : slots + rm.slots = slots') (hs' : slots' ≤ R.slots) (hp : pc + 3 = pc')
    (K : ∀ (T' : State) (w : Value), Go b p l e R s m args below meth c Z own T' h cells' slots' → q w → Fz b p e R s below Z Q (T'.setTop (mkF m pc' Ls (w :: st)))) : Fz b p e R s below Z Q (T.setTop (mkF m pc Ls stk)) := 
  callU G hx hd w1 w2 w5 w6 w7 w3 w4 hy E hM hf hl hsize hlen hst hW hc hc' hs hs' hp (fun T' h' v G' hq => by
    obtain ⟨w, rfl, e1, hq⟩ := hq
    subst e1
    exact K T' w G' hq)
theorem callU0 {index : Nat} {y : MethodName} {bytes : ByteArray} {maxL : Nat} {ret : Option FieldType} {rm : Room} {W : Nat} {argsL : List Value} {stk : List Value} {a : Addr} {C owner : String} {z : MethodName} {q : Heap → Prop} (G : Go b p l e R s m args below meth c Z own T h cells slots) (hx : p.tables.exec = Jvm.exec) (hd : decode c.code pc = .ok (.invokevirtual index, 3)) (w1 : (Cond.methodLink own index z).before a0 Z = true) (w2 : (Cond.sameMethod z.cls owner z.name z.desc).before a0 Z = true) (w5 : (Cond.declares ⟨owner, z.name, z.desc⟩).before a0 Z = true) (w6 : (Cond.selects C z y).before a0 Z = true) (w7 : (Cond.instanceMethod y).before a0 Z = true) (w3 : (Cond.initialized y.cls).before a0 Z = true) (w4 : (Cond.code y bytes maxL ret).before a0 Z = true) (hy : owner ≠ "java/lang/invoke/MethodHandle" ∧ owner ≠ "java/lang/invoke/VarHandle") (E : Exa Z h a C) (hM : Met0 b l Z y bytes maxL ret [] rm (.ref a :: argsL).toArray h q) (hf : rm.frames + 1 ≤ R.frames) (hl : W + (maxL + 11) + rm.locals ≤ R.locals) (hsize : Ls.size = c.maxLocals) (hlen : ∀ sig, parseMethodDescriptor z.desc = some sig → argsL.length = sig.parameters.length) (hst : stk = argsL.reverse ++ .ref a :: st) (hW : 2 * 0 + (st.map fun v => v.category).sum ≤ W) (hc : cells + rm.cells = cells') (hc' : cells' ≤ R.cells) (hs : slots + rm.slots = slots') (hs' : slots' ≤ R.slots) (hp : pc + 3 = pc')
    (K : ∀ (T' : State) (h' : Heap) , Go b p l e R s m args below meth c Z own T' h' cells' slots' → q h' → Fz b p e R s below Z Q (T'.setTop (mkF m pc' Ls st))) : Fz b p e R s below Z Q (T.setTop (mkF m pc Ls stk)) := 
  callU G hx hd w1 w2 w5 w6 w7 w3 w4 hy E hM hf hl hsize hlen hst hW hc hc' hs hs' hp (fun T' h' v G' hq => by
    obtain ⟨rfl, hq⟩ := hq
    exact K T' h' G' hq)
theorem callIN {index : Nat} {y : MethodName} {bytes : ByteArray} {maxL : Nat} {rm : Room} {W : Nat} {argsL : List Value} {stk : List Value} {a : Addr} {host : String} {Q' : Option Value → Heap → Prop} (G : Go b p l e R s m args below meth c Z own T h cells slots) (hx : p.tables.exec = Jvm.exec) (hd : decode c.code pc = .ok (.invokespecial index, 3)) (hn : y.name = "<init>") (w1 : (Cond.methodLinkNest own index y host).before a0 Z = true) (w2 : (Cond.instanceMethod y).before a0 Z = true) (w3 : (Cond.initialized y.cls).before a0 Z = true) (w4 : (Cond.code y bytes maxL none).before a0 Z = true) (hy : y.cls ≠ "java/lang/invoke/MethodHandle" ∧ y.cls ≠ "java/lang/invoke/VarHandle") (hM : Met b l Z y bytes maxL none [] rm (.ref a :: argsL).toArray h Q') (hf : rm.frames + 1 ≤ R.frames) (hl : W + (maxL + 11) + rm.locals ≤ R.locals) (hsize : Ls.size = c.maxLocals) (hlen : ∀ sig, parseMethodDescriptor y.desc = some sig → argsL.length = sig.parameters.length) (hst : stk = argsL.reverse ++ .ref a :: st) (hW : 2 * 0 + (st.map fun v => v.category).sum ≤ W) (hc : cells + rm.cells = cells') (hc' : cells' ≤ R.cells) (hs : slots + rm.slots = slots') (hs' : slots' ≤ R.slots) (hp : pc + 3 = pc')
    (K : ∀ (T' : State) (h' : Heap) (v : Option Value), Go b p l e R s m args below meth c Z own T' h' cells' slots' → Q' v h' → Fz b p e R s below Z Q (T'.setTop (mkF m pc' Ls (v.toList ++ st)))) : Fz b p e R s below Z Q (T.setTop (mkF m pc Ls stk)) := by
  subst hp; subst hc; subst hs
  obtain ⟨vm0, k0, locs, X, hb, hS, hk, hZ, hown, eT, N, O⟩ := G
  cases b
  · have q0 := hb rfl
    subst q0
    have X2 : Stand p l e R s m args below meth c T locs cells slots := X
    have hZ2 : Z.Warmed39 s.vm := hZ
    have hK := backOf (W := W) (R := R) (p := p) (e := e) (below := below) (args := args) (len := 3) (Q := fun v h L => Fr Z.heap.size L ∧ Ext Z.heap h ∧ Q' v h) hM hZ2 w4 w3 hf hl
    obtain ⟨v, vm₁, ⟨T1, L1, k1, n1⟩, -, X1, ⟨Lc, hQ, l1, y1, z1⟩, f⟩ := X2.specialBackNest hx (y := y) hn hown (Cond.methodLinkNest_wide hZ2 w1 :) (mvT hZ2 w2) (mvT hZ2 w4) hy hK (g := mkF m pc Ls stk) rfl hsize (Steps.refl _) (a := a) (argsL := argsL) (rest := st) hlen hst hW hd (fun _ _ => ⟨rfl, eT, hc', hs'⟩)
    dsimp only [Pt.U, Pt.locs, Pt.cells, Pt.slots] at X1 l1 y1 z1 f hQ
    subst l1 y1 z1
    exact Fz.of (fun t k => f.trans k) (K T1 T1.heap v ⟨s.vm, 0, _, X1, fun _ => rfl, (State.WarmedH.refl s).since 0, Nat.zero_le _, hZ2, hown, rfl, Fr.app N hQ.1, hQ.2.1⟩ hQ.2.2)
  · have hZ2 : Z.Warmed39 (s.setVm vm0).vm := hZ
    have hK := backOfS (W := W) (R := R) (p := p) (e := e) (below := below) (args := args) (len := 3) (Q := fun v h L => Fr Z.heap.size L ∧ Ext Z.heap h ∧ Q' v h) hM hZ2 w4 w3 hf hl
    obtain ⟨v, vm₁, ⟨T1, L1, k1, n1⟩, -, X1, hS1, hg1, ⟨Lc, hQ, l1, y1, z1⟩, f⟩ := X.specialBackNestS hx (y := y) hn hown (Cond.methodLinkNest_wide hZ2 w1 :) (mvT hZ2 w2) (mvT hZ2 w4) hy hK (g := mkF m pc Ls stk) rfl hsize (Steps.refl _) (a := a) (argsL := argsL) (rest := st) hlen hst hW hd (fun _ _ => ⟨rfl, eT, hc', hs'⟩)
    dsimp only [Pt.U, Pt.locs, Pt.cells, Pt.slots] at X1 hS1 hg1 l1 y1 z1 f hQ
    subst l1 y1 z1
    have X3 : Stand p l e R (s.setVm T1.vm) m args below meth c T1 (locs ++ Lc) (cells + rm.cells) (slots + rm.slots) := X1
    exact Fz.of (fun t k => f.trans k) (K T1 T1.heap v ⟨T1.vm, T1.heap.size, _, X3, (fun q => nomatch q), hS.trans hS1 (Nat.le_trans hk (by rw [← eT]; exact hg1)), Nat.le_refl _, State.Warmed39.trans (t := s.setVm vm0) hZ hS1.1, (hS1.1.alike.findClass _ _).trans hown, rfl, Fr.app N hQ.1, hQ.2.1⟩ hQ.2.2)
theorem callIN1 {index : Nat} {y : MethodName} {bytes : ByteArray} {maxL : Nat} {rm : Room} {W : Nat} {argsL : List Value} {stk : List Value} {a : Addr} {host : String} {q : Value → Heap → Prop} (G : Go b p l e R s m args below meth c Z own T h cells slots) (hx : p.tables.exec = Jvm.exec) (hd : decode c.code pc = .ok (.invokespecial index, 3)) (hn : y.name = "<init>") (w1 : (Cond.methodLinkNest own index y host).before a0 Z = true) (w2 : (Cond.instanceMethod y).before a0 Z = true) (w3 : (Cond.initialized y.cls).before a0 Z = true) (w4 : (Cond.code y bytes maxL none).before a0 Z = true) (hy : y.cls ≠ "java/lang/invoke/MethodHandle" ∧ y.cls ≠ "java/lang/invoke/VarHandle") (hM : Met1 b l Z y bytes maxL none [] rm (.ref a :: argsL).toArray h q) (hf : rm.frames + 1 ≤ R.frames) (hl : W + (maxL + 11) + rm.locals ≤ R.locals) (hsize : Ls.size = c.maxLocals) (hlen : ∀ sig, parseMethodDescriptor y.desc = some sig → argsL.length = sig.parameters.length) (hst : stk = argsL.reverse ++ .ref a :: st) (hW : 2 * 0 + (st.map fun v => v.category).sum ≤ W) (hc : cells + rm.cells = cells') (hc' : cells' ≤ R.cells) (hs : slots + rm.slots = slots') (hs' : slots' ≤ R.slots) (hp : pc + 3 = pc')
    (K : ∀ (T' : State) (h' : Heap) (w : Value), Go b p l e R s m args below meth c Z own T' h' cells' slots' → q w h' → Fz b p e R s below Z Q (T'.setTop (mkF m pc' Ls (w :: st)))) : Fz b p e R s below Z Q (T.setTop (mkF m pc Ls stk)) := 
  callIN G hx hd hn w1 w2 w3 w4 hy hM hf hl hsize hlen hst hW hc hc' hs hs' hp (fun T' h' v G' hq => by
    obtain ⟨w, rfl, hq⟩ := hq
    exact K T' h' w G' hq)
theorem callINP {index : Nat} {y : MethodName} {bytes : ByteArray} {maxL : Nat} {rm : Room} {W : Nat} {argsL : List Value} {stk : List Value} {a : Addr} {host : String} {q : Value → Prop} (G : Go b p l e R s m args below meth c Z own T h cells slots) (hx : p.tables.exec = Jvm.exec) (hd : decode c.code pc = .ok (.invokespecial index, 3)) (hn : y.name = "<init>") (w1 : (Cond.methodLinkNest own index y host).before a0 Z = true) (w2 : (Cond.instanceMethod y).before a0 Z = true) (w3 : (Cond.initialized y.cls).before a0 Z = true) (w4 : (Cond.code y bytes maxL none).before a0 Z = true) (hy : y.cls ≠ "java/lang/invoke/MethodHandle" ∧ y.cls ≠ "java/lang/invoke/VarHandle") (hM : Met1 b l Z y bytes maxL none [] rm (.ref a :: argsL).toArray h (fun w h' => h' = h ∧ q w)) (hf : rm.frames + 1 ≤ R.frames) (hl : W + (maxL + 11) + rm.locals ≤ R.locals) (hsize : Ls.size = c.maxLocals) (hlen : ∀ sig, parseMethodDescriptor y.desc = some sig → argsL.length = sig.parameters.length) (hst : stk = argsL.reverse ++ .ref a :: st) (hW : 2 * 0 + (st.map fun v => v.category).sum ≤ W) (hc : cells + rm.cells = cells') (hc' : cells' ≤ R.cells) (hs : slots + rm.slots = slots') (hs' : slots' ≤ R.slots) (hp : pc + 3 = pc')
    (K : ∀ (T' : State) (w : Value), Go b p l e R s m args below meth c Z own T' h cells' slots' → q w → Fz b p e R s below Z Q (T'.setTop (mkF m pc' Ls (w :: st)))) : Fz b p e R s below Z Q (T.setTop (mkF m pc Ls stk)) := 
  callIN G hx hd hn w1 w2 w3 w4 hy hM hf hl hsize hlen hst hW hc hc' hs hs' hp (fun T' h' v G' hq => by
    obtain ⟨w, rfl, e1, hq⟩ := hq
    subst e1
    exact K T' w G' hq)
theorem callIN0 {index : Nat} {y : MethodName} {bytes : ByteArray} {maxL : Nat} {rm : Room} {W : Nat} {argsL : List Value} {stk : List Value} {a : Addr} {host : String} {q : Heap → Prop} (G : Go b p l e R s m args below meth c Z own T h cells slots) (hx : p.tables.exec = Jvm.exec) (hd : decode c.code pc = .ok (.invokespecial index, 3)) (hn : y.name = "<init>") (w1 : (Cond.methodLinkNest own index y host).before a0 Z = true) (w2 : (Cond.instanceMethod y).before a0 Z = true) (w3 : (Cond.initialized y.cls).before a0 Z = true) (w4 : (Cond.code y bytes maxL none).before a0 Z = true) (hy : y.cls ≠ "java/lang/invoke/MethodHandle" ∧ y.cls ≠ "java/lang/invoke/VarHandle") (hM : Met0 b l Z y bytes maxL none [] rm (.ref a :: argsL).toArray h q) (hf : rm.frames + 1 ≤ R.frames) (hl : W + (maxL + 11) + rm.locals ≤ R.locals) (hsize : Ls.size = c.maxLocals) (hlen : ∀ sig, parseMethodDescriptor y.desc = some sig → argsL.length = sig.parameters.length) (hst : stk = argsL.reverse ++ .ref a :: st) (hW : 2 * 0 + (st.map fun v => v.category).sum ≤ W) (hc : cells + rm.cells = cells') (hc' : cells' ≤ R.cells) (hs : slots + rm.slots = slots') (hs' : slots' ≤ R.slots) (hp : pc + 3 = pc')
    (K : ∀ (T' : State) (h' : Heap) , Go b p l e R s m args below meth c Z own T' h' cells' slots' → q h' → Fz b p e R s below Z Q (T'.setTop (mkF m pc' Ls st))) : Fz b p e R s below Z Q (T.setTop (mkF m pc Ls stk)) := 
  callIN G hx hd hn w1 w2 w3 w4 hy hM hf hl hsize hlen hst hW hc hc' hs hs' hp (fun T' h' v G' hq => by
    obtain ⟨rfl, hq⟩ := hq
    exact K T' h' G' hq)
theorem callSup {index : Nat} {y : MethodName} {bytes : ByteArray} {maxL : Nat} {ret : Option FieldType} {rm : Room} {W : Nat} {argsL : List Value} {stk : List Value} {a : Addr} {K' : String} {Q' : Option Value → Heap → Prop} (G : Go b p l e R s m args below meth c Z own T h cells slots) (hx : p.tables.exec = Jvm.exec) (hd : decode c.code pc = .ok (.invokespecial index, 3)) (hn : y.name ≠ "<init>") (w1 : (Cond.methodLink own index y).before a0 Z = true) (w2 : (Cond.sameMethod y.cls y.cls y.name y.desc).before a0 Z = true) (w5 : (Cond.instanceMethod y).before a0 Z = true) (w6 : (Cond.superclass own y.cls).before a0 Z = true) (w3 : (Cond.initialized y.cls).before a0 Z = true) (w4 : (Cond.code y bytes maxL ret).before a0 Z = true) (I : Ins Z h a K' true) (hM : Met b l Z y bytes maxL ret [] rm (.ref a :: argsL).toArray h Q') (hf : rm.frames + 1 ≤ R.frames) (hl : W + (maxL + 11) + rm.locals ≤ R.locals) (hsize : Ls.size = c.maxLocals) (hlen : ∀ sig, parseMethodDescriptor y.desc = some sig → argsL.length = sig.parameters.length) (hst : stk = argsL.reverse ++ .ref a :: st) (hW : 2 * 0 + (st.map fun v => v.category).sum ≤ W) (hc : cells + rm.cells = cells') (hc' : cells' ≤ R.cells) (hs : slots + rm.slots = slots') (hs' : slots' ≤ R.slots) (hp : pc + 3 = pc')
    (K : ∀ (T' : State) (h' : Heap) (v : Option Value), Go b p l e R s m args below meth c Z own T' h' cells' slots' → Q' v h' → Fz b p e R s below Z Q (T'.setTop (mkF m pc' Ls (v.toList ++ st)))) : Fz b p e R s below Z Q (T.setTop (mkF m pc Ls stk)) := by
  subst hp; subst hc; subst hs
  obtain ⟨vm0, k0, locs, X, hb, hS, hk, hZ, hown, eT, N, O⟩ := G
  cases b
  · have q0 := hb rfl
    subst q0
    have X2 : Stand p l e R s m args below meth c T locs cells slots := X
    have hZ2 : Z.Warmed39 s.vm := hZ
    have hK := backOf (W := W) (R := R) (p := p) (e := e) (below := below) (args := args) (len := 3) (Q := fun v h L => Fr Z.heap.size L ∧ Ext Z.heap h ∧ Q' v h) hM hZ2 w4 w3 hf hl
    obtain ⟨v, vm₁, ⟨T1, L1, k1, n1⟩, -, X1, ⟨Lc, hQ, l1, y1, z1⟩, f⟩ := superBack X2 hx hZ2 hown w1 w2 w5 w6 hn hK eT I (g := mkF m pc Ls stk) rfl hsize w4 (argsL := argsL) (rest := st) hlen hst hW hd (fun _ _ => ⟨rfl, eT, hc', hs'⟩)
    dsimp only [Pt.U, Pt.locs, Pt.cells, Pt.slots] at X1 l1 y1 z1 f hQ
    subst l1 y1 z1
    exact Fz.of (fun t k => f.trans k) (K T1 T1.heap v ⟨s.vm, 0, _, X1, fun _ => rfl, (State.WarmedH.refl s).since 0, Nat.zero_le _, hZ2, hown, rfl, Fr.app N hQ.1, hQ.2.1⟩ hQ.2.2)
  · have hZ2 : Z.Warmed39 (s.setVm vm0).vm := hZ
    have hK := backOfS (W := W) (R := R) (p := p) (e := e) (below := below) (args := args) (len := 3) (Q := fun v h L => Fr Z.heap.size L ∧ Ext Z.heap h ∧ Q' v h) hM hZ2 w4 w3 hf hl
    obtain ⟨v, vm₁, ⟨T1, L1, k1, n1⟩, -, X1, hS1, hg1, ⟨Lc, hQ, l1, y1, z1⟩, f⟩ := superBackS X hx hZ2 hown w1 w2 w5 w6 hn hK eT I (g := mkF m pc Ls stk) rfl hsize w4 (argsL := argsL) (rest := st) hlen hst hW hd (fun _ _ => ⟨rfl, eT, hc', hs'⟩)
    dsimp only [Pt.U, Pt.locs, Pt.cells, Pt.slots] at X1 hS1 hg1 l1 y1 z1 f hQ
    subst l1 y1 z1
    have X3 : Stand p l e R (s.setVm T1.vm) m args below meth c T1 (locs ++ Lc) (cells + rm.cells) (slots + rm.slots) := X1
    exact Fz.of (fun t k => f.trans k) (K T1 T1.heap v ⟨T1.vm, T1.heap.size, _, X3, (fun q => nomatch q), hS.trans hS1 (Nat.le_trans hk (by rw [← eT]; exact hg1)), Nat.le_refl _, State.Warmed39.trans (t := s.setVm vm0) hZ hS1.1, (hS1.1.alike.findClass _ _).trans hown, rfl, Fr.app N hQ.1, hQ.2.1⟩ hQ.2.2)
theorem callSup1 {index : Nat} {y : MethodName} {bytes : ByteArray} {maxL : Nat} {ret : Option FieldType} {rm : Room} {W : Nat} {argsL : List Value} {stk : List Value} {a : Addr} {K' : String} {q : Value → Heap → Prop} (G : Go b p l e R s m args below meth c Z own T h cells slots) (hx : p.tables.exec = Jvm.exec) (hd : decode c.code pc = .ok (.invokespecial index, 3)) (hn : y.name ≠ "<init>") (w1 : (Cond.methodLink own index y).before a0 Z = true) (w2 : (Cond.sameMethod y.cls y.cls y.name y.desc).before a0 Z = true) (w5 : (Cond.instanceMethod y).before a0 Z = true) (w6 : (Cond.superclass own y.cls).before a0 Z = true) (w3 : (Cond.initialized y.cls).before a0 Z = true) (w4 : (Cond.code y bytes maxL ret).before a0 Z = true) (I : Ins Z h a K' true) (hM : Met1 b l Z y bytes maxL ret [] rm (.ref a :: argsL).toArray h q) (hf : rm.frames + 1 ≤ R.frames) (hl : W + (maxL + 11) + rm.locals ≤ R.locals) (hsize : Ls.size = c.maxLocals) (hlen : ∀ sig, parseMethodDescriptor y.desc = some sig → argsL.length = sig.parameters.length) (hst : stk = argsL.reverse ++ .ref a :: st) (hW : 2 * 0 + (st.map fun v => v.category).sum ≤ W) (hc : cells + rm.cells = cells') (hc' : cells' ≤ R.cells) (hs : slots + rm.slots = slots') (hs' : slots' ≤ R.slots) (hp : pc + 3 = pc')
    (K : ∀ (T' : State) (h' : Heap) (w : Value), Go b p l e R s m args below meth c Z own T' h' cells' slots' → q w h' → Fz b p e R s below Z Q (T'.setTop (mkF m pc' Ls (w :: st)))) : Fz b p e R s below Z Q (T.setTop (mkF m pc Ls stk)) := 
  callSup G hx hd hn w1 w2 w5 w6 w3 w4 I hM hf hl hsize hlen hst hW hc hc' hs hs' hp (fun T' h' v G' hq => by
    obtain ⟨w, rfl, hq⟩ := hq
    exact K T' h' w G' hq)
theorem callSupP {index : Nat} {y : MethodName} {bytes : ByteArray} {maxL : Nat} {ret : Option FieldType} {rm : Room} {W : Nat} {argsL : List Value} {stk : List Value} {a : Addr} {K' : String} {q : Value → Prop} (G : Go b p l e R s m args below meth c Z own T h cells slots) (hx : p.tables.exec = Jvm.exec) (hd : decode c.code pc = .ok (.invokespecial index, 3)) (hn : y.name ≠ "<init>") (w1 : (Cond.methodLink own index y).before a0 Z = true) (w2 : (Cond.sameMethod y.cls y.cls y.name y.desc).before a0 Z = true) (w5 : (Cond.instanceMethod y).before a0 Z = true) (w6 : (Cond.superclass own y.cls).before a0 Z = true) (w3 : (Cond.initialized y.cls).before a0 Z = true) (w4 : (Cond.code y bytes maxL ret).before a0 Z = true) (I : Ins Z h a K' true) (hM : Met1 b l Z y bytes maxL ret [] rm (.ref a :: argsL).toArray h (fun w h' => h' = h ∧ q w)) (hf : rm.frames + 1 ≤ R.frames) (hl : W + (maxL + 11) + rm.locals ≤ R.locals) (hsize : Ls.size = c.maxLocals) (hlen : ∀ sig, parseMethodDescriptor y.desc = some sig → argsL.length = sig.parameters.length) (hst : stk = argsL.reverse ++ .ref a :: st) (hW : 2 * 0 + (st.map fun v => v.category).sum ≤ W) (hc : cells + rm.cells = cells') (hc' : cells' ≤ R.cells) (hs : slots + rm.slots = slots') (hs' : slots' ≤ R.slots) (hp : pc + 3 = pc')
    (K : ∀ (T' : State) (w : Value), Go b p l e R s m args below meth c Z own T' h cells' slots' → q w → Fz b p e R s below Z Q (T'.setTop (mkF m pc' Ls (w :: st)))) : Fz b p e R s below Z Q (T.setTop (mkF m pc Ls stk)) := 
  callSup G hx hd hn w1 w2 w5 w6 w3 w4 I hM hf hl hsize hlen hst hW hc hc' hs hs' hp (fun T' h' v G' hq => by
    obtain ⟨w, rfl, e1, hq⟩ := hq
    subst e1
    exact K T' w G' hq)
theorem callSup0 {index : Nat} {y : MethodName} {bytes : ByteArray} {maxL : Nat} {ret : Option FieldType} {rm : Room} {W : Nat} {argsL : List Value} {stk : List Value} {a : Addr} {K' : String} {q : Heap → Prop} (G : Go b p l e R s m args below meth c Z own T h cells slots) (hx : p.tables.exec = Jvm.exec) (hd : decode c.code pc = .ok (.invokespecial index, 3)) (hn : y.name ≠ "<init>") (w1 : (Cond.methodLink own index y).before a0 Z = true) (w2 : (Cond.sameMethod y.cls y.cls y.name y.desc).before a0 Z = true) (w5 : (Cond.instanceMethod y).before a0 Z = true) (w6 : (Cond.superclass own y.cls).before a0 Z = true) (w3 : (Cond.initialized y.cls).before a0 Z = true) (w4 : (Cond.code y bytes maxL ret).before a0 Z = true) (I : Ins Z h a K' true) (hM : Met0 b l Z y bytes maxL ret [] rm (.ref a :: argsL).toArray h q) (hf : rm.frames + 1 ≤ R.frames) (hl : W + (maxL + 11) + rm.locals ≤ R.locals) (hsize : Ls.size = c.maxLocals) (hlen : ∀ sig, parseMethodDescriptor y.desc = some sig → argsL.length = sig.parameters.length) (hst : stk = argsL.reverse ++ .ref a :: st) (hW : 2 * 0 + (st.map fun v => v.category).sum ≤ W) (hc : cells + rm.cells = cells') (hc' : cells' ≤ R.cells) (hs : slots + rm.slots = slots') (hs' : slots' ≤ R.slots) (hp : pc + 3 = pc')
    (K : ∀ (T' : State) (h' : Heap) , Go b p l e R s m args below meth c Z own T' h' cells' slots' → q h' → Fz b p e R s below Z Q (T'.setTop (mkF m pc' Ls st))) : Fz b p e R s below Z Q (T.setTop (mkF m pc Ls stk)) := 
  callSup G hx hd hn w1 w2 w5 w6 w3 w4 I hM hf hl hsize hlen hst hW hc hc' hs hs' hp (fun T' h' v G' hq => by
    obtain ⟨rfl, hq⟩ := hq
    exact K T' h' G' hq)
theorem getfieldRef {O' n d : String} {index : Nat} {a : Addr} {v : Value} (G : Go b p l e R s m args below meth c Z own T h cells slots) (hx : p.tables.exec = Jvm.exec) (hd : decode c.code pc = .ok (.getfield index, 3)) (w : (Cond.fieldRef own index O' n d).before a0 Z = true) (F : Fld Z h a O' n d v) (hp : pc + 3 = pc') (K : Fz b p e R s below Z Q (T.setTop (mkF m pc' Ls (v :: st)))) : Fz b p e R s below Z Q (T.setTop (mkF m pc Ls (.ref a :: st))) := by
  subst hp
  obtain ⟨vm0, k0, locs, X, hb, hS, hk, hZ, hown, eT, N, O⟩ := G
  have hZT : Z.Warmed39 T.vm := wtrans (s := s.setVm vm0) hZ X.warmed
  have q := Cond.fieldRef_warmed39 hZT w
  have hcur : (Z.setVm T.vm).vm.findClass own = some m.cls := (X.warmed.alike.findClass _ _).trans hown
  obtain ⟨c2, k2, i2, f2, e1, hr⟩ := Cond.fieldRef_spec hcur q
  obtain ⟨cell, cf, k, i, f, h1, h2, h3, h4, -, -, h7⟩ := F
  obtain ⟨k', hi, -⟩ := State.fieldFound?_setVm (s := Z) hZT.alike h2
  have e2 := hi.symm.trans e1
  simp only [Option.some.injEq, Prod.mk.injEq] at e2
  obtain ⟨rfl, rfl, rfl, rfl⟩ := e2
  exact Fz.of (fun t k => (X.getfieldR hx (g := mkF m pc Ls (.ref a :: st)) rfl hr h3 rfl (by rw [eT]; exact h1) h4 h7 hd (Steps.refl _)).trans k) K
theorem arraycopy {index : Nat} {k k' : ClassId} {ty : FieldType} {z z' sp dp nn : Int32} {vs vd us : List Value} {dv dd : Value} {a x : Addr} {W : Nat} (G : Go b p l e R s m args below meth c Z own T h cells slots) (hx : p.tables.exec = Jvm.exec) (hd : decode c.code pc = .ok (.invokestatic index, 3)) (w1 : (Cond.methodLink own index Jvm.Stand.acN).before a0 Z = true) (w2 : (Cond.native Jvm.Stand.acN).before a0 Z = true) (w3 : (Cond.static Jvm.Stand.acN).before a0 Z = true) (w4 : (Cond.initialized "java/lang/System").before a0 Z = true)
    (A : Arv Z h a k ty z vs dv) (B : Arv Z h x k' ty z' vd dd) (hty : refKind ty = false) (h1 : ¬ sp < 0) (h2 : ¬ dp < 0) (h3 : ¬ nn < 0) (h4 : sp.toNatClampNeg + nn.toNatClampNeg ≤ z.toNatClampNeg) (h5 : dp.toNatClampNeg + nn.toNatClampNeg ≤ z'.toNatClampNeg) (hus : us = (List.range nn.toNatClampNeg).map fun i => vs.getD (sp.toNatClampNeg + i) dv) (hl : dp.toNatClampNeg + nn.toNatClampNeg ≤ vd.length) (ga : Z.heap.size ≤ x)
    (hsize : Ls.size = c.maxLocals) (hf : 1 ≤ R.frames) (hW : 2 * 0 + (st.map fun v => v.category).sum ≤ W) (hlo : W + (nativeFrameWords "java/lang/System" "arraycopy" 5 + 11) ≤ R.locals) (hp : pc + 3 = pc')
    (K : ∀ T' h', Go b p l e R s m args below meth c Z own T' h' cells slots → Keep h h' [x] → Arv Z h' x k' ty z' (vd.take dp.toNatClampNeg ++ us ++ vd.drop (dp.toNatClampNeg + nn.toNatClampNeg)) dd → Fz b p e R s below Z Q (T'.setTop (mkF m pc' Ls st))) : Fz b p e R s below Z Q (T.setTop (mkF m pc Ls (.int nn :: .int dp :: .ref x :: .int sp :: .ref a :: st))) := by
  subst hp
  obtain ⟨vm0, k0, locs, X, hb, hS, hk, hZ, hown, eT, N, O⟩ := G
  obtain ⟨T', h', L, X', e', N', K', V', f⟩ := cpA X hx hZ hown w1 w2 w3 w4 eT A B (Or.inl ⟨rfl, hty⟩) h1 h2 h3 h4 h5 hus hl N ga (g := mkF m pc Ls (.int nn :: .int dp :: .ref x :: .int sp :: .ref a :: st)) rfl hsize rfl hd hf hW hlo
  exact Fz.of f (K T' h' ⟨vm0, k0, L, X', hb, hS, Nat.le_trans hk K'.1, hZ, hown, e', N', (Old.keep (n0 := Z.heap.size) ⟨rfl, O⟩ K' (allS ga all0)).2⟩ K' V')
theorem callIB {index : Nat} {y : MethodName} {bytes : ByteArray} {maxL : Nat} {W mc ms : Nat} {argsL : List Value} {stk : List Value} {a : Addr} {Qb : Option Value → Heap → List Loc → Prop} (G : Go b p l e R s m args below meth c Z own T h cells slots) (hx : p.tables.exec = Jvm.exec) (hd : decode c.code pc = .ok (.invokespecial index, 3)) (hn : y.name = "<init>") (w1 : (Cond.methodLink own index y).before a0 Z = true) (w2 : (Cond.instanceMethod y).before a0 Z = true) (w4 : (Cond.code y bytes maxL none).before a0 Z = true) (hy : y.cls ≠ "java/lang/invoke/MethodHandle" ∧ y.cls ≠ "java/lang/invoke/VarHandle")
    (hB : ∀ s' : State, Z.Warmed39 s'.vm → Back l R p e below s' args y 3 W (fun P a' => a' = (.ref a :: argsL).toArray ∧ P.U.heap = h ∧ P.cells + mc ≤ R.cells ∧ P.slots + ms ≤ R.slots) (fun P _ v B => ∃ L, Qb v B.U.heap L ∧ B.locs = P.locs ++ L ∧ B.cells = P.cells + mc ∧ B.slots = P.slots + ms))
    (hQ : ∀ v h' L, Qb v h' L → v = none ∧ Fr Z.heap.size L ∧ Ext Z.heap h' ∧ h.size ≤ h'.size) (hsize : Ls.size = c.maxLocals) (hlen : ∀ sig, parseMethodDescriptor y.desc = some sig → argsL.length = sig.parameters.length) (hst : stk = argsL.reverse ++ .ref a :: st) (hW : 2 * 0 + (st.map fun v => v.category).sum ≤ W) (hc : cells + mc = cells') (hc' : cells' ≤ R.cells) (hs : slots + ms = slots') (hs' : slots' ≤ R.slots) (hp : pc + 3 = pc')
    (K : ∀ (T' : State) (h' : Heap), Go b p l e R s m args below meth c Z own T' h' cells' slots' → (∃ L, Qb none h' L) → Fz b p e R s below Z Q (T'.setTop (mkF m pc' Ls st))) : Fz b p e R s below Z Q (T.setTop (mkF m pc Ls stk)) := by
  subst hp; subst hc; subst hs
  obtain ⟨vm0, k0, locs, X, hb, hS, hk, hZ, hown, eT, N, O⟩ := G
  have hZ2 : Z.Warmed39 (s.setVm vm0).vm := hZ
  obtain ⟨v, vm₁, ⟨T1, L1, k1, n1⟩, -, X1, ⟨Lc, hQ1, l1, y1, z1⟩, f⟩ := X.specialBack hx (y := y) hn hown (mvT hZ2 w1) (mvT hZ2 w2) (mvT hZ2 w4) hy (hB _ hZ2) (g := mkF m pc Ls stk) rfl hsize (Steps.refl _) (a := a) (argsL := argsL) (rest := st) hlen hst hW hd (fun _ _ => ⟨rfl, eT, hc', hs'⟩)
  dsimp only [Pt.U, Pt.locs, Pt.cells, Pt.slots] at X1 l1 y1 z1 f hQ1
  subst l1 y1 z1
  obtain ⟨e1, N1, O1, hz1⟩ := hQ _ _ _ hQ1
  subst e1
  have kz : k0 ≤ T1.heap.size := Nat.le_trans hk hz1
  exact Fz.of (fun t k => f.trans k) (K T1 T1.heap ⟨vm0, k0, _, X1, hb, hS, kz, hZ, hown, rfl, Fr.app N N1, O1⟩ ⟨Lc, hQ1⟩)
theorem callVB {index : Nat} {y z : MethodName} {C : String} {W : Nat} {argsL : List Value} {stk : List Value} {a : Addr} {Qb : Option Value → Prop} (G : Go b p l e R s m args below meth c Z own T h cells slots) (hx : p.tables.exec = Jvm.exec) (hd : decode c.code pc = .ok (.invokevirtual index, 3)) (nf : ∀ s' : State, Z.Warmed39 s'.vm → NotFace s' z) (w1 : (Cond.methodLink own index z).before a0 Z = true) (w2 : (Cond.declares z).before a0 Z = true) (w5 : (Cond.selects C z y).before a0 Z = true) (w6 : (Cond.instanceMethod y).before a0 Z = true) (hy : z.cls ≠ "java/lang/invoke/MethodHandle" ∧ z.cls ≠ "java/lang/invoke/VarHandle") (E : Exa Z h a C)
    (hB : ∀ s' : State, Z.Warmed39 s'.vm → Back l R p e below s' args y 3 W (fun P a' => a' = (.ref a :: argsL).toArray ∧ P.U.heap = h ∧ P.cells + 0 ≤ R.cells ∧ P.slots + 0 ≤ R.slots) (fun P _ v B => ∃ L, (Qb v ∧ L = [] ∧ B.U.heap = h) ∧ B.locs = P.locs ++ L ∧ B.cells = P.cells + 0 ∧ B.slots = P.slots + 0))
    (hsize : Ls.size = c.maxLocals) (hlen : ∀ sig, parseMethodDescriptor z.desc = some sig → argsL.length = sig.parameters.length) (hst : stk = argsL.reverse ++ .ref a :: st) (hW : 2 * 0 + (st.map fun v => v.category).sum ≤ W) (hc' : cells + 0 ≤ R.cells) (hs' : slots + 0 ≤ R.slots) (hp : pc + 3 = pc')
    (hQ : ∀ v, Qb v → ∃ w, v = some w) (K : ∀ (T' : State) (w : Value), Go b p l e R s m args below meth c Z own T' h cells slots → Qb (some w) → Fz b p e R s below Z Q (T'.setTop (mkF m pc' Ls (w :: st)))) : Fz b p e R s below Z Q (T.setTop (mkF m pc Ls stk)) := by
  subst hp
  obtain ⟨vm0, k0, locs, X, hb, hS, hk, hZ, hown, eT, N, O⟩ := G
  obtain ⟨cq, kq, qa, qb, qc⟩ := isOf (s := s.setVm vm0) (T := T) hZ eT E
  have hZ2 : Z.Warmed39 (s.setVm vm0).vm := hZ
  obtain ⟨v, vm₁, ⟨T1, L1, k1, n1⟩, -, X1, ⟨Lc, ⟨hQ1, rfl, e1⟩, l1, y1, z1⟩, f⟩ := X.virtualBack hx (y := z) (z := y) hown (mvT hZ2 w1) (mvT hZ2 w2) (nf _ hZ2) (mvT hZ2 w5) (mvT hZ2 w6) hy (hB _ hZ2) qa qc (g := mkF m pc Ls stk) rfl hsize (Steps.refl _) (argsL := argsL) (rest := st) hlen hst hW hd (fun _ _ => ⟨rfl, eT, hc', hs'⟩)
  dsimp only [Pt.U, Pt.locs, Pt.cells, Pt.slots] at X1 l1 y1 z1 f hQ1 e1
  subst l1 y1 z1
  rw [List.append_nil] at X1
  obtain ⟨w, rfl⟩ := hQ v hQ1
  exact Fz.of (fun t k => f.trans k) (K T1 w ⟨vm0, k0, _, X1, hb, hS, hk, hZ, hown, e1, N, O⟩ hQ1)
theorem declOf {y : MethodName} {bytes : ByteArray} {maxL : Nat} {ret : Option FieldType} (w1 : (Cond.instanceMethod y).before a0 Z = true) (w2 : (Cond.code y bytes maxL ret).before a0 Z = true) : (Cond.declares y).before a0 Z = true := by
  obtain ⟨mk, methM, hnamed, hmethM, hstM, habM⟩ := Cond.instanceMethod_spec w1
  obtain ⟨m2, cM, q1, -, -, -, -, -, -, hsig⟩ := Cond.code_spec hnamed w2
  cases hmethM.symm.trans q1
  simp [Cond.before, Cond.holds, Cond.value, hnamed, hmethM, hstM, hsig]
theorem nfOf {C : String} {y z : MethodName} (hz : z.cls = y.cls) (w : (Cond.selects C z z).before a0 Z = true) : ∀ s' : State, Z.Warmed39 s'.vm → NotFace s' y := fun s' hZ r0 h0 => by
  obtain ⟨c2, r2, m2, -, -, q3, -, kP, hkP, hkPi⟩ := Cond.selects_spec (mvT (args := #[]) hZ w)
  have hc := findClass_of_methodNamed h0
  have hc2 := findClass_of_methodNamed q3
  rw [hz] at hc2
  have e : m2.cls = r0.cls := Option.some.inj (hc2.symm.trans hc)
  exact ⟨kP, e ▸ hkP, hkPi⟩
theorem sameSelf {C : String} {y z : MethodName} (hz : z.cls = y.cls) (hy : y.cls ≠ "java/lang/invoke/MethodHandle" ∧ y.cls ≠ "java/lang/invoke/VarHandle") (w1 : (Cond.instanceMethod y).before a0 Z = true) (w2 : (Cond.selects C z z).before a0 Z = true) : (Cond.sameMethod y.cls y.cls y.name y.desc).before a0 Z = true := by
  obtain ⟨mk, methM, hnamed, hmethM, hstM, habM⟩ := Cond.instanceMethod_spec w1
  obtain ⟨c2, r2, m2, -, -, q3, -, kP, hkP, hkPi⟩ := Cond.selects_spec w2
  have hc := findClass_of_methodNamed hnamed
  have hc2 := findClass_of_methodNamed q3
  rw [hz] at hc2
  have e : m2.cls = mk.cls := Option.some.inj (hc2.symm.trans hc)
  rw [e] at hkP
  have hf := State.methodFound?_of_named hnamed hy
  have hnm : Z.methodNamed? ⟨y.cls, y.name, y.desc⟩ = some mk := hnamed
  simp [Cond.before, Cond.holds, Cond.value, hc, hf, hnm, hkP, hkPi]
end Base
section Facts
variable {Z : State} {a0 : Array Value} {h h' : Heap} {a b x : Addr} {C n d : String} {v w : Value} {ws : List Addr}
/-- a fresh cell is none of the older ones -/
theorem ne_new (hl : a < h.size) (q : x = h.size) : a ≠ x := fun e => by subst e; subst q; exact absurd hl (Nat.lt_irrefl _)
theorem ne_ge (hl : a < h.size) (q : h.size ≤ x) : a ≠ x := fun e => by subst e; exact absurd hl (Nat.not_lt.mpr q)
theorem ge_new (O : Ext Z.heap h) (q : x = h.size) : Z.heap.size ≤ x := by subst q; exact O.1
theorem Ext.refl (h : Heap) : Ext h h := ⟨Nat.le_refl _, fun _ _ q => q⟩
theorem Ext.keep (E : Ext h h') : Keep h h' ws := (Keep.refl h ws).ext E
theorem nin1 (q : a ≠ b) : a ∉ [b] := ninS q nin0
theorem catI (x : Int32) : (Value.int x).category = 1 := rfl
theorem catJ (x : Int64) : (Value.long x).category = 2 := rfl
theorem catR (x : Addr) : (Value.ref x).category = 1 := rfl
theorem catN : Value.null.category = 1 := rfl
theorem cat1 (q : v.isRef = true) : v.category = 1 := by cases v <;> simp [Value.isRef, Value.category] at q ⊢
theorem fits_R {K : String} (q : v.isRef = true) : fits (.object K) v = true := by cases v <;> simp [Value.isRef, fits] at q ⊢
theorem eq_to {args : Array Value} {s : State} {t u : Term} {y : Value} (q : (Cond.eq t u).value args s none s [] = some true) (hu : u.eval args s none [] s = some y) : t.eval args s none [] s = some y := by
  cases ht : t.eval args s none [] s with
  | none => simp [Cond.value, ht] at q
  | some x => cases x <;> cases y <;> simp [Cond.value, ht, hu] at q ⊢ <;> exact q
theorem fld_of {args : Array Value} {s : State} {t : Term} {y : Value} {K nm dd : String} (ht : t.eval args s none [] s = some (.ref x)) (q : (Term.field t K nm dd).eval args s none [] s = some y) : Fld s s.heap x K nm dd y := Fld.start ((fld_at ht).symm.trans q)
theorem sta_of {args : Array Value} {s : State} {K nm dd : String} {y : Value} (ev : (Term.static K nm dd).eval args s none [] s = some y) (h1 : (Cond.initialized K).before args s = true) (h2 : (Cond.laysStatic K nm dd).before args s = true) : Sta s s.heap K nm dd y := Sta.start ev (Or.inr ⟨h1, h2⟩)
theorem sta_for {args : Array Value} {s : State} {K nm dd : String} {y : Value} (ev : (Term.static K nm dd).eval args s none [] s = some y) (h1 : (Cond.initializedFor K nm dd).before args s = true) : Sta s s.heap K nm dd y := Sta.start ev (Or.inl h1)
theorem arv_len {args : Array Value} {s : State} {t : Term} {z : Int32} {cl : Cell} {ty : FieldType} {dv : Value} (hf : Fit s) (A : Arr s s.heap x cl ty) (ev : t.eval args s none [] s = some (.ref x)) (q : (Cond.eq (.length t) (.int z)).value args s none s [] = some true) (hz : ¬ z < 0) (h0 : z.toNatClampNeg = 0) : Arv s s.heap x cl.cls ty z [] dv := by
  have e1 := eq_to q (Term.int_eval z)
  simp only [Term.eval, ev, Option.bind_eq_bind, Option.bind_some, A.fin (Vm.Alike.refl _)] at e1
  split at e1
  · rename_i hs
    have e2 : cl.slots.size.toInt32 = z := by simpa using e1
    exact Arv.start hf A hs e2 hz h0 trivial
  · cases e1
end Facts
end Jvm.Own
/- laws to paste: Road.backV (cut by pick.py; bodies as the Statement names them) -/
namespace Jvm.Pilot.@@N@@
namespace StrChars
open Jvm Sem ClassFile Op Lib Jvm.Stand Jvm.Free.XT Jvm.Free.ALB Jvm.Free.JM Jvm.Free
open Jvm.Lib.Cold (StaticIs)
/-- a char array whose places are chars -/
def Ch (a : Addr) (A : Cell) (U : State) : Prop := Arr .char a A U ∧ Typed .char A
theorem Ch.mv {a : Addr} {A : Cell} {U U' : State} (h : Ch a A U) (hal : U.vm.Alike U'.vm) (hh : U'.heap = U.heap) : Ch a A U' := ⟨h.1.mv hal hh, h.2⟩
theorem Ch.keep {a : Addr} {A : Cell} {U U' : State} (h : Ch a A U) (hal : U.vm.Alike U'.vm) (hk : U'.heap[a]? = some A) : Ch a A U' := ⟨h.1.keep hal hk, h.2⟩
/-- what place i of a char[]'s cell holds -/
def cv (A : Cell) (i : Nat) : Int32 := match A.slots[i]? with | some (.int x) => x | _ => 0
theorem Ch.get {a : Addr} {A : Cell} {U : State} (h : Ch a A U) {i : Nat} (hi : i < A.slots.size) : A.slots[i]? = some (.int (cv A i)) := by
  have e := Array.getElem?_eq_getElem hi
  have f := h.2 i _ e
  unfold cv; rw [e]
  generalize A.slots[i] = v at f
  cases v <;> simp [fits] at f ⊢
/-- the byte that i2b leaves of a char -/
def lo8 (x : Int32) : Int32 := x.toInt8.toInt32
theorem fits_lo8 (y : Int32) : fits .byte (.int (lo8 y)) = true := by
  have h1 := y.toInt8.le_toInt
  have h2 := y.toInt8.toInt_lt
  simp only [lo8, fits, Bool.and_eq_true, decide_eq_true_eq, Int32.le_iff_toInt_le, Int8.toInt_toInt32, show (-128 : Int32).toInt = -128 from by decide, show (127 : Int32).toInt = 127 from by decide]
  omega
/-- A' is A but that each place j of lo .. hi - 1 holds f j -/
def Laid (A A' : Cell) (lo hi : Nat) (f : Nat → Value) : Prop := A'.cls = A.cls ∧ A'.vm = A.vm ∧ A'.slots.size = A.slots.size ∧ ∀ i, A'.slots[i]? = if lo ≤ i ∧ i < hi then some (f i) else A.slots[i]?
theorem Laid.zero (A : Cell) (lo : Nat) (f : Nat → Value) : Laid A A lo (lo + 0) f := ⟨rfl, rfl, rfl, fun i => by rw [if_neg (by omega)]⟩
theorem Laid.step {A Ak : Cell} {lo k : Nat} {f : Nat → Value} {v : Value} (h : Laid A Ak lo k f) (hlo : lo ≤ k) (hk : k < Ak.slots.size) (hv : v = f k) : Laid A (Ak.setSlot k v) lo (k + 1) f := by
  refine ⟨h.1, h.2.1, by simpa [Cell.setSlot] using h.2.2.1, fun i => ?_⟩
  by_cases e : k = i
  · subst e; rw [Cell.slots_setSlot_self v hk, if_pos (by omega), hv]
  · rw [Cell.slots_setSlot_ne v e, h.2.2.2 i]
    by_cases q : lo ≤ i ∧ i < k
    · rw [if_pos q, if_pos (by omega)]
    · rw [if_neg q, if_neg (by omega)]
def U16 : String := "java/lang/StringUTF16"
namespace Cmp5
def yN : MethodName := ⟨"java/lang/StringUTF16", "compress", "([CI[BII)I"⟩
abbrev yB : ByteArray := jdk_52_method_21_code
theorem d0 : decode yB 0 = .ok (.iconst 0, 1) := by decide +kernel
theorem d1 : decode yB 1 = .ok (.istore 5, 2) := by decide +kernel
theorem d3 : decode yB 3 = .ok (.iload 5, 2) := by decide +kernel
theorem d5 : decode yB 5 = .ok (.iload 4, 2) := by decide +kernel
theorem d7 : decode yB 7 = .ok (.if_icmp (.ge) 37, 3) := by decide +kernel
theorem d10 : decode yB 10 = .ok (.aload_n 0, 1) := by decide +kernel
theorem d11 : decode yB 11 = .ok (.iload_n 1, 1) := by decide +kernel
theorem d12 : decode yB 12 = .ok (.caload, 1) := by decide +kernel
theorem d13 : decode yB 13 = .ok (.istore 6, 2) := by decide +kernel
theorem d15 : decode yB 15 = .ok (.iload 6, 2) := by decide +kernel
theorem d17 : decode yB 17 = .ok (.sipush 255, 3) := by decide +kernel
theorem d20 : decode yB 20 = .ok (.if_icmp (.le) 6, 3) := by decide +kernel
theorem d26 : decode yB 26 = .ok (.aload_n 2, 1) := by decide +kernel
theorem d27 : decode yB 27 = .ok (.iload_n 3, 1) := by decide +kernel
theorem d28 : decode yB 28 = .ok (.iload 6, 2) := by decide +kernel
theorem d30 : decode yB 30 = .ok (.i2b, 1) := by decide +kernel
theorem d31 : decode yB 31 = .ok (.bastore, 1) := by decide +kernel
theorem d32 : decode yB 32 = .ok (.iinc 1 1, 3) := by decide +kernel
theorem d35 : decode yB 35 = .ok (.iinc 3 1, 3) := by decide +kernel
theorem d38 : decode yB 38 = .ok (.iinc 5 1, 3) := by decide +kernel
theorem d41 : decode yB 41 = .ok (.goto (-38), 3) := by decide +kernel
theorem d44 : decode yB 44 = .ok (.iload 4, 2) := by decide +kernel
theorem d46 : decode yB 46 = .ok (.ireturn, 1) := by decide +kernel
def site : List Cond := []
def tab : Cond := tabOf yN yB 7 (some .int) site
def P (b : Addr) (A : Cell) (d : Addr) (B : Cell) (o q len : Nat) (args : Array Value) (s : State) : Prop := args = #[.ref b, .int (Int32.ofNat o), .ref d, .int (Int32.ofNat q), .int (Int32.ofNat len)] ∧ Ch b A s ∧ Arr .byte d B s ∧ b ≠ d ∧ o + len ≤ A.slots.size ∧ q + len ≤ B.slots.size ∧ ∀ i, i < len → ¬ 255 < cv A (o + i)
def E (b : Addr) (A : Cell) (d : Addr) (B : Cell) (o q len : Nat) (r : Option Value) (s u : State) : Prop := r = some (.int (Int32.ofNat len)) ∧ ∃ B', Put d B' s u ∧ Laid B B' q (q + len) (fun j => Value.int (lo8 (cv A (o + (j - q)))))
/-- no char of the range above 255: len; the places written hold each char's low byte -/
theorem law (l : Launch) (b : Addr) (A : Cell) (d : Addr) (B : Cell) (o q len : Nat) : Law l yN 5 5 0 0 yB 7 (some .int) site (P b A d B o q len) (E b A d B o q len) (copyLocs d q len) 0 0 := by
  refine Law.of_walk (plainFor_of_name (by decide +kernel)) (by decide +kernel) (by decide +kernel) (by decide) (fun _ _ h => by rw [h.1]; rfl) (fun _ U U' hal hh h => ⟨h.1, h.2.1.mv hal hh, h.2.2.1.mv hal hh, h.2.2.2⟩) (fun r U U' V V' h1 hal h2 h => ⟨h.1, h.2.elim fun B' q => ⟨B', q.1.mv h1 h2, q.2⟩⟩) ?_
  intro p e s m args below meth c s₁ X0 hexec hbytes hml hret hlk hnm hown hh0 W hP
  obtain ⟨rfl, hA, hB, hne, l1, l2, hp⟩ := hP
  have c1 : Steps p.tables e below (s₁.setTop (entryFrame m #[.ref b, .int (Int32.ofNat o), .ref d, .int (Int32.ofNat q), .int (Int32.ofNat len)] 7)) (s₁.setTop (mkF m 0 #[.val (.ref b), .val (.int (Int32.ofNat o)), .val (.ref d), .val (.int (Int32.ofNat q)), .val (.int (Int32.ofNat len)), .unset, .unset] [])) := entry rfl
  have hA0 := hA.1.mv X0.warmed.alike hh0
  have hB0 := hB.mv X0.warmed.alike hh0
  have a31 := hA.1.2.2.2
  have c2 : Steps p.tables e below (s₁.setTop (entryFrame m #[.ref b, .int (Int32.ofNat o), .ref d, .int (Int32.ofNat q), .int (Int32.ofNat len)] 7)) (s₁.setTop (mkF m 3 #[.val (.ref b), .val (.int (Int32.ofNat o)), .val (.ref d), .val (.int (Int32.ofNat q)), .val (.int (Int32.ofNat len)), .val (.int 0), .unset] [])) := c1.trans (by
    refine iconstV X0.here hexec rfl 0 (hb hbytes d0) (by decide) ?_
    refine XS.istore X0.here hexec rfl (hb hbytes d1) rfl rfl ?_
    exact Steps.refl _)
  have loop : ∀ (r i : Nat), i + r = len → ∀ (z : Slot), (z = .unset ∨ ∃ w, z = .val w ∧ w.category = 1) → ∀ (Tl : State) (Bk : Cell), Stand p l e { frames := 0, locals := 0, cells := 0, slots := 0 } s m #[.ref b, .int (Int32.ofNat o), .ref d, .int (Int32.ofNat q), .int (Int32.ofNat len)] below meth c Tl ([] ++ copyLocs d q i) 0 0 → Put d Bk s₁ Tl → Laid B Bk q (q + i) (fun j => Value.int (lo8 (cv A (o + (j - q))))) →
      Steps p.tables e below (s₁.setTop (entryFrame m #[.ref b, .int (Int32.ofNat o), .ref d, .int (Int32.ofNat q), .int (Int32.ofNat len)] 7)) (Tl.setTop (mkF m 3 #[.val (.ref b), .val (.int (Int32.ofNat (o + i))), .val (.ref d), .val (.int (Int32.ofNat (q + i))), .val (.int (Int32.ofNat len)), .val (.int (Int32.ofNat i)), z] [])) → ∃ (T' : State) (B' : Cell) (z' : Slot), Stand p l e { frames := 0, locals := 0, cells := 0, slots := 0 } s m #[.ref b, .int (Int32.ofNat o), .ref d, .int (Int32.ofNat q), .int (Int32.ofNat len)] below meth c T' ([] ++ copyLocs d q len) 0 0 ∧ Put d B' s₁ T' ∧ Laid B B' q (q + len) (fun j => Value.int (lo8 (cv A (o + (j - q))))) ∧
      Steps p.tables e below (s₁.setTop (entryFrame m #[.ref b, .int (Int32.ofNat o), .ref d, .int (Int32.ofNat q), .int (Int32.ofNat len)] 7)) (T'.setTop (mkF m 3 #[.val (.ref b), .val (.int (Int32.ofNat (o + len))), .val (.ref d), .val (.int (Int32.ofNat (q + len))), .val (.int (Int32.ofNat len)), .val (.int (Int32.ofNat len)), z'] [])) := by
    intro r
    induction r with
    | zero =>
      intro i hi z hz Tl Bk Xl pl fl cl
      have hil : i = len := by omega
      rw [hil] at Xl fl cl
      exact ⟨Tl, Bk, z, Xl, pl, fl, cl⟩
    | succ r ih =>
      intro i hi z hz Tl Bk Xl pl fl cl
      have all := X0.warmed.alike.symm.trans Xl.warmed.alike
      have hAl := hA0.keep all (pl.other hne hA0.1)
      have hBk := hB0.like all pl.1 fl.1 fl.2.1 fl.2.2.1
      have hlt : q + i < Bk.slots.size := by rw [fl.2.2.1]; omega
      have c3 : Steps p.tables e below (s₁.setTop (entryFrame m #[.ref b, .int (Int32.ofNat o), .ref d, .int (Int32.ofNat q), .int (Int32.ofNat len)] 7)) (Tl.setTop (mkF m 12 #[.val (.ref b), .val (.int (Int32.ofNat (o + i))), .val (.ref d), .val (.int (Int32.ofNat (q + i))), .val (.int (Int32.ofNat len)), .val (.int (Int32.ofNat i)), z] [.int (Int32.ofNat (o + i)), .ref b])) := cl.trans (by
        refine XS.iload Xl.here hexec rfl (hb hbytes d3) rfl ?_
        refine XS.iload Xl.here hexec rfl (hb hbytes d5) rfl ?_
        refine XS.icmpNo Xl.here hexec rfl (hb hbytes d7) rfl (ii_ge_f (lt32 (by omega) (by omega))) ?_
        refine XS.aloadN Xl.here hexec rfl (hb hbytes d10) rfl rfl ?_
        refine XS.iloadN Xl.here hexec rfl (hb hbytes d11) rfl ?_
        exact Steps.refl _)
      have c4 : Steps p.tables e below (s₁.setTop (entryFrame m #[.ref b, .int (Int32.ofNat o), .ref d, .int (Int32.ofNat q), .int (Int32.ofNat len)] 7)) (Tl.setTop (mkF m 13 #[.val (.ref b), .val (.int (Int32.ofNat (o + i))), .val (.ref d), .val (.int (Int32.ofNat (q + i))), .val (.int (Int32.ofNat len)), .val (.int (Int32.ofNat i)), z] [.int (cv A (o + i))])) := c3.trans (by
        refine Xl.aget hexec hAl rfl (hA.get (i := o + i) (by omega)) rfl rfl (hb hbytes d12) ?_
        exact Steps.refl _)
      have c5 : Steps p.tables e below (s₁.setTop (entryFrame m #[.ref b, .int (Int32.ofNat o), .ref d, .int (Int32.ofNat q), .int (Int32.ofNat len)] 7)) (Tl.setTop (mkF m 15 #[.val (.ref b), .val (.int (Int32.ofNat (o + i))), .val (.ref d), .val (.int (Int32.ofNat (q + i))), .val (.int (Int32.ofNat len)), .val (.int (Int32.ofNat i)), .val (.int (cv A (o + i)))] [])) := c4.trans (by
        refine XS.istoreS Xl.here hexec rfl (hb hbytes d13) rfl rfl hz ?_
        exact Steps.refl _)
      have c6 : Steps p.tables e below (s₁.setTop (entryFrame m #[.ref b, .int (Int32.ofNat o), .ref d, .int (Int32.ofNat q), .int (Int32.ofNat len)] 7)) (Tl.setTop (mkF m 31 #[.val (.ref b), .val (.int (Int32.ofNat (o + i))), .val (.ref d), .val (.int (Int32.ofNat (q + i))), .val (.int (Int32.ofNat len)), .val (.int (Int32.ofNat i)), .val (.int (cv A (o + i)))] [.int (lo8 (cv A (o + i))), .int (Int32.ofNat (q + i)), .ref d])) := c5.trans (by
        refine XS.iload Xl.here hexec rfl (hb hbytes d15) rfl ?_
        refine sipushV Xl.here hexec rfl 255 (hb hbytes d17) (by decide) ?_
        refine XS.icmpYes Xl.here hexec rfl (pc0 := 20) rfl (hb hbytes d20) rfl (ii_le_t (hp i (by omega))) (by decide) rfl ?_
        refine XS.aloadN Xl.here hexec rfl (hb hbytes d26) rfl rfl ?_
        refine XS.iloadN Xl.here hexec rfl (hb hbytes d27) rfl ?_
        refine XS.iload Xl.here hexec rfl (hb hbytes d28) rfl ?_
        refine i2b Xl.here hexec rfl (hb hbytes d30) rfl ?_
        exact Steps.refl _)
      obtain ⟨T7, X7, p7, st7⟩ := Xl.aput hexec hBk rfl hlt rfl (fits_lo8 (cv A (o + i))) (g := (mkF m 31 #[.val (.ref b), .val (.int (Int32.ofNat (o + i))), .val (.ref d), .val (.int (Int32.ofNat (q + i))), .val (.int (Int32.ofNat len)), .val (.int (Int32.ofNat i)), .val (.int (cv A (o + i)))] [.int (lo8 (cv A (o + i))), .int (Int32.ofNat (q + i)), .ref d])) rfl (rest := []) rfl (hb hbytes d31)
      have c8 : Steps p.tables e below (s₁.setTop (entryFrame m #[.ref b, .int (Int32.ofNat o), .ref d, .int (Int32.ofNat q), .int (Int32.ofNat len)] 7)) (T7.setTop (mkF m 32 #[.val (.ref b), .val (.int (Int32.ofNat (o + i))), .val (.ref d), .val (.int (Int32.ofNat (q + i))), .val (.int (Int32.ofNat len)), .val (.int (Int32.ofNat i)), .val (.int (cv A (o + i)))] [])) := c6.trans (st7 _ (Steps.refl _))
      have c9 : Steps p.tables e below (s₁.setTop (entryFrame m #[.ref b, .int (Int32.ofNat o), .ref d, .int (Int32.ofNat q), .int (Int32.ofNat len)] 7)) (T7.setTop (mkF m 3 #[.val (.ref b), .val (.int (Int32.ofNat (o + i) + 1)), .val (.ref d), .val (.int (Int32.ofNat (q + i) + 1)), .val (.int (Int32.ofNat len)), .val (.int (Int32.ofNat i + 1)), .val (.int (cv A (o + i)))] [])) := c8.trans (by
        refine iincV X7.here hexec rfl 1 (hb hbytes d32) (by decide) rfl rfl ?_
        refine iincV X7.here hexec rfl 1 (hb hbytes d35) (by decide) rfl rfl ?_
        refine iincV X7.here hexec rfl 1 (hb hbytes d38) (by decide) rfl rfl ?_
        refine XS.goto X7.here hexec rfl (pc0 := 41) rfl (hb hbytes d41) (by decide) rfl ?_
        exact Steps.refl _)
      have c10 : Steps p.tables e below (s₁.setTop (entryFrame m #[.ref b, .int (Int32.ofNat o), .ref d, .int (Int32.ofNat q), .int (Int32.ofNat len)] 7)) (T7.setTop (mkF m 3 #[.val (.ref b), .val (.int (Int32.ofNat (o + (i + 1)))), .val (.ref d), .val (.int (Int32.ofNat (q + (i + 1)))), .val (.int (Int32.ofNat len)), .val (.int (Int32.ofNat (i + 1))), .val (.int (cv A (o + i)))] [])) := by
        have := c9
        rw [succ32, succ32, succ32] at this
        exact this
      exact ih (i + 1) (by omega) _ (Or.inr ⟨_, rfl, rfl⟩) T7 _ (by rw [copyLocs_step, ← List.append_assoc]; exact X7) (pl.trans p7) (fl.step (by omega) hlt (by simp)) c10
  obtain ⟨T9, B9, z9, X9, p9, f9, g9⟩ := loop len 0 (by omega) .unset (Or.inl rfl) s₁ B (by simpa [copyLocs] using X0) ⟨hB0.1, fun _ _ => rfl, rfl⟩ (Laid.zero _ _ _) c2
  have c11 : Steps p.tables e below (s₁.setTop (entryFrame m #[.ref b, .int (Int32.ofNat o), .ref d, .int (Int32.ofNat q), .int (Int32.ofNat len)] 7)) (T9.setTop (mkF m 46 #[.val (.ref b), .val (.int (Int32.ofNat (o + len))), .val (.ref d), .val (.int (Int32.ofNat (q + len))), .val (.int (Int32.ofNat len)), .val (.int (Int32.ofNat len)), z9] [.int (Int32.ofNat len)])) := g9.trans (by
    refine XS.iload X9.here hexec rfl (hb hbytes d3) rfl ?_
    refine XS.iload X9.here hexec rfl (hb hbytes d5) rfl ?_
    refine XS.icmpYes X9.here hexec rfl (pc0 := 7) rfl (hb hbytes d7) rfl (ii_ge_t (nlt32 (by omega) (Nat.le_refl _))) (by decide) rfl ?_
    refine XS.iload X9.here hexec rfl (hb hbytes d44) rfl ?_
    exact Steps.refl _)
  exact ⟨T9, some (.int (Int32.ofNat len)), _, _, _, X9, by simp, rfl, rfl, (fun h => by cases h), ⟨rfl, B9, p9.from hh0, f9⟩, fun fs hl => c11.trans (X9.ireturnOut hexec hret rfl (Or.inl rfl) (hb hbytes d46) hl)⟩
end Cmp5
namespace Cmp3
def yN : MethodName := ⟨"java/lang/StringUTF16", "compress", "([CII)[B"⟩
abbrev yB : ByteArray := jdk_52_method_16_code
theorem d0 : decode yB 0 = .ok (.iload_n 2, 1) := by decide +kernel
theorem d1 : decode yB 1 = .ok (.newarray .byte, 2) := by decide +kernel
theorem d3 : decode yB 3 = .ok (.astore_n 3, 1) := by decide +kernel
theorem d4 : decode yB 4 = .ok (.aload_n 0, 1) := by decide +kernel
theorem d5 : decode yB 5 = .ok (.iload_n 1, 1) := by decide +kernel
theorem d6 : decode yB 6 = .ok (.aload_n 3, 1) := by decide +kernel
theorem d7 : decode yB 7 = .ok (.iconst 0, 1) := by decide +kernel
theorem d8 : decode yB 8 = .ok (.iload_n 2, 1) := by decide +kernel
theorem d9 : decode yB 9 = .ok (.invokestatic 115, 3) := by decide +kernel
theorem d12 : decode yB 12 = .ok (.istore 4, 2) := by decide +kernel
theorem d14 : decode yB 14 = .ok (.iload 4, 2) := by decide +kernel
theorem d16 : decode yB 16 = .ok (.iload_n 2, 1) := by decide +kernel
theorem d17 : decode yB 17 = .ok (.if_icmp (.eq) 40, 3) := by decide +kernel
theorem d57 : decode yB 57 = .ok (.aload_n 3, 1) := by decide +kernel
theorem d58 : decode yB 58 = .ok (.areturn, 1) := by decide +kernel
def site : List Cond := [.arrayClass .byte, Cmp5.tab] ++ staticW U16 115 Cmp5.yN
def tab : Cond := tabOf yN yB 6 (some (.array .byte)) site
def P (b : Addr) (A : Cell) (o len : Nat) (args : Array Value) (s : State) : Prop := args = #[.ref b, .int (Int32.ofNat o), .int (Int32.ofNat len)] ∧ Ch b A s ∧ o + len ≤ A.slots.size ∧ len ≤ 536870912 ∧ ∀ i, i < len → ¬ 255 < cv A (o + i)
def E (b : Addr) (A : Cell) (o len : Nat) (r : Option Value) (s u : State) : Prop := NewArr .byte "[B" len (fun j => .int (lo8 (cv A (o + j)))) r s u ∧ u.heap.size = s.heap.size + 1
/-- no char of the range above 255: a new byte[] of their low bytes -/
theorem law (l : Launch) (b : Addr) (A : Cell) (o len : Nat) : Law l yN 3 3 1 18 yB 6 (some (.array .byte)) site (P b A o len) (E b A o len) [] 1 len := by
  refine Law.of_walk (plainFor_of_name (by decide +kernel)) (by decide +kernel) (by decide +kernel) (by decide) (fun _ _ h => by rw [h.1]; rfl) (fun _ U U' hal hh h => ⟨h.1, h.2.1.mv hal hh, h.2.2⟩) (fun r U U' V V' h1 hal h2 h => ⟨NewArr.mv r U U' V V' h1 hal h2 h.1, by rw [h1, h2]; exact h.2⟩) ?_
  intro p e s m args below meth c s₁ X0 hexec hbytes hml hret hlk hnm hown hh0 W hP
  obtain ⟨rfl, hA, l1, l2, hp⟩ := hP
  have a31 := hA.1.2.2.2
  have c1 : Steps p.tables e below (s₁.setTop (entryFrame m #[.ref b, .int (Int32.ofNat o), .int (Int32.ofNat len)] 6)) (s₁.setTop (mkF m 0 #[.val (.ref b), .val (.int (Int32.ofNat o)), .val (.int (Int32.ofNat len)), .unset, .unset, .unset] [])) := entry rfl
  have c2 : Steps p.tables e below (s₁.setTop (entryFrame m #[.ref b, .int (Int32.ofNat o), .int (Int32.ofNat len)] 6)) (s₁.setTop (mkF m 1 #[.val (.ref b), .val (.int (Int32.ofNat o)), .val (.int (Int32.ofNat len)), .unset, .unset, .unset] [.int (Int32.ofNat len)])) := c1.trans (by
    refine XS.iloadN X0.here hexec rfl (hb hbytes d0) rfl ?_
    exact Steps.refl _)
  obtain ⟨T3, B3, X3, ba3, bs3, bv3, bh3, bf3, st3⟩ := X0.anew hexec (atype := .byte) (wk W (.arrayClass .byte)) rfl (by show len * 1 ≤ _; omega) (by omega) (g := (mkF m 1 #[.val (.ref b), .val (.int (Int32.ofNat o)), .val (.int (Int32.ofNat len)), .unset, .unset, .unset] [.int (Int32.ofNat len)])) rfl (hb hbytes d1) (rest := []) rfl (Nat.le_refl _) (by show 0 + len ≤ len; omega)
  rw [hh0] at ba3 st3
  have kp3 : XT.Kept s T3 := (XT.Kept.of_eq hh0).push bh3
  have hA3 := hA.keep X3.warmed.alike (kp3 _ _ hA.1.1)
  have hne : b ≠ s.heap.size := hA.1.ne
  have c4 : Steps p.tables e below (s₁.setTop (entryFrame m #[.ref b, .int (Int32.ofNat o), .int (Int32.ofNat len)] 6)) (T3.setTop (mkF m 3 #[.val (.ref b), .val (.int (Int32.ofNat o)), .val (.int (Int32.ofNat len)), .unset, .unset, .unset] [.ref s.heap.size])) := c2.trans (st3 _ (Steps.refl _))
  have c5 : Steps p.tables e below (s₁.setTop (entryFrame m #[.ref b, .int (Int32.ofNat o), .int (Int32.ofNat len)] 6)) (T3.setTop (mkF m 9 #[.val (.ref b), .val (.int (Int32.ofNat o)), .val (.int (Int32.ofNat len)), .val (.ref s.heap.size), .unset, .unset] [.int (Int32.ofNat len), .int 0, .ref s.heap.size, .int (Int32.ofNat o), .ref b])) := c4.trans (by
    refine XS.astoreN X3.here hexec rfl (hb hbytes d3) rfl rfl rfl ?_
    refine XS.aloadN X3.here hexec rfl (hb hbytes d4) rfl rfl ?_
    refine XS.iloadN X3.here hexec rfl (hb hbytes d5) rfl ?_
    refine XS.aloadN X3.here hexec rfl (hb hbytes d6) rfl rfl ?_
    refine iconstV X3.here hexec rfl 0 (hb hbytes d7) (by decide) ?_
    refine XS.iloadN X3.here hexec rfl (hb hbytes d8) rfl ?_
    exact Steps.refl _)
  obtain ⟨v6, T6, X6, E6, g6⟩ := X3.callS hexec (Cmp5.law l b A s.heap.size B3 o 0 len) hown (wks W (staticW U16 115 Cmp5.yN)) (wk W Cmp5.tab) (W := 0) (Nat.le_of_ble_eq_true rfl) (Nat.le_of_ble_eq_true rfl) (Nat.le_refl _) (by show 0 + len + 0 ≤ len; omega) (g := (mkF m 9 #[.val (.ref b), .val (.int (Int32.ofNat o)), .val (.int (Int32.ofNat len)), .val (.ref s.heap.size), .unset, .unset] [.int (Int32.ofNat len), .int (Int32.ofNat 0), .ref s.heap.size, .int (Int32.ofNat o), .ref b])) rfl (by rw [hml]; rfl) c5 (argsL := [.ref b, .int (Int32.ofNat o), .ref s.heap.size, .int (Int32.ofNat 0), .int (Int32.ofNat len)]) (rest := []) rfl rfl (by show 2 * 0 + 0 ≤ _; decide) (hb hbytes d9) (⟨rfl, hA3, ba3, hne, l1, by rw [bs3]; simp, hp⟩)
  obtain ⟨rfl, B6, p6, f6⟩ := E6
  have c7 : Steps p.tables e below (s₁.setTop (entryFrame m #[.ref b, .int (Int32.ofNat o), .int (Int32.ofNat len)] 6)) (T6.setTop (mkF m 12 #[.val (.ref b), .val (.int (Int32.ofNat o)), .val (.int (Int32.ofNat len)), .val (.ref s.heap.size), .unset, .unset] [.int (Int32.ofNat len)])) := g6
  have c8 : Steps p.tables e below (s₁.setTop (entryFrame m #[.ref b, .int (Int32.ofNat o), .int (Int32.ofNat len)] 6)) (T6.setTop (mkF m 58 #[.val (.ref b), .val (.int (Int32.ofNat o)), .val (.int (Int32.ofNat len)), .val (.ref s.heap.size), .val (.int (Int32.ofNat len)), .unset] [.ref s.heap.size])) := c7.trans (by
    refine XS.istore X6.here hexec rfl (hb hbytes d12) rfl rfl ?_
    refine XS.iload X6.here hexec rfl (hb hbytes d14) rfl ?_
    refine XS.iloadN X6.here hexec rfl (hb hbytes d16) rfl ?_
    refine XS.icmpYes X6.here hexec rfl (pc0 := 17) rfl (hb hbytes d17) rfl (ii_eq_t rfl) (by decide) rfl ?_
    refine XS.aloadN X6.here hexec rfl (hb hbytes d57) rfl rfl ?_
    exact Steps.refl _)
  have X8 := X6.wide (L' := []) (cells' := 1) (slots' := len) (fun x hx hlt => by
    simp only [List.nil_append, copyLocs, List.mem_map, List.mem_range] at hx
    obtain ⟨i, -, rfl⟩ := hx
    exact absurd hlt (Nat.lt_irrefl _)) (Nat.le_refl _) (by omega)
  exact ⟨T6, some (.ref s.heap.size), _, _, _, X8, rfl, rfl, rfl, (fun h => by cases h), ⟨⟨rfl, B6, ba3.like (X3.warmed.alike.symm.trans X6.warmed.alike) p6.1 f6.1 f6.2.1 f6.2.2.1, f6.2.1.trans bv3, by rw [X6.warmed.alike.findClass, f6.1]; exact bf3, by rw [f6.2.2.1, bs3]; simp, fun j hj => by rw [f6.2.2.2 j, if_pos (by omega)]; rfl, kp3.put p6 (Nat.le_refl _)⟩, by rw [p6.2.2, bh3, hh0]; simp⟩, fun fs hl => c8.trans (X8.areturnOut hexec rfl hret rfl (hb hbytes d58) hl)⟩
end Cmp3
namespace CodL
def yN : MethodName := ⟨"java/lang/StringUTF16", "coderFromArrayLen", "([BI)B"⟩
abbrev yB : ByteArray := jdk_52_method_15_code
theorem d0 : decode yB 0 = .ok (.iload_n 1, 1) := by decide +kernel
theorem d1 : decode yB 1 = .ok (.aload_n 0, 1) := by decide +kernel
theorem d2 : decode yB 2 = .ok (.arraylength, 1) := by decide +kernel
theorem d3 : decode yB 3 = .ok (.isub, 1) := by decide +kernel
theorem d4 : decode yB 4 = .ok (.bipush 31, 2) := by decide +kernel
theorem d6 : decode yB 6 = .ok (.iushr, 1) := by decide +kernel
theorem d7 : decode yB 7 = .ok (.i2b, 1) := by decide +kernel
theorem d8 : decode yB 8 = .ok (.ireturn, 1) := by decide +kernel
def site : List Cond := []
def tab : Cond := tabOf yN yB 2 (some .byte) site
def P (d : Addr) (B : Cell) (args : Array Value) (s : State) : Prop := args = #[.ref d, .int (Int32.ofNat B.slots.size)] ∧ Arr .byte d B s
def E (r : Option Value) (s u : State) : Prop := XT.PureE (some (.int 0)) r s u
/-- an array as long as the number of chars: LATIN1 -/
theorem law (l : Launch) (d : Addr) (B : Cell) : Law l yN 2 2 0 0 yB 2 (some .byte) site (P d B) E [] 0 0 := by
  refine Law.of_walk (plainFor_of_name (by decide +kernel)) (by decide +kernel) (by decide +kernel) (by decide) (fun _ _ h => by rw [h.1]; rfl) (fun _ U U' hal hh h => ⟨h.1, h.2.mv hal hh⟩) (fun r U U' V V' h1 hal h2 h => XT.PureE.mv r U U' V V' h1 hal h2 h) ?_
  intro p e s m args below meth c s₁ X0 hexec hbytes hml hret hlk hnm hown hh0 W hP
  obtain ⟨rfl, hB⟩ := hP
  have hB0 := hB.mv X0.warmed.alike hh0
  have c1 : Steps p.tables e below (s₁.setTop (entryFrame m #[.ref d, .int (Int32.ofNat B.slots.size)] 2)) (s₁.setTop (mkF m 0 #[.val (.ref d), .val (.int (Int32.ofNat B.slots.size))] [])) := entry rfl
  have c2 : Steps p.tables e below (s₁.setTop (entryFrame m #[.ref d, .int (Int32.ofNat B.slots.size)] 2)) (s₁.setTop (mkF m 2 #[.val (.ref d), .val (.int (Int32.ofNat B.slots.size))] [.ref d, .int (Int32.ofNat B.slots.size)])) := c1.trans (by
    refine XS.iloadN X0.here hexec rfl (hb hbytes d0) rfl ?_
    refine XS.aloadN X0.here hexec rfl (hb hbytes d1) rfl rfl ?_
    exact Steps.refl _)
  have c3 : Steps p.tables e below (s₁.setTop (entryFrame m #[.ref d, .int (Int32.ofNat B.slots.size)] 2)) (s₁.setTop (mkF m 8 #[.val (.ref d), .val (.int (Int32.ofNat B.slots.size))] [.int (lo8 (ushr (Int32.ofNat B.slots.size - Int32.ofNat B.slots.size) 31))])) := c2.trans (by
    refine X0.alen hexec hB0 rfl rfl (hb hbytes d2) ?_
    refine XS.isub X0.here hexec rfl (hb hbytes d3) rfl ?_
    refine bipushV X0.here hexec rfl 31 (hb hbytes d4) (by decide) ?_
    refine iushr X0.here hexec rfl (hb hbytes d6) rfl ?_
    refine i2b X0.here hexec rfl (hb hbytes d7) rfl ?_
    exact Steps.refl _)
  have e0 : lo8 (ushr (Int32.ofNat B.slots.size - Int32.ofNat B.slots.size) 31) = 0 := by rw [Int32.sub_self]; decide
  rw [e0] at c3
  exact ⟨s₁, some (.int 0), _, _, _, X0, rfl, rfl, rfl, (fun h => by cases h), ⟨rfl, hh0⟩, fun fs hl => c3.trans (X0.ireturnOut hexec hret rfl (Or.inr (Or.inr (Or.inl rfl))) (hb hbytes d8) hl)⟩
end CodL
/-- the String at a is Latin-1 over a new byte[] (the heap's one new cell): the low bytes of the len chars of A from o on; every cell but a is kept -/
def Got (a : Addr) (D : Cell) (fV fC : Field) (A : Cell) (o len : Nat) (r : Option Value) (s u : State) : Prop := r = none ∧ ∃ D' V : Cell, Blank "java/lang/String" a D' u ∧ Same D D' [fV.slot, fC.slot] ∧ D'.slots[fV.slot]? = some (.ref s.heap.size) ∧ D'.slots[fC.slot]? = some (.int 0) ∧ Arr .byte s.heap.size V u ∧ V.vm = .none ∧ u.vm.findClass "[B" = some V.cls ∧ V.slots.size = len ∧ (∀ j, j < len → V.slots[j]? = some (.int (lo8 (cv A (o + j))))) ∧ (∀ (y : Addr) (c : Cell), y ≠ a → s.heap[y]? = some c → u.heap[y]? = some c) ∧ u.heap.size = s.heap.size + 1
theorem Got.mv {a : Addr} {D A : Cell} {fV fC : Field} {o len : Nat} : ∀ r (U U' V V' : State), U'.heap = U.heap → V.vm.Alike V'.vm → V'.heap = V.heap → Got a D fV fC A o len r U V → Got a D fV fC A o len r U' V' :=
  fun r U U' V V' h1 hal h2 ⟨e0, D', X, a1, a2, a3, a4, a5, a6, a7, a8, a9, a10, a11⟩ => ⟨e0, D', X, a1.mv hal h2, a2, by rw [h1]; exact a3, a4, by rw [h1]; exact a5.mv hal h2, a6, by rw [hal.findClass]; exact a7, a8, a9, by rw [h1, h2]; exact a10, by rw [h1, h2]; exact a11⟩
namespace New4
def yN : MethodName := ⟨"java/lang/String", "<init>", "([CIILjava/lang/Void;)V"⟩
abbrev yB : ByteArray := jdk_42_method_149_code
theorem d0 : decode yB 0 = .ok (.aload_n 0, 1) := by decide +kernel
theorem d1 : decode yB 1 = .ok (.invokespecial 1, 3) := by decide +kernel
theorem d4 : decode yB 4 = .ok (.iload_n 3, 1) := by decide +kernel
theorem d5 : decode yB 5 = .ok (.ifCond (.ne) 22, 3) := by decide +kernel
theorem d27 : decode yB 27 = .ok (.getstatic 38, 3) := by decide +kernel
theorem d30 : decode yB 30 = .ok (.ifCond (.eq) 28, 3) := by decide +kernel
theorem d33 : decode yB 33 = .ok (.aload_n 1, 1) := by decide +kernel
theorem d34 : decode yB 34 = .ok (.iload_n 2, 1) := by decide +kernel
theorem d35 : decode yB 35 = .ok (.iload_n 3, 1) := by decide +kernel
theorem d36 : decode yB 36 = .ok (.invokestatic 177, 3) := by decide +kernel
theorem d39 : decode yB 39 = .ok (.astore 5, 2) := by decide +kernel
theorem d41 : decode yB 41 = .ok (.aload_n 0, 1) := by decide +kernel
theorem d42 : decode yB 42 = .ok (.aload 5, 2) := by decide +kernel
theorem d44 : decode yB 44 = .ok (.iload_n 3, 1) := by decide +kernel
theorem d45 : decode yB 45 = .ok (.invokestatic 47, 3) := by decide +kernel
theorem d48 : decode yB 48 = .ok (.putfield 15, 3) := by decide +kernel
theorem d51 : decode yB 51 = .ok (.aload_n 0, 1) := by decide +kernel
theorem d52 : decode yB 52 = .ok (.aload 5, 2) := by decide +kernel
theorem d54 : decode yB 54 = .ok (.putfield 9, 3) := by decide +kernel
theorem d57 : decode yB 57 = .ok (.return_, 1) := by decide +kernel
def site : List Cond := [.fieldLink "java/lang/String" 38 "java/lang/String" "COMPACT_STRINGS" "Z", Cmp3.tab, CodL.tab, .laysFinal "java/lang/String" "java/lang/String" "value" "[B", .fieldLink "java/lang/String" 9 "java/lang/String" "value" "[B", .laysFinal "java/lang/String" "java/lang/String" "coder" "B", .fieldLink "java/lang/String" 15 "java/lang/String" "coder" "B"] ++ objW "java/lang/String" 1 ++ staticW "java/lang/String" 177 Cmp3.yN ++ staticW "java/lang/String" 47 CodL.yN
def tab : Cond := tabOf yN yB 6 none site
def P (a : Addr) (D : Cell) (fV fC : Field) (b : Addr) (A : Cell) (z : Int32) (o len : Nat) (args : Array Value) (s : State) : Prop := args = #[.ref a, .ref b, .int (Int32.ofNat o), .int (Int32.ofNat len), .null] ∧ Blank "java/lang/String" a D s ∧ Found "java/lang/String" "value" "[B" fV s ∧ Found "java/lang/String" "coder" "B" fC s ∧ Ch b A s ∧ StaticIs s "java/lang/String" "COMPACT_STRINGS" "Z" (.int z) ∧ ¬ z = 0 ∧ 0 < len ∧ o + len ≤ A.slots.size ∧ len ≤ 536870912 ∧ ∀ i, i < len → ¬ 255 < cv A (o + i)
def E (a : Addr) (D : Cell) (fV fC : Field) (A : Cell) (o len : Nat) (r : Option Value) (s u : State) : Prop := Got a D fV fC A o len r s u
/-- len > 0, no char of the range above 255: a Latin-1 String of their low bytes -/
theorem law (l : Launch) (a : Addr) (D : Cell) (fV fC : Field) (b : Addr) (A : Cell) (z : Int32) (o len : Nat) : Law l yN 5 4 2 35 yB 6 none site (P a D fV fC b A z o len) (E a D fV fC A o len) [⟨a, fC.slot⟩, ⟨a, fV.slot⟩] 1 len := by
  refine Law.of_walk (plainFor_of_name (by decide +kernel)) (by decide +kernel) (by decide +kernel) (by decide) (fun _ _ h => by rw [h.1]; rfl) (fun _ U U' hal hh h => ⟨h.1, h.2.1.mv hal hh, h.2.2.1.al hal, h.2.2.2.1.al hal, h.2.2.2.2.1.mv hal hh, h.2.2.2.2.2.1.there hal hh, h.2.2.2.2.2.2⟩) (fun r U U' V V' h1 hal h2 h => Got.mv r U U' V V' h1 hal h2 h) ?_
  intro p e s m args below meth c s₁ X0 hexec hbytes hml hret hlk hnm hown hh0 W hP
  obtain ⟨rfl, hB, f1, f2, hA, s1, hz, l0, l1, l2, hp⟩ := hP
  have a31 := hA.1.2.2.2
  have c1 : Steps p.tables e below (s₁.setTop (entryFrame m #[.ref a, .ref b, .int (Int32.ofNat o), .int (Int32.ofNat len), .null] 6)) (s₁.setTop (mkF m 0 #[.val (.ref a), .val (.ref b), .val (.int (Int32.ofNat o)), .val (.int (Int32.ofNat len)), .val .null, .unset] [])) := entry rfl
  have c2 : Steps p.tables e below (s₁.setTop (entryFrame m #[.ref a, .ref b, .int (Int32.ofNat o), .int (Int32.ofNat len), .null] 6)) (s₁.setTop (mkF m 1 #[.val (.ref a), .val (.ref b), .val (.int (Int32.ofNat o)), .val (.int (Int32.ofNat len)), .val .null, .unset] [.ref a])) := c1.trans (by
    refine XS.aloadN X0.here hexec rfl (hb hbytes d0) rfl rfl ?_
    exact Steps.refl _)
  obtain ⟨T3, X3, q3, st3⟩ := X0.oinit hexec hown (wks W (objW "java/lang/String" 1)) (g := (mkF m 1 #[.val (.ref a), .val (.ref b), .val (.int (Int32.ofNat o)), .val (.int (Int32.ofNat len)), .val .null, .unset] [.ref a])) rfl (by rw [hml]; rfl) (rest := []) rfl (hb hbytes d1) (W := 0) (by show 2 * 0 + 0 ≤ _; decide) (Nat.le_of_ble_eq_true rfl) (Nat.le_of_ble_eq_true rfl)
  have hh3 := q3.trans hh0
  have c4 : Steps p.tables e below (s₁.setTop (entryFrame m #[.ref a, .ref b, .int (Int32.ofNat o), .int (Int32.ofNat len), .null] 6)) (T3.setTop (mkF m 27 #[.val (.ref a), .val (.ref b), .val (.int (Int32.ofNat o)), .val (.int (Int32.ofNat len)), .val .null, .unset] [])) := (c2.trans (st3 _ (Steps.refl _))).trans (by
    refine XS.iloadN X3.here hexec rfl (hb hbytes d4) rfl ?_
    refine XS.ifYes X3.here hexec rfl (pc0 := 5) rfl (hb hbytes d5) rfl (i0_ne_t (nz32 (by omega) l0)) (by decide) rfl ?_
    exact Steps.refl _)
  obtain ⟨T5, X5, q5, st5⟩ := X3.sget hexec hown (wk W (.fieldLink "java/lang/String" 38 "java/lang/String" "COMPACT_STRINGS" "Z")) s1 (fun _ _ h => by rw [hh3]; exact h) (g := (mkF m 27 #[.val (.ref a), .val (.ref b), .val (.int (Int32.ofNat o)), .val (.int (Int32.ofNat len)), .val .null, .unset] [])) rfl (hb hbytes d27)
  have hh5 := q5.trans hh3
  have c6 : Steps p.tables e below (s₁.setTop (entryFrame m #[.ref a, .ref b, .int (Int32.ofNat o), .int (Int32.ofNat len), .null] 6)) (T5.setTop (mkF m 30 #[.val (.ref a), .val (.ref b), .val (.int (Int32.ofNat o)), .val (.int (Int32.ofNat len)), .val .null, .unset] [.int z])) := c4.trans (st5 _ (Steps.refl _))
  have c7 : Steps p.tables e below (s₁.setTop (entryFrame m #[.ref a, .ref b, .int (Int32.ofNat o), .int (Int32.ofNat len), .null] 6)) (T5.setTop (mkF m 36 #[.val (.ref a), .val (.ref b), .val (.int (Int32.ofNat o)), .val (.int (Int32.ofNat len)), .val .null, .unset] [.int (Int32.ofNat len), .int (Int32.ofNat o), .ref b])) := c6.trans (by
    refine XS.ifNo X5.here hexec rfl (hb hbytes d30) rfl (i0_eq_f hz) ?_
    refine XS.aloadN X5.here hexec rfl (hb hbytes d33) rfl rfl ?_
    refine XS.iloadN X5.here hexec rfl (hb hbytes d34) rfl ?_
    refine XS.iloadN X5.here hexec rfl (hb hbytes d35) rfl ?_
    exact Steps.refl _)
  obtain ⟨v8, T8, X8, E8, g8⟩ := X5.callS hexec (Cmp3.law l b A o len) hown (wks W (staticW "java/lang/String" 177 Cmp3.yN)) (wk W Cmp3.tab) (W := 0) (Nat.le_of_ble_eq_true rfl) (Nat.le_of_ble_eq_true rfl) (Nat.le_refl _) (by show 0 + len ≤ len; omega) (g := (mkF m 36 #[.val (.ref a), .val (.ref b), .val (.int (Int32.ofNat o)), .val (.int (Int32.ofNat len)), .val .null, .unset] [.int (Int32.ofNat len), .int (Int32.ofNat o), .ref b])) rfl (by rw [hml]; rfl) c7 (argsL := [.ref b, .int (Int32.ofNat o), .int (Int32.ofNat len)]) (rest := []) rfl rfl (by show 2 * 0 + 0 ≤ _; decide) (hb hbytes d36) (⟨rfl, hA.mv X5.warmed.alike hh5, l1, l2, hp⟩)
  obtain ⟨e8, z8⟩ := E8
  obtain ⟨rfl, N, n1, n2, n3, n4, n5, n6⟩ := NewArr.mv _ T5 s _ _ hh5.symm (Vm.Alike.refl _) rfl e8
  rw [hh5] at z8
  have hB1 := hB.keep X8.warmed.alike (n6 _ _ hB.1)
  have hne : s.heap.size ≠ a := (Nat.ne_of_lt (Array.getElem?_eq_some_iff.mp hB.1).1).symm
  have c9 : Steps p.tables e below (s₁.setTop (entryFrame m #[.ref a, .ref b, .int (Int32.ofNat o), .int (Int32.ofNat len), .null] 6)) (T8.setTop (mkF m 39 #[.val (.ref a), .val (.ref b), .val (.int (Int32.ofNat o)), .val (.int (Int32.ofNat len)), .val .null, .unset] [.ref s.heap.size])) := g8
  have c10 : Steps p.tables e below (s₁.setTop (entryFrame m #[.ref a, .ref b, .int (Int32.ofNat o), .int (Int32.ofNat len), .null] 6)) (T8.setTop (mkF m 45 #[.val (.ref a), .val (.ref b), .val (.int (Int32.ofNat o)), .val (.int (Int32.ofNat len)), .val .null, .val (.ref s.heap.size)] [.int (Int32.ofNat N.slots.size), .ref s.heap.size, .ref a])) := by
    have hc : Steps p.tables e below (s₁.setTop (entryFrame m #[.ref a, .ref b, .int (Int32.ofNat o), .int (Int32.ofNat len), .null] 6)) (T8.setTop (mkF m 45 #[.val (.ref a), .val (.ref b), .val (.int (Int32.ofNat o)), .val (.int (Int32.ofNat len)), .val .null, .val (.ref s.heap.size)] [.int (Int32.ofNat len), .ref s.heap.size, .ref a])) := c9.trans (by
      refine XS.astore X8.here hexec rfl (hb hbytes d39) rfl rfl rfl ?_
      refine XS.aloadN X8.here hexec rfl (hb hbytes d41) rfl rfl ?_
      refine XS.aload X8.here hexec rfl (hb hbytes d42) rfl rfl ?_
      refine XS.iloadN X8.here hexec rfl (hb hbytes d44) rfl ?_
      exact Steps.refl _)
    rw [n4]; exact hc
  obtain ⟨v11, T11, X11, E11, g11⟩ := X8.callS hexec (CodL.law l s.heap.size N) hown (wks W (staticW "java/lang/String" 47 CodL.yN)) (wk W CodL.tab) (W := 1) (Nat.le_of_ble_eq_true rfl) (Nat.le_of_ble_eq_true rfl) (Nat.le_refl _) (by show 0 + len + 0 ≤ len; omega) (g := (mkF m 45 #[.val (.ref a), .val (.ref b), .val (.int (Int32.ofNat o)), .val (.int (Int32.ofNat len)), .val .null, .val (.ref s.heap.size)] [.int (Int32.ofNat N.slots.size), .ref s.heap.size, .ref a])) rfl (by rw [hml]; rfl) c10 (argsL := [.ref s.heap.size, .int (Int32.ofNat N.slots.size)]) (rest := [.ref a]) rfl rfl (by show 2 * 0 + (1 + 0) ≤ _; decide) (hb hbytes d45) (⟨rfl, n1⟩)
  obtain ⟨rfl, q11⟩ := E11
  have hB11 := hB1.mv (X8.warmed.alike.symm.trans X11.warmed.alike) q11
  have c12 : Steps p.tables e below (s₁.setTop (entryFrame m #[.ref a, .ref b, .int (Int32.ofNat o), .int (Int32.ofNat len), .null] 6)) (T11.setTop (mkF m 48 #[.val (.ref a), .val (.ref b), .val (.int (Int32.ofNat o)), .val (.int (Int32.ofNat len)), .val .null, .val (.ref s.heap.size)] [.int 0, .ref a])) := g11
  obtain ⟨T13, X13, p13, bl13, sl13, st13⟩ := X11.finit hexec hown (wk W (.fieldLink "java/lang/String" 15 "java/lang/String" "coder" "B")) (Or.inr ⟨_, (wk W (.laysFinal "java/lang/String" "java/lang/String" "coder" "B"))⟩) (Or.inl ⟨rfl, hnm⟩) f2 (Or.inl rfl) hB11 (t := .byte) (by decide +kernel) rfl (g := (mkF m 48 #[.val (.ref a), .val (.ref b), .val (.int (Int32.ofNat o)), .val (.int (Int32.ofNat len)), .val .null, .val (.ref s.heap.size)] [.int 0, .ref a])) rfl (rest := []) rfl (hb hbytes d48)
  have c14 : Steps p.tables e below (s₁.setTop (entryFrame m #[.ref a, .ref b, .int (Int32.ofNat o), .int (Int32.ofNat len), .null] 6)) (T13.setTop (mkF m 54 #[.val (.ref a), .val (.ref b), .val (.int (Int32.ofNat o)), .val (.int (Int32.ofNat len)), .val .null, .val (.ref s.heap.size)] [.ref s.heap.size, .ref a])) := (c12.trans (st13 _ (Steps.refl _))).trans (by
    refine XS.aloadN X13.here hexec rfl (hb hbytes d51) rfl rfl ?_
    refine XS.aload X13.here hexec rfl (hb hbytes d52) rfl rfl ?_
    exact Steps.refl _)
  obtain ⟨T15, X15, p15, bl15, sl15, st15⟩ := X13.finit hexec hown (wk W (.fieldLink "java/lang/String" 9 "java/lang/String" "value" "[B")) (Or.inr ⟨_, (wk W (.laysFinal "java/lang/String" "java/lang/String" "value" "[B"))⟩) (Or.inl ⟨rfl, hnm⟩) f1 (Or.inl rfl) bl13 (t := (.array .byte)) (by decide +kernel) rfl (g := (mkF m 54 #[.val (.ref a), .val (.ref b), .val (.int (Int32.ofNat o)), .val (.int (Int32.ofNat len)), .val .null, .val (.ref s.heap.size)] [.ref s.heap.size, .ref a])) rfl (rest := []) rfl (hb hbytes d54)
  have c16 : Steps p.tables e below (s₁.setTop (entryFrame m #[.ref a, .ref b, .int (Int32.ofNat o), .int (Int32.ofNat len), .null] 6)) (T15.setTop (mkF m 57 #[.val (.ref a), .val (.ref b), .val (.int (Int32.ofNat o)), .val (.int (Int32.ofNat len)), .val .null, .val (.ref s.heap.size)] [])) := c14.trans (st15 _ (Steps.refl _))
  have ap := apart (Or.inr ⟨_, (wk W (.laysFinal "java/lang/String" "java/lang/String" "value" "[B"))⟩) (Or.inr ⟨_, (wk W (.laysFinal "java/lang/String" "java/lang/String" "coder" "B"))⟩) f1 f2 (t₁ := .array .byte) (t₂ := .byte) (by decide +kernel) (by decide +kernel) (by decide)
  have al := X8.warmed.alike.symm.trans X15.warmed.alike
  have n7 : T11.heap[s.heap.size]? = some N := by rw [q11]; exact n1.1
  exact ⟨T15, none, _, _, _, X15, by simp, rfl, by omega, (fun _ => rfl), ⟨rfl, _, N, bl15, ((Same.refl D _).set _ (by simp)).set _ (by simp), sl15, (Cell.slots_setSlot_ne _ ap).trans sl13, n1.keep al (p15.other hne (p13.other hne n7)), n2, by rw [al.findClass]; exact n3, n4, n5, fun y c h1 h2 => p15.other h1 (p13.other h1 (by rw [q11]; exact n6 y c h2)), by rw [p15.2.2, p13.2.2, q11]; exact z8⟩, fun fs hl => c16.trans (X15.returnOut hexec hret (hb hbytes d57) hl)⟩
end New4
namespace New1
def yN : MethodName := ⟨"java/lang/String", "<init>", "([C)V"⟩
abbrev yB : ByteArray := jdk_42_method_3_code
theorem d0 : decode yB 0 = .ok (.aload_n 0, 1) := by decide +kernel
theorem d1 : decode yB 1 = .ok (.aload_n 1, 1) := by decide +kernel
theorem d2 : decode yB 2 = .ok (.iconst 0, 1) := by decide +kernel
theorem d3 : decode yB 3 = .ok (.aload_n 1, 1) := by decide +kernel
theorem d4 : decode yB 4 = .ok (.arraylength, 1) := by decide +kernel
theorem d5 : decode yB 5 = .ok (.aconst_null, 1) := by decide +kernel
theorem d6 : decode yB 6 = .ok (.invokespecial 27, 3) := by decide +kernel
theorem d9 : decode yB 9 = .ok (.return_, 1) := by decide +kernel
def site : List Cond := [New4.tab] ++ initW "java/lang/String" 27 New4.yN
def tab : Cond := tabOf yN yB 2 none site
def P (a : Addr) (D : Cell) (fV fC : Field) (b : Addr) (A : Cell) (z : Int32) (args : Array Value) (s : State) : Prop := args = #[.ref a, .ref b] ∧ Blank "java/lang/String" a D s ∧ Found "java/lang/String" "value" "[B" fV s ∧ Found "java/lang/String" "coder" "B" fC s ∧ Ch b A s ∧ StaticIs s "java/lang/String" "COMPACT_STRINGS" "Z" (.int z) ∧ ¬ z = 0 ∧ 0 < A.slots.size ∧ A.slots.size ≤ 536870912 ∧ ∀ i, i < A.slots.size → ¬ 255 < cv A i
def E (a : Addr) (D : Cell) (fV fC : Field) (A : Cell) (r : Option Value) (s u : State) : Prop := Got a D fV fC A 0 A.slots.size r s u
/-- new String(chars), not empty, no char above 255: a Latin-1 String of their low bytes -/
theorem law (l : Launch) (a : Addr) (D : Cell) (fV fC : Field) (b : Addr) (A : Cell) (z : Int32) : Law l yN 2 1 3 52 yB 2 none site (P a D fV fC b A z) (E a D fV fC A) [⟨a, fC.slot⟩, ⟨a, fV.slot⟩] 1 A.slots.size := by
  refine Law.of_walk (plainFor_of_name (by decide +kernel)) (by decide +kernel) (by decide +kernel) (by decide) (fun _ _ h => by rw [h.1]; rfl) (fun _ U U' hal hh h => ⟨h.1, h.2.1.mv hal hh, h.2.2.1.al hal, h.2.2.2.1.al hal, h.2.2.2.2.1.mv hal hh, h.2.2.2.2.2.1.there hal hh, h.2.2.2.2.2.2⟩) (fun r U U' V V' h1 hal h2 h => Got.mv r U U' V V' h1 hal h2 h) ?_
  intro p e s m args below meth c s₁ X0 hexec hbytes hml hret hlk hnm hown hh0 W hP
  obtain ⟨rfl, hB, f1, f2, hA, s1, hz, l0, l2, hp⟩ := hP
  have c1 : Steps p.tables e below (s₁.setTop (entryFrame m #[.ref a, .ref b] 2)) (s₁.setTop (mkF m 0 #[.val (.ref a), .val (.ref b)] [])) := entry rfl
  have c2 : Steps p.tables e below (s₁.setTop (entryFrame m #[.ref a, .ref b] 2)) (s₁.setTop (mkF m 6 #[.val (.ref a), .val (.ref b)] [.null, .int (Int32.ofNat A.slots.size), .int 0, .ref b, .ref a])) := c1.trans (by
    refine XS.aloadN X0.here hexec rfl (hb hbytes d0) rfl rfl ?_
    refine XS.aloadN X0.here hexec rfl (hb hbytes d1) rfl rfl ?_
    refine iconstV X0.here hexec rfl 0 (hb hbytes d2) (by decide) ?_
    refine XS.aloadN X0.here hexec rfl (hb hbytes d3) rfl rfl ?_
    refine X0.alen hexec (hA.1.mv X0.warmed.alike hh0) rfl rfl (hb hbytes d4) ?_
    refine XS.aconstNull X0.here hexec rfl (hb hbytes d5) ?_
    exact Steps.refl _)
  obtain ⟨v3, T3, X3, E3, g3⟩ := X0.callN hexec (New4.law l a D fV fC b A z 0 A.slots.size) rfl hown (wks W (initW "java/lang/String" 27 New4.yN)) (W New4.tab (by simp only [site, List.mem_cons, List.mem_append, true_or, or_true])) (W := 0) (Nat.le_of_ble_eq_true rfl) (Nat.le_of_ble_eq_true rfl) (Nat.le_refl _) (by show 0 + A.slots.size ≤ A.slots.size; omega) (g := (mkF m 6 #[.val (.ref a), .val (.ref b)] [.null, .int (Int32.ofNat A.slots.size), .int (Int32.ofNat 0), .ref b, .ref a])) rfl (by rw [hml]; rfl) c2 (argsL := [.ref b, .int (Int32.ofNat 0), .int (Int32.ofNat A.slots.size), .null]) (rest := []) rfl rfl (by show 2 * 0 + 0 ≤ _; decide) (hb hbytes d6) (⟨rfl, hB.mv X0.warmed.alike hh0, f1.al X0.warmed.alike, f2.al X0.warmed.alike, hA.mv X0.warmed.alike hh0, s1.there X0.warmed.alike hh0, hz, l0, by omega, l2, fun i hi => by rw [Nat.zero_add]; exact hp i hi⟩)
  have e0 := Got.mv _ s₁ s _ _ hh0.symm (Vm.Alike.refl _) rfl E3
  obtain rfl := e0.1
  have c4 : Steps p.tables e below (s₁.setTop (entryFrame m #[.ref a, .ref b] 2)) (T3.setTop (mkF m 9 #[.val (.ref a), .val (.ref b)] [])) := g3
  exact ⟨T3, none, _, _, _, X3, by simp, rfl, by omega, (fun _ => rfl), e0, fun fs hl => c4.trans (X3.returnOut hexec hret (hb hbytes d9) hl)⟩
theorem pays {l : Launch} {R : Room} {p : Program} {e : Env} {below : List Frame} {s : State} {sargs : Array Value} {len W : Nat} (a : Addr) (D : Cell) (fV fC : Field) (b : Addr) (A : Cell) (z : Int32) (htab : tab.before sargs s = true) (hfr : 4 ≤ R.frames) (hlo : W + 65 ≤ R.locals) :
    Back l R p e below s sargs yN len W (fun A₁ a₁ => A₁.cells + 1 ≤ R.cells ∧ A₁.slots + A.slots.size ≤ R.slots ∧ P a D fV fC b A z a₁ A₁.U) (fun A₁ _ v₁ B₁ => E a D fV fC A v₁ A₁.U B₁.U ∧ B₁.locs = A₁.locs ++ [⟨a, fC.slot⟩, ⟨a, fV.slot⟩] ∧ B₁.cells = A₁.cells + 1 ∧ B₁.slots = A₁.slots + A.slots.size) :=
  (law l a D fV fC b A z).pays htab hfr (by omega)
end New1
end StrChars
namespace StrChars.Road
open Jvm Sem ClassFile Op Lib Jvm.Stand Jvm.Free Jvm.Free.XT
open Jvm.Lib.Cold (StaticIs)
abbrev ST : String := "java/lang/String"
/-- every table word that New1's law asks, flat -/
abbrev words : List Jvm.Cond := [.code New1.yN New1.yB 2 none, .initialized ST, .methodLink ST 27 New4.yN, .instanceMethod New4.yN,
  .code New4.yN New4.yB 6 none, .fieldLink ST 38 ST "COMPACT_STRINGS" "Z", .laysFinal ST ST "value" "[B", .fieldLink ST 9 ST "value" "[B", .laysFinal ST ST "coder" "B", .fieldLink ST 15 ST "coder" "B",
  .methodLink ST 1 Lib.objectInit, .instanceMethod Lib.objectInit, .code Lib.objectInit ⟨#[0xb1]⟩ 1 none, .methodLink ST 177 Cmp3.yN, .static Cmp3.yN, .methodLink ST 47 CodL.yN, .static CodL.yN,
  .code Cmp3.yN Cmp3.yB 6 (some (.array .byte)), .initialized U16, .arrayClass .byte, .methodLink U16 115 Cmp5.yN, .static Cmp5.yN, .code Cmp5.yN Cmp5.yB 7 (some .int), .code CodL.yN CodL.yB 2 (some .byte)]
theorem tab_of {a : Array Value} {s : State} (h : ∀ w ∈ words, w.before a s = true) : New1.tab.before a s = true := by
  have h5 : Cmp5.tab.before a s = true := unparts (wk h (.code Cmp5.yN Cmp5.yB 7 (some .int))) (wks h (.initialized Cmp5.yN.cls :: Cmp5.site))
  have hc : CodL.tab.before a s = true := unparts (wk h (.code CodL.yN CodL.yB 2 (some .byte))) (wks h (.initialized CodL.yN.cls :: CodL.site))
  have q5 : ∀ w ∈ Cmp5.tab :: words, w.before a s = true := fun w hw => (List.mem_cons.mp hw).elim (fun e => e ▸ h5) (h w)
  have h3 : Cmp3.tab.before a s = true := unparts (wk q5 (.code Cmp3.yN Cmp3.yB 6 (some (.array .byte)))) (wks q5 (.initialized Cmp3.yN.cls :: Cmp3.site))
  have q3 : ∀ w ∈ Cmp3.tab :: CodL.tab :: words, w.before a s = true := fun w hw => (List.mem_cons.mp hw).elim (fun e => e ▸ h3) fun hw => (List.mem_cons.mp hw).elim (fun e => e ▸ hc) (h w)
  have h4 : New4.tab.before a s = true := unparts (wk q3 (.code New4.yN New4.yB 6 none)) (wks q3 (.initialized New4.yN.cls :: New4.site))
  have q4 : ∀ w ∈ New4.tab :: words, w.before a s = true := fun w hw => (List.mem_cons.mp hw).elim (fun e => e ▸ h4) (h w)
  exact unparts (wk q4 (.code New1.yN New1.yB 2 none)) (wks q4 (.initialized New1.yN.cls :: New1.site))
/-- the words ride from the start Z to the walk's own state -/
theorem moved {Z s : State} {a0 args : Array Value} (hZ : Z.Warmed39 s.vm) (hw : ∀ d ∈ words, d.before a0 Z = true) : ∀ d ∈ words, d.before args s = true := fun d hd => by
  have q := hw d hd
  have t : ∀ d ∈ words, d = .arrayClass .byte ∨ (d.onTables && d.keepsFace) = true := by decide +kernel
  rcases t d hd with rfl | t
  · exact RoadKit.mvA hZ q
  · exact RoadKit.mv hZ q t
/-- WHAT COMES BACK, over the tables of the start Z: h the heap at the call, h' behind it -/
def Q (Z : State) (x : Addr) (A : Cell) (h : Heap) (v : Option Value) (h' : Heap) (L : List Loc) : Prop := v = none ∧ (∀ y ∈ L, y.base = x) ∧ RoadKit.Keep h h' [x] ∧ h'.size = h.size + 1 ∧ RoadKit.Exa Z h' x ST ∧ RoadKit.Fld Z h' x ST "value" "[B" (.ref h.size) ∧ RoadKit.Fld Z h' x ST "coder" "B" (.int 0) ∧
  (∃ V : Cell, RoadKit.Arr Z h' h.size V .byte ∧ V.vm = .none ∧ Z.vm.findClass "[B" = some V.cls ∧ V.slots.size = A.slots.size ∧ ∀ j, j < A.slots.size → V.slots[j]? = some (.int (lo8 (cv A j)))) ∧
  ∀ (O n d : String) (w : Value), RoadKit.Fld Z h x O n d w → RoadKit.slotOf Z O n d ≠ RoadKit.slotOf Z ST "value" "[B" → RoadKit.slotOf Z O n d ≠ RoadKit.slotOf Z ST "coder" "B" → RoadKit.Fld Z h' x O n d w
/-- **new String(chars) AT A CALL, IN THE ROAD'S FORM**: for specialBack behind newO: x the fresh String, b the char[] with the cell A -/
theorem back {p : Program} {l : Launch} {e : Env} {R : Room} {s : State} {args : Array Value} {below : List Frame} {len W : Nat} {Z : State} {a0 : Array Value} {h : Heap} (hZ : Z.Warmed39 s.vm) (hw : ∀ d ∈ words, d.before a0 Z = true) {kI : Nat} (wi : (Jvm.Cond.instantiable ST kI).before a0 Z = true)
    {x b : Addr} {A : Cell} {z : Int32} {v0 c0 : Value} (E : RoadKit.Exa Z h x ST) (V : RoadKit.Fld Z h x ST "value" "[B" v0) (C : RoadKit.Fld Z h x ST "coder" "B" c0) (K : RoadKit.Arr Z h b A .char) (hty : Typed .char A) (S : RoadKit.Sta Z h ST "COMPACT_STRINGS" "Z" (.int z)) (hz : ¬ z = 0)
    (l0 : 0 < A.slots.size) (l2 : A.slots.size ≤ 536870912) (hp : ∀ i, i < A.slots.size → ¬ 255 < cv A i) (hfr : 4 ≤ R.frames) (hlo : W + 65 ≤ R.locals) :
    Back l R p e below s args New1.yN len W (fun P a => a = #[.ref x, .ref b] ∧ P.U.heap = h ∧ P.cells + 1 ≤ R.cells ∧ P.slots + A.slots.size ≤ R.slots)
      (fun P _ v B => ∃ L, Q Z x A h v B.U.heap L ∧ B.locs = P.locs ++ L ∧ B.cells = P.cells + 1 ∧ B.slots = P.slots + A.slots.size) := by
  intro m meth c P g ig mk a X hg hsize hdg hW hn hp'
  obtain ⟨rfl, rfl, r1, r2⟩ := hp'
  have al : Z.vm.Alike P.U.vm := hZ.alike.trans X.warmed.alike
  obtain ⟨D, cfV, kV, iV, fV, hD, gV, stV, knV, obV, asV, slV⟩ := id V
  obtain ⟨D', cfC, kC, iC, fC, hD', gC, stC, -, -, asC, slC⟩ := id C
  cases hD.symm.trans hD'
  obtain ⟨D2, kD, e1, e2, e3, e4, e5⟩ := id E
  cases hD.symm.trans e1
  obtain ⟨c2, k2, i1, i2, i3, -⟩ := Cond.instantiable_spec wi
  cases e2.symm.trans i1
  cases e3.symm.trans i2
  obtain ⟨kU, u1, u2⟩ := al.2.2 _ _ e3
  have hB : Blank ST x D P.U := ⟨hD, ⟨knV, fun q hq => by rw [hq] at obV; cases obV⟩, by rw [al.findClass]; exact e2, kU, u1, by rw [u2]; exact i3, by rw [u2]; exact e5 i3⟩
  have F1 : Found ST "value" "[B" fV P.U := ⟨SBG.found_only al ⟨cfV, kV, iV, gV⟩, stV⟩
  have F2 : Found ST "coder" "B" fC P.U := ⟨SBG.found_only al ⟨cfC, kC, iC, gC⟩, stC⟩
  have hA : Ch b A P.U := ⟨⟨K.1, State.isArrayOf_alike al K.2.1, K.2.2, by omega⟩, hty⟩
  have hS : StaticIs P.U ST "COMPACT_STRINGS" "Z" (.int z) := by
    obtain ⟨cfS, iS, kS, fS, st, cS, t1, t2, t3, t4, t5, t6, t7⟩ := S
    exact StaticIs.there (s := { Z with heap := P.U.heap }) ⟨cfS, iS, kS, fS, st, cS, t1, t2, t3, t4, t5, (fun q => by rw [q] at t6; cases t6), t7⟩ al rfl
  obtain ⟨v, B, X', ⟨⟨hv, E', V', q1, q2, q3, q4, q5, q6, q7, q8, q9, q10, q11⟩, hl, hc, hs⟩, st⟩ := New1.pays x D fV fC b A z (tab_of (moved hZ hw)) hfr hlo m meth c P g ig mk _ X hg hsize hdg hW hn ⟨r1, r2, rfl, hB, F1, F2, hA, hS, hz, l0, l2, hp⟩
  have al' : Z.vm.Alike B.U.vm := hZ.alike.trans X'.warmed.alike
  have hsz : E'.slots.size = D.slots.size := by
    obtain ⟨-, -, -, kB, w1, w2, w3⟩ := q1
    obtain ⟨kB', y1, y2⟩ := al'.2.2 _ _ e3
    rw [q2.2.1] at w1
    cases w1.symm.trans y1
    rw [w3, e5 i3, y2]
  refine ⟨v, B, X', ⟨_, ⟨hv, ?_, ⟨by omega, fun y cy hy hn' => q10 y cy (by simpa using hn') hy, fun y cy hy => ?_⟩, q11, ⟨E', _, q1.1, by rw [q2.2.1]; exact e2, by rw [q2.2.1]; exact e3, by rw [q2.1]; exact obV, fun _ => by rw [hsz]; exact e5 i3⟩,
    ⟨E', cfV, kV, iV, fV, q1.1, gV, stV, by rw [q2.1]; exact knV, by rw [q2.1]; exact obV, by rw [q2.2.1]; exact asV, q3⟩, ⟨E', cfC, kC, iC, fC, q1.1, gC, stC, by rw [q2.1]; exact knV, by rw [q2.1]; exact obV, by rw [q2.2.1]; exact asC, q4⟩,
    ⟨V', ⟨q5.1, State.isArrayOf_alike al'.symm q5.2.1, q5.2.2.1⟩, q6, by rw [← al'.findClass]; exact q7, q8, fun j hj => by have := q9 j hj; rwa [Nat.zero_add] at this⟩, fun O n d w F n1 n2 => ?_⟩, hl, hc, hs⟩, st⟩
  · intro y hy
    simp only [List.mem_cons, List.not_mem_nil, or_false] at hy
    rcases hy with rfl | rfl <;> rfl
  · by_cases q : y = x
    · subst q
      cases hD.symm.trans hy
      exact ⟨E', q1.1, q2.2.1, q2.1, hsz⟩
    · exact ⟨cy, q10 y cy q hy, rfl, rfl, rfl⟩
  · obtain ⟨D3, cf, k, i, f, g1, g2, g3, g4, g5, g6, g7⟩ := F
    cases hD.symm.trans g1
    simp only [RoadKit.slotOf, g2, gV, gC, Option.map_some, Option.getD_some] at n1 n2
    exact ⟨E', cf, k, i, f, q1.1, g2, g3, by rw [q2.1]; exact g4, by rw [q2.1]; exact g5, by rw [q2.2.1]; exact g6, by rw [q2.2.2 f.slot (by simp [n1, n2])]; exact g7⟩
end StrChars.Road
namespace StrChars.Road
open Jvm Sem ClassFile Op Lib Jvm.Stand Jvm.Free Jvm.Free.XT
/-- WHAT COMES BACK, the byte[] as a list of values -/
def QA (Z : State) (x : Addr) (zn : Int32) (cs : List Int32) (h : Heap) (v : Option Value) (h' : Heap) (L : List Loc) : Prop := v = none ∧ (∀ y ∈ L, y.base = x) ∧ RoadKit.Keep h h' [x] ∧ h'.size = h.size + 1 ∧ RoadKit.Exa Z h' x ST ∧ RoadKit.Fld Z h' x ST "value" "[B" (.ref h.size) ∧ RoadKit.Fld Z h' x ST "coder" "B" (.int 0) ∧
  (∃ kb, Z.vm.findClass "[B" = some kb ∧ RoadKit.Arv Z h' h.size kb .byte zn (cs.map fun c => .int (lo8 c)) (.int 0)) ∧
  ∀ (O n d : String) (w : Value), RoadKit.Fld Z h x O n d w → RoadKit.slotOf Z O n d ≠ RoadKit.slotOf Z ST "value" "[B" → RoadKit.slotOf Z O n d ≠ RoadKit.slotOf Z ST "coder" "B" → RoadKit.Fld Z h' x O n d w
/-- **new String(chars) AT A CALL, THE ARRAYS AS LISTS**: the char[] at b holds cs, not empty, no char above 255 -/
theorem backArv {p : Program} {l : Launch} {e : Env} {R : Room} {s : State} {args : Array Value} {below : List Frame} {len W : Nat} {Z : State} {a0 : Array Value} {h : Heap} (hZ : Z.Warmed39 s.vm) (hw : ∀ d ∈ words, d.before a0 Z = true) {kI : Nat} (wi : (Jvm.Cond.instantiable ST kI).before a0 Z = true)
    {x b : Addr} {k : ClassId} {zn z : Int32} {cs : List Int32} {dv v0 c0 : Value} (E : RoadKit.Exa Z h x ST) (V : RoadKit.Fld Z h x ST "value" "[B" v0) (C : RoadKit.Fld Z h x ST "coder" "B" c0) (K : RoadKit.Arv Z h b k .char zn (cs.map Value.int) dv) (S : RoadKit.Sta Z h ST "COMPACT_STRINGS" "Z" (.int z)) (hz : ¬ z = 0)
    (hlen : zn.toNatClampNeg = cs.length) (h0 : 0 < cs.length) (hbig : cs.length ≤ 536870912) (hall : ∀ c ∈ cs, ¬ 255 < c) (hfr : 4 ≤ R.frames) (hlo : W + 65 ≤ R.locals) :
    Back l R p e below s args New1.yN len W (fun P a => a = #[.ref x, .ref b] ∧ P.U.heap = h ∧ P.cells + 1 ≤ R.cells ∧ P.slots + cs.length ≤ R.slots)
      (fun P _ v B => ∃ L, QA Z x zn cs h v B.U.heap L ∧ B.locs = P.locs ++ L ∧ B.cells = P.cells + 1 ∧ B.slots = P.slots + cs.length) := by
  obtain ⟨A, K1, K2, K3, K4, K5, K6⟩ := K
  have e : A.slots.size = cs.length := K3.trans hlen
  have hat : ∀ (i : Nat) (hi : i < cs.length), A.slots[i]? = some (.int cs[i]) := fun i hi => by rw [K5 i (by omega)]; simp [List.getD_eq_getElem?_getD, hi]
  have hcv : ∀ (i : Nat) (hi : i < cs.length), cv A i = cs[i] := fun i hi => by unfold cv; rw [hat i hi]
  have hty : Typed .char A := fun i v hv => by
    have hi : i < A.slots.size := (Array.getElem?_eq_some_iff.mp hv).1
    have q := K5 i hi
    rw [hv] at q
    rw [Option.some.inj q]
    exact K6 i hi
  refine Back.mono (back hZ hw wi E V C K1 hty S hz (by omega) (by omega) (fun i hi => by rw [hcv i (by omega)]; exact hall _ (List.getElem_mem _)) hfr hlo) (fun P a hp => ⟨hp.1, hp.2.1, hp.2.2.1, by rw [e]; exact hp.2.2.2⟩) (fun P a v B hp hq => ?_)
  obtain ⟨L, ⟨q1, q2, q3, q4, q5, q6, q7, ⟨V', v1, v2, v3, v4, v5⟩, q9⟩, hl, hc, hs⟩ := hq
  refine ⟨L, ⟨q1, q2, q3, q4, q5, q6, q7, ⟨V'.cls, v3, V', v1, rfl, by rw [v4, e, hlen], K4, fun i hi => ?_, fun i hi => ?_⟩, q9⟩, hl, hc, by rw [hs, e]⟩
  · have hi' : i < cs.length := by omega
    rw [v5 i (by omega), hcv i hi']; simp [List.getD_eq_getElem?_getD, hi']
  · have hi' : i < cs.length := by omega
    simp only [List.getD_eq_getElem?_getD, List.getElem?_map, List.getElem?_eq_getElem hi', Option.map_some, Option.getD_some]
    exact fits_lo8 _
end StrChars.Road
namespace StrChars.Road
open Jvm Sem ClassFile Op Lib Jvm.Stand Jvm.Free Jvm.Free.XT
/-- WHAT COMES BACK, in the writer's own shape -/
def QV (Z : State) (x : Addr) (N : Int32) (bs : List Int32) (h : Heap) (n0 : Nat) (v : Option Value) (h' : Heap) (L : List Loc) : Prop := v = none ∧ RoadKit.Fr n0 L ∧ RoadKit.Keep h h' [x] ∧ RoadKit.Exa Z h' x ST ∧ RoadKit.Fld Z h' x ST "coder" "B" (.int 0) ∧
  ∃ (t : Addr) (kb : ClassId), n0 ≤ t ∧ h.size ≤ t ∧ ¬ t = x ∧ RoadKit.Fld Z h' x ST "value" "[B" (.ref t) ∧ RoadKit.Arv Z h' t kb .byte N (bs.map Value.int) (.int 0)
/-- **new String(chars) AT A CALL, FOR THE WRITER**: a char[] of n known ints, each 0 to 255 -/
theorem backV {p : Program} {l : Launch} {e : Env} {R : Room} {s : State} {args : Array Value} {below : List Frame} {len W : Nat} {Z : State} {a0 : Array Value} {h : Heap} (hZ : Z.Warmed39 s.vm) (hw : ∀ d ∈ words, d.before a0 Z = true) {kI : Nat} (wi : (Jvm.Cond.instantiable ST kI).before a0 Z = true)
    {x b : Addr} {kC : ClassId} {cs bs : List Int32} {d v0 c0 : Value} {z N : Int32} {n n0 : Nat} (hx0 : n0 ≤ x) (hh0 : n0 ≤ h.size) (E : RoadKit.Exa Z h x ST) (V : RoadKit.Fld Z h x ST "value" "[B" v0) (C : RoadKit.Fld Z h x ST "coder" "B" c0) (K : RoadKit.Arv Z h b kC .char N (cs.map Value.int) d) (S : RoadKit.Sta Z h ST "COMPACT_STRINGS" "Z" (.int z)) (hz : ¬ z = 0)
    (hn : cs.length = n) (hN : N = Int32.ofNat n) (l0 : 0 < n) (l2 : n ≤ 4000) (hp : ∀ c ∈ cs, ¬ c < 0 ∧ ¬ (255 : Int32) < c) (hb : bs = cs.map (fun c => c.toInt8.toInt32)) (hfr : 4 ≤ R.frames) (hlo : W + 65 ≤ R.locals) :
    Back l R p e below s args (⟨"java/lang/String", "<init>", "([C)V"⟩ : MethodName) len W (fun P a => a = #[.ref x, .ref b] ∧ P.U.heap = h ∧ P.cells + 1 ≤ R.cells ∧ P.slots + n ≤ R.slots)
      (fun P _ v B => ∃ L, QV Z x N bs h n0 v B.U.heap L ∧ B.locs = P.locs ++ L ∧ B.cells = P.cells + 1 ∧ B.slots = P.slots + n) := by
  subst hn hN hb
  refine Back.mono (backArv hZ hw wi E V C K S hz (n32 (by omega)) l0 (by omega) (fun c hc => (hp c hc).2) hfr hlo) (fun P a hp => hp) (fun P a v B hp hq => ?_)
  obtain ⟨L, ⟨q1, q2, q3, q4, q5, q6, q7, ⟨kb, v1, v2⟩, q9⟩, hl, hc, hs⟩ := hq
  exact ⟨L, ⟨q1, fun y hy => by rw [q2 y hy]; exact hx0, q3, q5, q7, h.size, kb, hh0, Nat.le_refl _, Nat.ne_of_gt E.lt, q6, by rw [List.map_map]; exact v2⟩, hl, hc, hs⟩
end StrChars.Road
end Jvm.Pilot.@@N@@

namespace Jvm.Pilot.@@N@@
open Jvm Jvm.ClassFile Sem Op Lib Jvm.Free Jvm.Stand Jvm.LawKit Jvm.RoadKit Bundle Jvm.Own Jvm.Pilot.@@N@@.Jvm.D
theorem own_wS {Z : State} {a0 : Array Value} (hw : ∀ d ∈ tables_1, d.before a0 Z = true) : ∀ a ∈ Bundle.stringAtoms, a.before a0 Z = true := fun d hd => by
  simp only [Bundle.stringAtoms, Bundle.sN, List.mem_cons, List.not_mem_nil, or_false] at hd
  rcases hd with rfl | rfl | rfl | rfl | rfl | rfl | rfl
  · exact (hw _ (List.mem_of_getElem? (i := 12) rfl))
  · exact (hw _ (List.mem_of_getElem? (i := 13) rfl))
  · exact (hw _ (List.mem_of_getElem? (i := 14) rfl))
  · exact (hw _ (List.mem_of_getElem? (i := 15) rfl))
  · exact (hw _ (List.mem_of_getElem? (i := 16) rfl))
  · exact (hw _ (List.mem_of_getElem? (i := 17) rfl))
  · exact (hw _ (List.mem_of_getElem? (i := 18) rfl))
theorem own_ws {Z : State} {a0 : Array Value} (hw : ∀ d ∈ tables_1, d.before a0 Z = true) : ∀ d ∈ StrChars.Road.words, d.before a0 Z = true := fun d hd => hw d ((by decide +kernel : ∀ d ∈ StrChars.Road.words, d ∈ tables_1) d hd)
theorem own_lat (x : Int32) : ¬ nar .char ((x &&& (255 : Int32)).toUInt32.toUInt16.toUInt32.toInt32) < 0 ∧ ¬ (255 : Int32) < nar .char ((x &&& (255 : Int32)).toUInt32.toUInt16.toUInt32.toInt32) := by
  rw [show nar .char ((x &&& (255 : Int32)).toUInt32.toUInt16.toUInt32.toInt32) = x &&& 255 from by simp only [nar, i2c_mask]]
  have h1 := c_mask x 255 8 (by decide) (by decide)
  have e0 : (0 : Int32).toInt = 0 := rfl
  have e1 : (255 : Int32).toInt = 255 := by decide
  rw [Int32.lt_iff_toInt_lt, Int32.lt_iff_toInt_lt]
  omega
def q_rm_rec (h0 h : Heap) : Prop := Keep h0 h []
theorem d3_0 : decode jdk_30_method_1_code 0 = .ok (.aload_n 0, 1) := by decide +kernel
theorem d3_1 : decode jdk_30_method_1_code 1 = .ok (.invokespecial 1, 3) := by decide +kernel
theorem d3_4 : decode jdk_30_method_1_code 4 = .ok (.return_, 1) := by decide +kernel
theorem ef_rm_rec (m : MethodId) (x0 : Addr)  : entryFrame m #[(.ref x0)] 1 = mkF m 0 #[.val (.ref x0)] [] := by first | (simp [entryFrame, mkF, argsToLocals, catI, catR, catJ, catN]; done) | rfl
theorem pn_1 : plainName "java/lang/Record" = true := by first | (simp [plainName, overriddenIn]; done) | decide +kernel
set_option maxRecDepth 65536 in
set_option maxHeartbeats 4000000 in
theorem rm_rec (l : Launch) (Z : State) (a0 : Array Value) (hw : ∀ d ∈ tables_1, d.before a0 Z = true) (a : Addr) (h0 : Heap) (O0 : Ext Z.heap h0) :
    Met0 true l Z (⟨"java/lang/Record", "<init>", "()V"⟩ : MethodName) jdk_30_method_1_code 1 (Option.none : Option Jvm.ClassFile.FieldType) [] ({ frames := 1, cells := 0, slots := 0, locals := 12 } : Room) #[(.ref a)] h0 (q_rm_rec h0) := by
  refine met_body (plainFor_of_name pn_1) O0 ?_
  intro p e s m below meth ck T0 hx hby hml hret hlk hnm G0
  refine Fz.entry (ef_rm_rec m a ) ?_
  have K0 : Keep h0 h0 [] := Keep.refl _ _
  refine Jvm.Own.aloadN G0.here hx (hb hby d3_0) rfl rfl (pc' := 1) rfl ?_
  refine Jvm.Own.initObj G0 hx (hb hby d3_1) (hw _ (List.mem_of_getElem? (i := 30) rfl)) (hw _ (List.mem_of_getElem? (i := 31) rfl)) (hw _ (List.mem_of_getElem? (i := 32) rfl)) (by rw [hml]; rfl) (by decide) (W := 0) (Nat.le_of_eq rfl) (by decide) (pc' := 4) rfl ?_
  intro T1 G1
  exact Jvm.Own.ret0 G1 hx (hb hby d3_4) hret hlk (by decide) (by decide) ⟨rfl, K0⟩
theorem own_n01 {k : Int32} (h : k = 0 ∨ k = 1) : narrow .boolean (.int k) = .int k := by rcases h with rfl | rfl <;> rfl
theorem own_f01 {k : Int32} (h : k = 0 ∨ k = 1) : fits .boolean (.int k) = true := by rcases h with rfl | rfl <;> rfl
def q_rm_in (Z : State) (h0 : Heap) (a : Addr) (id : Int32) (dr : Addr) (sx : Addr) (md : Int32) (mp : Int32) (nu : Addr) (h : Heap) : Prop := Keep h0 h [a] ∧ Exa Z h a "com/example/dial_to_radio/dialtoradio/at/CallListEntry" ∧ Fld Z h a "com/example/dial_to_radio/dialtoradio/at/CallListEntry" "mode" "I" (.int md)
theorem d2_0 : decode prog_4_method_1_code 0 = .ok (.aload_n 0, 1) := by decide +kernel
theorem d2_1 : decode prog_4_method_1_code 1 = .ok (.invokespecial 1, 3) := by decide +kernel
theorem pd_1 : parseMethodDescriptor "()V" = some ⟨[], none⟩ := by decide +kernel
theorem d2_4 : decode prog_4_method_1_code 4 = .ok (.aload_n 0, 1) := by decide +kernel
theorem d2_5 : decode prog_4_method_1_code 5 = .ok (.iload_n 1, 1) := by decide +kernel
theorem d2_6 : decode prog_4_method_1_code 6 = .ok (.putfield 7, 3) := by decide +kernel
theorem d2_9 : decode prog_4_method_1_code 9 = .ok (.aload_n 0, 1) := by decide +kernel
theorem d2_10 : decode prog_4_method_1_code 10 = .ok (.aload_n 2, 1) := by decide +kernel
theorem d2_11 : decode prog_4_method_1_code 11 = .ok (.putfield 13, 3) := by decide +kernel
theorem d2_14 : decode prog_4_method_1_code 14 = .ok (.aload_n 0, 1) := by decide +kernel
theorem d2_15 : decode prog_4_method_1_code 15 = .ok (.aload_n 3, 1) := by decide +kernel
theorem d2_16 : decode prog_4_method_1_code 16 = .ok (.putfield 17, 3) := by decide +kernel
theorem d2_19 : decode prog_4_method_1_code 19 = .ok (.aload_n 0, 1) := by decide +kernel
theorem d2_20 : decode prog_4_method_1_code 20 = .ok (.iload 4, 2) := by decide +kernel
theorem d2_22 : decode prog_4_method_1_code 22 = .ok (.putfield 21, 3) := by decide +kernel
theorem d2_25 : decode prog_4_method_1_code 25 = .ok (.aload_n 0, 1) := by decide +kernel
theorem d2_26 : decode prog_4_method_1_code 26 = .ok (.iload 5, 2) := by decide +kernel
theorem d2_28 : decode prog_4_method_1_code 28 = .ok (.putfield 24, 3) := by decide +kernel
theorem d2_31 : decode prog_4_method_1_code 31 = .ok (.aload_n 0, 1) := by decide +kernel
theorem d2_32 : decode prog_4_method_1_code 32 = .ok (.aload 6, 2) := by decide +kernel
theorem d2_34 : decode prog_4_method_1_code 34 = .ok (.putfield 28, 3) := by decide +kernel
theorem d2_37 : decode prog_4_method_1_code 37 = .ok (.return_, 1) := by decide +kernel
theorem ef_rm_in (m : MethodId) (x0 : Addr) (x1 : Int32) (x2 : Addr) (x3 : Addr) (x4 : Int32) (x5 : Int32) (x6 : Addr)  : entryFrame m #[(.ref x0), (.int x1), (.ref x2), (.ref x3), (.int x4), (.int x5), (.ref x6)] 7 = mkF m 0 #[.val (.ref x0), .val (.int x1), .val (.ref x2), .val (.ref x3), .val (.int x4), .val (.int x5), .val (.ref x6)] [] := by first | (simp [entryFrame, mkF, argsToLocals, catI, catR, catJ, catN]; done) | rfl
theorem pn_2 : plainName "com/example/dial_to_radio/dialtoradio/at/CallListEntry" = true := by first | (simp [plainName, overriddenIn]; done) | decide +kernel
set_option maxRecDepth 65536 in
set_option maxHeartbeats 4000000 in
theorem rm_in (l : Launch) (Z : State) (a0 : Array Value) (hw : ∀ d ∈ tables_1, d.before a0 Z = true) (a : Addr) (id : Int32) (dr sx : Addr) (md mp : Int32) (nu : Addr) (h0 : Heap) (O0 : Ext Z.heap h0) (ga : Z.heap.size ≤ a) (Ea : Exa Z h0 a "com/example/dial_to_radio/dialtoradio/at/CallListEntry") (F_id : Fld Z h0 a "com/example/dial_to_radio/dialtoradio/at/CallListEntry" "id" "I" (.int (0 : Int32))) (F_direction : Fld Z h0 a "com/example/dial_to_radio/dialtoradio/at/CallListEntry" "direction" "Lcom/example/dial_to_radio/dialtoradio/at/CallListEntry$Direction;" .null) (F_state : Fld Z h0 a "com/example/dial_to_radio/dialtoradio/at/CallListEntry" "state" "Lcom/example/dial_to_radio/dialtoradio/at/CallListEntry$State;" .null) (F_mode : Fld Z h0 a "com/example/dial_to_radio/dialtoradio/at/CallListEntry" "mode" "I" (.int (0 : Int32))) (F_multiparty : Fld Z h0 a "com/example/dial_to_radio/dialtoradio/at/CallListEntry" "multiparty" "Z" (.int (0 : Int32))) (F_number : Fld Z h0 a "com/example/dial_to_radio/dialtoradio/at/CallListEntry" "number" "Ljava/lang/String;" .null) (hk1 : narrow .boolean (.int mp) = .int mp) (hk2 : fits .boolean (.int mp) = true) :
    Met0 true l Z (⟨"com/example/dial_to_radio/dialtoradio/at/CallListEntry", "<init>", "(ILcom/example/dial_to_radio/dialtoradio/at/CallListEntry$Direction;Lcom/example/dial_to_radio/dialtoradio/at/CallListEntry$State;IZLjava/lang/String;)V"⟩ : MethodName) prog_4_method_1_code 7 (Option.none : Option Jvm.ClassFile.FieldType) [] ({ frames := 2, cells := 0, slots := 0, locals := 24 } : Room) #[(.ref a), (.int id), (.ref dr), (.ref sx), (.int md), (.int mp), (.ref nu)] h0 (q_rm_in Z h0 a id dr sx md mp nu) := by
  refine met_body (plainFor_of_name pn_2) O0 ?_
  intro p e s m below meth ck T0 hx hby hml hret hlk hnm G0
  refine Fz.entry (ef_rm_in m a id dr sx md mp nu ) ?_
  have K0 : Keep h0 h0 [a] := Keep.refl _ _
  refine Jvm.Own.aloadN G0.here hx (hb hby d2_0) rfl rfl (pc' := 1) rfl ?_
  refine Jvm.Own.callI0 (y := (⟨"java/lang/Record", "<init>", "()V"⟩ : MethodName)) G0 hx (hb hby d2_1) rfl (hw _ (List.mem_of_getElem? (i := 25) rfl)) (hw _ (List.mem_of_getElem? (i := 26) rfl)) (hw _ (List.mem_of_getElem? (i := 28) rfl)) (hw _ (List.mem_of_getElem? (i := 29) rfl)) (by decide) (rm_rec l Z a0 hw a h0 G0.old) (by decide) (W := 0) (by decide) (by rw [hml]; rfl) (argsL := []) (lenOf pd_1 rfl) rfl (Nat.le_of_eq rfl) (cells' := 0) rfl (by decide) (slots' := 0) rfl (by decide) (pc' := 4) rfl ?_
  intro T1 h1 G1 Q1
  have K1 := Q1
  have K2 : Keep h0 h1 [a] := K0.trans K1 all0
  refine Jvm.Own.aloadN G1.here hx (hb hby d2_4) rfl rfl (pc' := 5) rfl ?_
  refine Jvm.Own.iloadN G1.here hx (hb hby d2_5) rfl (pc' := 6) rfl ?_
  have E4 := (Ea.keep K1)
  have F5 := (F_id.keep K1 nin0)
  refine Jvm.Own.putfield G1 hx (hb hby d2_6) (host := "") (Or.inl (hw _ (List.mem_of_getElem? (i := 33) rfl))) Via.refl F5 E4 (Or.inr ⟨(hw _ (List.mem_of_getElem? (i := 34) rfl)), rfl, hnm⟩) (hw _ (List.mem_of_getElem? (i := 20) rfl)) (ty := .int) (by decide) rfl rfl ga (pc' := 9) rfl ?_
  intro T3 h3 G3 W3
  have F3 := F5.same W3
  have K6 : Keep h0 h3 [a] := K2.wr W3 (Or.inl (List.mem_of_getElem? (i := 0) rfl))
  refine Jvm.Own.aloadN G3.here hx (hb hby d2_9) rfl rfl (pc' := 10) rfl ?_
  refine Jvm.Own.aloadN G3.here hx (hb hby d2_10) rfl rfl (pc' := 11) rfl ?_
  have E8 := (E4.wr W3)
  have F9 := ((F_direction.keep K1 nin0).other W3 (Or.inr (slot_ne (Or.inr (hw _ (List.mem_of_getElem? (i := 36) rfl))) (Or.inr (hw _ (List.mem_of_getElem? (i := 34) rfl))) (by decide) (t := (.object "com/example/dial_to_radio/dialtoradio/at/CallListEntry$Direction")) (t' := .int) (by decide) (by decide))))
  refine Jvm.Own.putfield G3 hx (hb hby d2_11) (host := "") (Or.inl (hw _ (List.mem_of_getElem? (i := 35) rfl))) Via.refl F9 E8 (Or.inr ⟨(hw _ (List.mem_of_getElem? (i := 36) rfl)), rfl, hnm⟩) (hw _ (List.mem_of_getElem? (i := 20) rfl)) (ty := (.object "com/example/dial_to_radio/dialtoradio/at/CallListEntry$Direction")) (by decide) rfl rfl ga (pc' := 14) rfl ?_
  intro T7 h7 G7 W7
  have F7 := F9.same W7
  have K10 : Keep h0 h7 [a] := K6.wr W7 (Or.inl (List.mem_of_getElem? (i := 0) rfl))
  refine Jvm.Own.aloadN G7.here hx (hb hby d2_14) rfl rfl (pc' := 15) rfl ?_
  refine Jvm.Own.aloadN G7.here hx (hb hby d2_15) rfl rfl (pc' := 16) rfl ?_
  have E12 := (E8.wr W7)
  have F13 := (((F_state.keep K1 nin0).other W3 (Or.inr (slot_ne (Or.inr (hw _ (List.mem_of_getElem? (i := 38) rfl))) (Or.inr (hw _ (List.mem_of_getElem? (i := 34) rfl))) (by decide) (t := (.object "com/example/dial_to_radio/dialtoradio/at/CallListEntry$State")) (t' := .int) (by decide) (by decide)))).other W7 (Or.inr (slot_ne (Or.inr (hw _ (List.mem_of_getElem? (i := 38) rfl))) (Or.inr (hw _ (List.mem_of_getElem? (i := 36) rfl))) (by decide) (t := (.object "com/example/dial_to_radio/dialtoradio/at/CallListEntry$State")) (t' := (.object "com/example/dial_to_radio/dialtoradio/at/CallListEntry$Direction")) (by decide) (by decide))))
  refine Jvm.Own.putfield G7 hx (hb hby d2_16) (host := "") (Or.inl (hw _ (List.mem_of_getElem? (i := 37) rfl))) Via.refl F13 E12 (Or.inr ⟨(hw _ (List.mem_of_getElem? (i := 38) rfl)), rfl, hnm⟩) (hw _ (List.mem_of_getElem? (i := 20) rfl)) (ty := (.object "com/example/dial_to_radio/dialtoradio/at/CallListEntry$State")) (by decide) rfl rfl ga (pc' := 19) rfl ?_
  intro T11 h11 G11 W11
  have F11 := F13.same W11
  have K14 : Keep h0 h11 [a] := K10.wr W11 (Or.inl (List.mem_of_getElem? (i := 0) rfl))
  refine Jvm.Own.aloadN G11.here hx (hb hby d2_19) rfl rfl (pc' := 20) rfl ?_
  refine Jvm.Own.iload G11.here hx (hb hby d2_20) rfl (pc' := 22) rfl ?_
  have E16 := (E12.wr W11)
  have F17 := ((((F_mode.keep K1 nin0).other W3 (Or.inr (slot_ne (Or.inr (hw _ (List.mem_of_getElem? (i := 40) rfl))) (Or.inr (hw _ (List.mem_of_getElem? (i := 34) rfl))) (by decide) (t := .int) (t' := .int) (by decide) (by decide)))).other W7 (Or.inr (slot_ne (Or.inr (hw _ (List.mem_of_getElem? (i := 40) rfl))) (Or.inr (hw _ (List.mem_of_getElem? (i := 36) rfl))) (by decide) (t := .int) (t' := (.object "com/example/dial_to_radio/dialtoradio/at/CallListEntry$Direction")) (by decide) (by decide)))).other W11 (Or.inr (slot_ne (Or.inr (hw _ (List.mem_of_getElem? (i := 40) rfl))) (Or.inr (hw _ (List.mem_of_getElem? (i := 38) rfl))) (by decide) (t := .int) (t' := (.object "com/example/dial_to_radio/dialtoradio/at/CallListEntry$State")) (by decide) (by decide))))
  refine Jvm.Own.putfield G11 hx (hb hby d2_22) (host := "") (Or.inl (hw _ (List.mem_of_getElem? (i := 39) rfl))) Via.refl F17 E16 (Or.inr ⟨(hw _ (List.mem_of_getElem? (i := 40) rfl)), rfl, hnm⟩) (hw _ (List.mem_of_getElem? (i := 20) rfl)) (ty := .int) (by decide) rfl rfl ga (pc' := 25) rfl ?_
  intro T15 h15 G15 W15
  have F15 := F17.same W15
  have K18 : Keep h0 h15 [a] := K14.wr W15 (Or.inl (List.mem_of_getElem? (i := 0) rfl))
  refine Jvm.Own.aloadN G15.here hx (hb hby d2_25) rfl rfl (pc' := 26) rfl ?_
  refine Jvm.Own.iload G15.here hx (hb hby d2_26) rfl (pc' := 28) rfl ?_
  have E20 := (E16.wr W15)
  have F21 := (((((F_multiparty.keep K1 nin0).other W3 (Or.inr (slot_ne (Or.inr (hw _ (List.mem_of_getElem? (i := 42) rfl))) (Or.inr (hw _ (List.mem_of_getElem? (i := 34) rfl))) (by decide) (t := .boolean) (t' := .int) (by decide) (by decide)))).other W7 (Or.inr (slot_ne (Or.inr (hw _ (List.mem_of_getElem? (i := 42) rfl))) (Or.inr (hw _ (List.mem_of_getElem? (i := 36) rfl))) (by decide) (t := .boolean) (t' := (.object "com/example/dial_to_radio/dialtoradio/at/CallListEntry$Direction")) (by decide) (by decide)))).other W11 (Or.inr (slot_ne (Or.inr (hw _ (List.mem_of_getElem? (i := 42) rfl))) (Or.inr (hw _ (List.mem_of_getElem? (i := 38) rfl))) (by decide) (t := .boolean) (t' := (.object "com/example/dial_to_radio/dialtoradio/at/CallListEntry$State")) (by decide) (by decide)))).other W15 (Or.inr (slot_ne (Or.inr (hw _ (List.mem_of_getElem? (i := 42) rfl))) (Or.inr (hw _ (List.mem_of_getElem? (i := 40) rfl))) (by decide) (t := .boolean) (t' := .int) (by decide) (by decide))))
  refine Jvm.Own.putfieldN G15 hx (hb hby d2_28) (hw _ (List.mem_of_getElem? (i := 41) rfl)) Via.refl F21 E20 (Or.inr ⟨(hw _ (List.mem_of_getElem? (i := 42) rfl)), rfl, hnm⟩) (hw _ (List.mem_of_getElem? (i := 20) rfl)) (ty := .boolean) (by decide) (v' := (.int mp)) hk1 hk2 ga (pc' := 31) rfl ?_
  intro T19 h19 G19 W19
  have F19 := F21.same W19
  have K22 : Keep h0 h19 [a] := K18.wr W19 (Or.inl (List.mem_of_getElem? (i := 0) rfl))
  refine Jvm.Own.aloadN G19.here hx (hb hby d2_31) rfl rfl (pc' := 32) rfl ?_
  refine Jvm.Own.aload G19.here hx (hb hby d2_32) rfl rfl (pc' := 34) rfl ?_
  have E24 := (E20.wr W19)
  have F25 := ((((((F_number.keep K1 nin0).other W3 (Or.inr (slot_ne (Or.inr (hw _ (List.mem_of_getElem? (i := 44) rfl))) (Or.inr (hw _ (List.mem_of_getElem? (i := 34) rfl))) (by decide) (t := (.object "java/lang/String")) (t' := .int) (by decide) (by decide)))).other W7 (Or.inr (slot_ne (Or.inr (hw _ (List.mem_of_getElem? (i := 44) rfl))) (Or.inr (hw _ (List.mem_of_getElem? (i := 36) rfl))) (by decide) (t := (.object "java/lang/String")) (t' := (.object "com/example/dial_to_radio/dialtoradio/at/CallListEntry$Direction")) (by decide) (by decide)))).other W11 (Or.inr (slot_ne (Or.inr (hw _ (List.mem_of_getElem? (i := 44) rfl))) (Or.inr (hw _ (List.mem_of_getElem? (i := 38) rfl))) (by decide) (t := (.object "java/lang/String")) (t' := (.object "com/example/dial_to_radio/dialtoradio/at/CallListEntry$State")) (by decide) (by decide)))).other W15 (Or.inr (slot_ne (Or.inr (hw _ (List.mem_of_getElem? (i := 44) rfl))) (Or.inr (hw _ (List.mem_of_getElem? (i := 40) rfl))) (by decide) (t := (.object "java/lang/String")) (t' := .int) (by decide) (by decide)))).other W19 (Or.inr (slot_ne (Or.inr (hw _ (List.mem_of_getElem? (i := 44) rfl))) (Or.inr (hw _ (List.mem_of_getElem? (i := 42) rfl))) (by decide) (t := (.object "java/lang/String")) (t' := .boolean) (by decide) (by decide))))
  refine Jvm.Own.putfield G19 hx (hb hby d2_34) (host := "") (Or.inl (hw _ (List.mem_of_getElem? (i := 43) rfl))) Via.refl F25 E24 (Or.inr ⟨(hw _ (List.mem_of_getElem? (i := 44) rfl)), rfl, hnm⟩) (hw _ (List.mem_of_getElem? (i := 20) rfl)) (ty := (.object "java/lang/String")) (by decide) rfl rfl ga (pc' := 37) rfl ?_
  intro T23 h23 G23 W23
  have F23 := F25.same W23
  have K26 : Keep h0 h23 [a] := K22.wr W23 (Or.inl (List.mem_of_getElem? (i := 0) rfl))
  have E27 := (E24.wr W23)
  have F28 := ((F15.other W19 (Or.inr (slot_ne (Or.inr (hw _ (List.mem_of_getElem? (i := 40) rfl))) (Or.inr (hw _ (List.mem_of_getElem? (i := 42) rfl))) (by decide) (t := .int) (t' := .boolean) (by decide) (by decide)))).other W23 (Or.inr (slot_ne (Or.inr (hw _ (List.mem_of_getElem? (i := 40) rfl))) (Or.inr (hw _ (List.mem_of_getElem? (i := 44) rfl))) (by decide) (t := .int) (t' := (.object "java/lang/String")) (by decide) (by decide))))
  exact Jvm.Own.ret0 G23 hx (hb hby d2_37) hret hlk (by decide) (by decide) ⟨rfl, ⟨K26, E27, F28⟩⟩
def q_st (w : Value) : Prop := ∃ a, w = .ref a
theorem d1_0 : decode method_2_code 0 = .ok (.iload_n 0, 1) := by decide +kernel
theorem d1_1 : decode method_2_code 1 = .ok (.ifCond .ne 7, 3) := by decide +kernel
theorem d1_4 : decode method_2_code 4 = .ok (.getstatic 7, 3) := by decide +kernel
theorem d1_7 : decode method_2_code 7 = .ok (.areturn, 1) := by decide +kernel
theorem d1_8 : decode method_2_code 8 = .ok (.iload_n 0, 1) := by decide +kernel
theorem d1_9 : decode method_2_code 9 = .ok (.iconst 1, 1) := by decide +kernel
theorem d1_10 : decode method_2_code 10 = .ok (.if_icmp .ne 7, 3) := by decide +kernel
theorem d1_13 : decode method_2_code 13 = .ok (.getstatic 13, 3) := by decide +kernel
theorem d1_16 : decode method_2_code 16 = .ok (.areturn, 1) := by decide +kernel
theorem d1_17 : decode method_2_code 17 = .ok (.iload_n 0, 1) := by decide +kernel
theorem d1_18 : decode method_2_code 18 = .ok (.iconst 2, 1) := by decide +kernel
theorem d1_19 : decode method_2_code 19 = .ok (.if_icmp .ne 7, 3) := by decide +kernel
theorem d1_22 : decode method_2_code 22 = .ok (.getstatic 16, 3) := by decide +kernel
theorem d1_25 : decode method_2_code 25 = .ok (.areturn, 1) := by decide +kernel
theorem d1_26 : decode method_2_code 26 = .ok (.iload_n 0, 1) := by decide +kernel
theorem d1_27 : decode method_2_code 27 = .ok (.iconst 3, 1) := by decide +kernel
theorem d1_28 : decode method_2_code 28 = .ok (.if_icmp .ne 7, 3) := by decide +kernel
theorem d1_31 : decode method_2_code 31 = .ok (.getstatic 19, 3) := by decide +kernel
theorem d1_34 : decode method_2_code 34 = .ok (.areturn, 1) := by decide +kernel
theorem d1_35 : decode method_2_code 35 = .ok (.iload_n 0, 1) := by decide +kernel
theorem d1_36 : decode method_2_code 36 = .ok (.iconst 4, 1) := by decide +kernel
theorem d1_37 : decode method_2_code 37 = .ok (.if_icmp .ne 7, 3) := by decide +kernel
theorem d1_40 : decode method_2_code 40 = .ok (.getstatic 22, 3) := by decide +kernel
theorem d1_43 : decode method_2_code 43 = .ok (.areturn, 1) := by decide +kernel
theorem d1_44 : decode method_2_code 44 = .ok (.getstatic 25, 3) := by decide +kernel
theorem d1_47 : decode method_2_code 47 = .ok (.areturn, 1) := by decide +kernel
theorem ef_rm_st (m : MethodId) (x0 : Int32)  : entryFrame m #[(.int x0)] 1 = mkF m 0 #[.val (.int x0)] [] := by first | (simp [entryFrame, mkF, argsToLocals, catI, catR, catJ, catN]; done) | rfl
theorem pn_3 : plainName "com/example/dial_to_radio/dialtoradio/at/CallListEntryIsVoicePinLaw" = true := by first | (simp [plainName, overriddenIn]; done) | decide +kernel
set_option maxRecDepth 65536 in
set_option maxHeartbeats 4000000 in
theorem rm_st (l : Launch) (Z : State) (a0 : Array Value) (hw : ∀ d ∈ tables_1, d.before a0 Z = true) (k : Int32) (w_s_CallListEntry_Direction_OUTGOING : Addr) (w_s_CallListEntry_State_HELD : Addr) (w_s_CallListEntry_State_DIALING : Addr) (w_s_CallListEntry_State_INCOMING : Addr) (w_s_CallListEntry_Direction_INCOMING : Addr) (w_s_CallListEntry_State_WAITING : Addr) (w_s_CallListEntry_State_ALERTING : Addr) (w_s_CallListEntry_State_ACTIVE : Addr) (cs : Int32) (h0 : Heap) (O0 : Ext Z.heap h0) (S_s_CallListEntry_Direction_OUTGOING : Sta Z Z.heap "com/example/dial_to_radio/dialtoradio/at/CallListEntry$Direction" "OUTGOING" "Lcom/example/dial_to_radio/dialtoradio/at/CallListEntry$Direction;" (.ref w_s_CallListEntry_Direction_OUTGOING)) (E_s_CallListEntry_Direction_OUTGOING : Exa Z Z.heap w_s_CallListEntry_Direction_OUTGOING "com/example/dial_to_radio/dialtoradio/at/CallListEntry$Direction") (S_s_CallListEntry_State_HELD : Sta Z Z.heap "com/example/dial_to_radio/dialtoradio/at/CallListEntry$State" "HELD" "Lcom/example/dial_to_radio/dialtoradio/at/CallListEntry$State;" (.ref w_s_CallListEntry_State_HELD)) (E_s_CallListEntry_State_HELD : Exa Z Z.heap w_s_CallListEntry_State_HELD "com/example/dial_to_radio/dialtoradio/at/CallListEntry$State") (S_s_CallListEntry_State_DIALING : Sta Z Z.heap "com/example/dial_to_radio/dialtoradio/at/CallListEntry$State" "DIALING" "Lcom/example/dial_to_radio/dialtoradio/at/CallListEntry$State;" (.ref w_s_CallListEntry_State_DIALING)) (E_s_CallListEntry_State_DIALING : Exa Z Z.heap w_s_CallListEntry_State_DIALING "com/example/dial_to_radio/dialtoradio/at/CallListEntry$State") (S_s_CallListEntry_State_INCOMING : Sta Z Z.heap "com/example/dial_to_radio/dialtoradio/at/CallListEntry$State" "INCOMING" "Lcom/example/dial_to_radio/dialtoradio/at/CallListEntry$State;" (.ref w_s_CallListEntry_State_INCOMING)) (E_s_CallListEntry_State_INCOMING : Exa Z Z.heap w_s_CallListEntry_State_INCOMING "com/example/dial_to_radio/dialtoradio/at/CallListEntry$State") (S_s_CallListEntry_Direction_INCOMING : Sta Z Z.heap "com/example/dial_to_radio/dialtoradio/at/CallListEntry$Direction" "INCOMING" "Lcom/example/dial_to_radio/dialtoradio/at/CallListEntry$Direction;" (.ref w_s_CallListEntry_Direction_INCOMING)) (E_s_CallListEntry_Direction_INCOMING : Exa Z Z.heap w_s_CallListEntry_Direction_INCOMING "com/example/dial_to_radio/dialtoradio/at/CallListEntry$Direction") (S_s_CallListEntry_State_WAITING : Sta Z Z.heap "com/example/dial_to_radio/dialtoradio/at/CallListEntry$State" "WAITING" "Lcom/example/dial_to_radio/dialtoradio/at/CallListEntry$State;" (.ref w_s_CallListEntry_State_WAITING)) (E_s_CallListEntry_State_WAITING : Exa Z Z.heap w_s_CallListEntry_State_WAITING "com/example/dial_to_radio/dialtoradio/at/CallListEntry$State") (S_s_CallListEntry_State_ALERTING : Sta Z Z.heap "com/example/dial_to_radio/dialtoradio/at/CallListEntry$State" "ALERTING" "Lcom/example/dial_to_radio/dialtoradio/at/CallListEntry$State;" (.ref w_s_CallListEntry_State_ALERTING)) (E_s_CallListEntry_State_ALERTING : Exa Z Z.heap w_s_CallListEntry_State_ALERTING "com/example/dial_to_radio/dialtoradio/at/CallListEntry$State") (S_s_CallListEntry_State_ACTIVE : Sta Z Z.heap "com/example/dial_to_radio/dialtoradio/at/CallListEntry$State" "ACTIVE" "Lcom/example/dial_to_radio/dialtoradio/at/CallListEntry$State;" (.ref w_s_CallListEntry_State_ACTIVE)) (E_s_CallListEntry_State_ACTIVE : Exa Z Z.heap w_s_CallListEntry_State_ACTIVE "com/example/dial_to_radio/dialtoradio/at/CallListEntry$State") (S_cs : Sta Z Z.heap "java/lang/String" "COMPACT_STRINGS" "Z" (.int cs)) (ncs : ¬ cs = (0 : Int32)) :
    Met1 true l Z (⟨"com/example/dial_to_radio/dialtoradio/at/CallListEntryIsVoicePinLaw", "state", "(I)Lcom/example/dial_to_radio/dialtoradio/at/CallListEntry$State;"⟩ : MethodName) method_2_code 1 (Option.some (Jvm.ClassFile.FieldType.object "com/example/dial_to_radio/dialtoradio/at/CallListEntry$State")) [] ({ frames := 0, cells := 0, slots := 0, locals := 0 } : Room) #[(.int k)] h0 (fun w h' => h' = h0 ∧ q_st w) := by
  refine met_body (plainFor_of_name pn_3) O0 ?_
  intro p e s m below meth ck T0 hx hby hml hret hlk hnm G0
  refine Fz.entry (ef_rm_st m k ) ?_
  refine Jvm.Own.iloadN G0.here hx (hb hby d1_0) rfl (pc' := 1) rfl ?_
  by_cases hc1 : k = (0 : Int32)
  · skip
    refine Jvm.Own.ifN G0.here hx (hb hby d1_1) ((if0 _ _).trans (teq hc1).2) (pc' := 4) rfl ?_
    refine Jvm.Own.getstatic G0 hx (hb hby d1_4) (host := "") (Or.inl (hw _ (List.mem_of_getElem? (i := 82) rfl))) Via.refl S_s_CallListEntry_State_ACTIVE (pc' := 7) rfl ?_
    intro T1 G1
    exact Jvm.Own.retA G1 hx (hb hby d1_7) hret hlk rfl rfl rfl (by decide) (by decide) ⟨_, rfl, ⟨rfl, _, rfl⟩⟩
  · skip
    refine Jvm.Own.ifY G0.here hx (hb hby d1_1) ((if0 _ _).trans (feq hc1).2) (pc' := 8) (by decide) (by decide) ?_
    refine Jvm.Own.iloadN G0.here hx (hb hby d1_8) rfl (pc' := 9) rfl ?_
    refine Jvm.Own.iconst G0.here hx (hb hby d1_9) (v := (1 : Int32)) rfl (pc' := 10) rfl ?_
    by_cases hc10 : k = (1 : Int32)
    · skip
      refine Jvm.Own.icmpN G0.here hx (hb hby d1_10) (teq hc10).2 (pc' := 13) rfl ?_
      refine Jvm.Own.getstatic G0 hx (hb hby d1_13) (host := "") (Or.inl (hw _ (List.mem_of_getElem? (i := 7) rfl))) Via.refl S_s_CallListEntry_State_HELD (pc' := 16) rfl ?_
      intro T2 G2
      exact Jvm.Own.retA G2 hx (hb hby d1_16) hret hlk rfl rfl rfl (by decide) (by decide) ⟨_, rfl, ⟨rfl, _, rfl⟩⟩
    · skip
      refine Jvm.Own.icmpY G0.here hx (hb hby d1_10) (feq hc10).2 (pc' := 17) (by decide) (by decide) ?_
      refine Jvm.Own.iloadN G0.here hx (hb hby d1_17) rfl (pc' := 18) rfl ?_
      refine Jvm.Own.iconst G0.here hx (hb hby d1_18) (v := (2 : Int32)) rfl (pc' := 19) rfl ?_
      by_cases hc19 : k = (2 : Int32)
      · skip
        refine Jvm.Own.icmpN G0.here hx (hb hby d1_19) (teq hc19).2 (pc' := 22) rfl ?_
        refine Jvm.Own.getstatic G0 hx (hb hby d1_22) (host := "") (Or.inl (hw _ (List.mem_of_getElem? (i := 50) rfl))) Via.refl S_s_CallListEntry_State_DIALING (pc' := 25) rfl ?_
        intro T3 G3
        exact Jvm.Own.retA G3 hx (hb hby d1_25) hret hlk rfl rfl rfl (by decide) (by decide) ⟨_, rfl, ⟨rfl, _, rfl⟩⟩
      · skip
        refine Jvm.Own.icmpY G0.here hx (hb hby d1_19) (feq hc19).2 (pc' := 26) (by decide) (by decide) ?_
        refine Jvm.Own.iloadN G0.here hx (hb hby d1_26) rfl (pc' := 27) rfl ?_
        refine Jvm.Own.iconst G0.here hx (hb hby d1_27) (v := (3 : Int32)) rfl (pc' := 28) rfl ?_
        by_cases hc28 : k = (3 : Int32)
        · skip
          refine Jvm.Own.icmpN G0.here hx (hb hby d1_28) (teq hc28).2 (pc' := 31) rfl ?_
          refine Jvm.Own.getstatic G0 hx (hb hby d1_31) (host := "") (Or.inl (hw _ (List.mem_of_getElem? (i := 80) rfl))) Via.refl S_s_CallListEntry_State_ALERTING (pc' := 34) rfl ?_
          intro T4 G4
          exact Jvm.Own.retA G4 hx (hb hby d1_34) hret hlk rfl rfl rfl (by decide) (by decide) ⟨_, rfl, ⟨rfl, _, rfl⟩⟩
        · skip
          refine Jvm.Own.icmpY G0.here hx (hb hby d1_28) (feq hc28).2 (pc' := 35) (by decide) (by decide) ?_
          refine Jvm.Own.iloadN G0.here hx (hb hby d1_35) rfl (pc' := 36) rfl ?_
          refine Jvm.Own.iconst G0.here hx (hb hby d1_36) (v := (4 : Int32)) rfl (pc' := 37) rfl ?_
          by_cases hc37 : k = (4 : Int32)
          · skip
            refine Jvm.Own.icmpN G0.here hx (hb hby d1_37) (teq hc37).2 (pc' := 40) rfl ?_
            refine Jvm.Own.getstatic G0 hx (hb hby d1_40) (host := "") (Or.inl (hw _ (List.mem_of_getElem? (i := 52) rfl))) Via.refl S_s_CallListEntry_State_INCOMING (pc' := 43) rfl ?_
            intro T5 G5
            exact Jvm.Own.retA G5 hx (hb hby d1_43) hret hlk rfl rfl rfl (by decide) (by decide) ⟨_, rfl, ⟨rfl, _, rfl⟩⟩
          · skip
            refine Jvm.Own.icmpY G0.here hx (hb hby d1_37) (feq hc37).2 (pc' := 44) (by decide) (by decide) ?_
            refine Jvm.Own.getstatic G0 hx (hb hby d1_44) (host := "") (Or.inl (hw _ (List.mem_of_getElem? (i := 56) rfl))) Via.refl S_s_CallListEntry_State_WAITING (pc' := 47) rfl ?_
            intro T6 G6
            exact Jvm.Own.retA G6 hx (hb hby d1_47) hret hlk rfl rfl rfl (by decide) (by decide) ⟨_, rfl, ⟨rfl, _, rfl⟩⟩
def own_iv (m : Int32) : Int32 := if m = 0 then 1 else 0
def q_iv (m : Int32) (w : Value) : Prop := w = .int (own_iv m)
theorem d5_0 : decode prog_4_method_7_code 0 = .ok (.aload_n 0, 1) := by decide +kernel
theorem d5_1 : decode prog_4_method_7_code 1 = .ok (.getfield 21, 3) := by decide +kernel
theorem d5_4 : decode prog_4_method_7_code 4 = .ok (.ifCond .ne 7, 3) := by decide +kernel
theorem d5_7 : decode prog_4_method_7_code 7 = .ok (.iconst 1, 1) := by decide +kernel
theorem d5_8 : decode prog_4_method_7_code 8 = .ok (.goto 4, 3) := by decide +kernel
theorem d5_12 : decode prog_4_method_7_code 12 = .ok (.ireturn, 1) := by decide +kernel
theorem d5_11 : decode prog_4_method_7_code 11 = .ok (.iconst 0, 1) := by decide +kernel
theorem ef_rm_iv (m : MethodId) (x0 : Addr)  : entryFrame m #[(.ref x0)] 1 = mkF m 0 #[.val (.ref x0)] [] := by first | (simp [entryFrame, mkF, argsToLocals, catI, catR, catJ, catN]; done) | rfl
set_option maxRecDepth 65536 in
set_option maxHeartbeats 4000000 in
theorem rm_iv (l : Launch) (Z : State) (a0 : Array Value) (hw : ∀ d ∈ tables_1, d.before a0 Z = true) (a : Addr) (md : Int32) (h0 : Heap) (O0 : Ext Z.heap h0) (Fm : Fld Z h0 a "com/example/dial_to_radio/dialtoradio/at/CallListEntry" "mode" "I" (.int md)) :
    Met1 true l Z (⟨"com/example/dial_to_radio/dialtoradio/at/CallListEntry", "isVoice", "()Z"⟩ : MethodName) prog_4_method_7_code 1 (Option.some Jvm.ClassFile.FieldType.boolean) [] ({ frames := 0, cells := 0, slots := 0, locals := 0 } : Room) #[(.ref a)] h0 (fun w h' => h' = h0 ∧ q_iv md w) := by
  refine met_body (plainFor_of_name pn_2) O0 ?_
  intro p e s m below meth ck T0 hx hby hml hret hlk hnm G0
  refine Fz.entry (ef_rm_iv m a ) ?_
  refine Jvm.Own.aloadN G0.here hx (hb hby d5_0) rfl rfl (pc' := 1) rfl ?_
  refine Jvm.Own.getfield G0 hx (hb hby d5_1) (host := "") (Or.inl (hw _ (List.mem_of_getElem? (i := 39) rfl))) Via.refl Fm (pc' := 4) rfl ?_
  intro T1 G1
  by_cases hc4 : md = (0 : Int32)
  · skip
    refine Jvm.Own.ifN G1.here hx (hb hby d5_4) ((if0 _ _).trans (teq hc4).2) (pc' := 7) rfl ?_
    refine Jvm.Own.iconst G1.here hx (hb hby d5_7) (v := (1 : Int32)) rfl (pc' := 8) rfl ?_
    refine Jvm.Own.goto G1.here hx (hb hby d5_8) (pc' := 12) (by decide) (by decide) ?_
    exact Jvm.Own.retI G1 hx (hb hby d5_12) hret hlk (by simp) rfl (by decide) (by decide) ⟨_, rfl, ⟨rfl, by show Value.int (1 : Int32) = .int (own_iv md); simp [own_iv, hc4]⟩⟩
  · skip
    refine Jvm.Own.ifY G1.here hx (hb hby d5_4) ((if0 _ _).trans (feq hc4).2) (pc' := 11) (by decide) (by decide) ?_
    refine Jvm.Own.iconst G1.here hx (hb hby d5_11) (v := (0 : Int32)) rfl (pc' := 12) rfl ?_
    exact Jvm.Own.retI G1 hx (hb hby d5_12) hret hlk (by simp) rfl (by decide) (by decide) ⟨_, rfl, ⟨rfl, by show Value.int (0 : Int32) = .int (own_iv md); simp [own_iv, hc4]⟩⟩
def q0 (w : Value) (h : Heap) : Prop := w = .int 1
theorem pd_2 : parseMethodDescriptor "(I)Lcom/example/dial_to_radio/dialtoradio/at/CallListEntry$State;" = some ⟨[.int], some (.object "com/example/dial_to_radio/dialtoradio/at/CallListEntry$State")⟩ := by decide +kernel
theorem pd_3 : parseMethodDescriptor "(ILcom/example/dial_to_radio/dialtoradio/at/CallListEntry$Direction;Lcom/example/dial_to_radio/dialtoradio/at/CallListEntry$State;IZLjava/lang/String;)V" = some ⟨[.int, (.object "com/example/dial_to_radio/dialtoradio/at/CallListEntry$Direction"), (.object "com/example/dial_to_radio/dialtoradio/at/CallListEntry$State"), .int, .boolean, (.object "java/lang/String")], none⟩ := by decide +kernel
theorem pd_4 : parseMethodDescriptor "()Z" = some ⟨[], some .boolean⟩ := by decide +kernel
theorem pd_5 : parseMethodDescriptor "([C)V" = some ⟨[(.array .char)], none⟩ := by decide +kernel
theorem ef_rm0 (m : MethodId) (x0 : Int32) (x1 : Int32) (x2 : Int32) (x3 : Int32)  : entryFrame m #[(.int x0), (.int x1), (.int x2), (.int x3)] maxLocals = mkF m 0 #[.val (.int x0), .val (.int x1), .val (.int x2), .val (.int x3), .unset, .unset, .unset, .unset, .unset, .unset, .unset, .unset] [] := by first | (simp [entryFrame, mkF, argsToLocals, catI, catR, catJ, catN, maxLocals]; done) | rfl
set_option maxRecDepth 65536 in
set_option maxHeartbeats 4000000 in
theorem rm0 (l : Launch) (Z : State) (a0 : Array Value) (hw : ∀ d ∈ tables_1, d.before a0 Z = true) (p0 p1 p2 p3 : Int32) (w_s_CallListEntry_Direction_OUTGOING : Addr) (w_s_CallListEntry_State_HELD : Addr) (w_s_CallListEntry_State_DIALING : Addr) (w_s_CallListEntry_State_INCOMING : Addr) (w_s_CallListEntry_Direction_INCOMING : Addr) (w_s_CallListEntry_State_WAITING : Addr) (w_s_CallListEntry_State_ALERTING : Addr) (w_s_CallListEntry_State_ACTIVE : Addr) (cs : Int32) (h0 : Heap) (O0 : Ext Z.heap h0) (S_s_CallListEntry_Direction_OUTGOING : Sta Z Z.heap "com/example/dial_to_radio/dialtoradio/at/CallListEntry$Direction" "OUTGOING" "Lcom/example/dial_to_radio/dialtoradio/at/CallListEntry$Direction;" (.ref w_s_CallListEntry_Direction_OUTGOING)) (E_s_CallListEntry_Direction_OUTGOING : Exa Z Z.heap w_s_CallListEntry_Direction_OUTGOING "com/example/dial_to_radio/dialtoradio/at/CallListEntry$Direction") (S_s_CallListEntry_State_HELD : Sta Z Z.heap "com/example/dial_to_radio/dialtoradio/at/CallListEntry$State" "HELD" "Lcom/example/dial_to_radio/dialtoradio/at/CallListEntry$State;" (.ref w_s_CallListEntry_State_HELD)) (E_s_CallListEntry_State_HELD : Exa Z Z.heap w_s_CallListEntry_State_HELD "com/example/dial_to_radio/dialtoradio/at/CallListEntry$State") (S_s_CallListEntry_State_DIALING : Sta Z Z.heap "com/example/dial_to_radio/dialtoradio/at/CallListEntry$State" "DIALING" "Lcom/example/dial_to_radio/dialtoradio/at/CallListEntry$State;" (.ref w_s_CallListEntry_State_DIALING)) (E_s_CallListEntry_State_DIALING : Exa Z Z.heap w_s_CallListEntry_State_DIALING "com/example/dial_to_radio/dialtoradio/at/CallListEntry$State") (S_s_CallListEntry_State_INCOMING : Sta Z Z.heap "com/example/dial_to_radio/dialtoradio/at/CallListEntry$State" "INCOMING" "Lcom/example/dial_to_radio/dialtoradio/at/CallListEntry$State;" (.ref w_s_CallListEntry_State_INCOMING)) (E_s_CallListEntry_State_INCOMING : Exa Z Z.heap w_s_CallListEntry_State_INCOMING "com/example/dial_to_radio/dialtoradio/at/CallListEntry$State") (S_s_CallListEntry_Direction_INCOMING : Sta Z Z.heap "com/example/dial_to_radio/dialtoradio/at/CallListEntry$Direction" "INCOMING" "Lcom/example/dial_to_radio/dialtoradio/at/CallListEntry$Direction;" (.ref w_s_CallListEntry_Direction_INCOMING)) (E_s_CallListEntry_Direction_INCOMING : Exa Z Z.heap w_s_CallListEntry_Direction_INCOMING "com/example/dial_to_radio/dialtoradio/at/CallListEntry$Direction") (S_s_CallListEntry_State_WAITING : Sta Z Z.heap "com/example/dial_to_radio/dialtoradio/at/CallListEntry$State" "WAITING" "Lcom/example/dial_to_radio/dialtoradio/at/CallListEntry$State;" (.ref w_s_CallListEntry_State_WAITING)) (E_s_CallListEntry_State_WAITING : Exa Z Z.heap w_s_CallListEntry_State_WAITING "com/example/dial_to_radio/dialtoradio/at/CallListEntry$State") (S_s_CallListEntry_State_ALERTING : Sta Z Z.heap "com/example/dial_to_radio/dialtoradio/at/CallListEntry$State" "ALERTING" "Lcom/example/dial_to_radio/dialtoradio/at/CallListEntry$State;" (.ref w_s_CallListEntry_State_ALERTING)) (E_s_CallListEntry_State_ALERTING : Exa Z Z.heap w_s_CallListEntry_State_ALERTING "com/example/dial_to_radio/dialtoradio/at/CallListEntry$State") (S_s_CallListEntry_State_ACTIVE : Sta Z Z.heap "com/example/dial_to_radio/dialtoradio/at/CallListEntry$State" "ACTIVE" "Lcom/example/dial_to_radio/dialtoradio/at/CallListEntry$State;" (.ref w_s_CallListEntry_State_ACTIVE)) (E_s_CallListEntry_State_ACTIVE : Exa Z Z.heap w_s_CallListEntry_State_ACTIVE "com/example/dial_to_radio/dialtoradio/at/CallListEntry$State") (S_cs : Sta Z Z.heap "java/lang/String" "COMPACT_STRINGS" "Z" (.int cs)) (ncs : ¬ cs = (0 : Int32)) :
    Met1 true l Z x code maxLocals ret tables_1 room_1 #[(.int p0), (.int p1), (.int p2), (.int p3)] h0 (q0) := by
  refine met_body (plainFor_of_name pn_3) O0 ?_
  intro p e s m below meth ck T0 hx hby hml hret hlk hnm G0
  have hml : ck.maxLocals = 12 := hml
  refine Fz.entry (ef_rm0 m p0 p1 p2 p3 ) ?_
  refine Jvm.Own.iloadN G0.here hx (hb hby at_0) rfl (pc' := 1) rfl ?_
  refine Jvm.Own.iconst G0.here hx (hb hby at_1) (v := (1 : Int32)) rfl (pc' := 2) rfl ?_
  refine Jvm.Own.iand G0.here hx (hb hby at_2) (pc' := 3) rfl ?_
  have K1 : ∀ (T2 : State), Go true p l e room_1 s m #[(.int p0), (.int p1), (.int p2), (.int p3)] below meth ck Z "com/example/dial_to_radio/dialtoradio/at/CallListEntryIsVoicePinLaw" T2 h0 0 0 → ∀ (dr : Addr), Fz true p e room_1 s below Z (fun v h' => ∃ w, v = some w ∧ q0 w h') (T2.setTop (mkF m 15 #[.val (.int p0), .val (.int p1), .val (.int p2), .val (.int p3), .unset, .unset, .unset, .unset, .unset, .unset, .unset, .unset] [(.ref dr)])) := by
    intro T2 G2 dr
    refine Jvm.Own.astore G2.here hx (hb hby at_15) rfl (Ls' := #[.val (.int p0), .val (.int p1), .val (.int p2), .val (.int p3), .val (.ref dr), .unset, .unset, .unset, .unset, .unset, .unset, .unset]) rfl (pc' := 17) rfl ?_
    refine Jvm.Own.iloadN G2.here hx (hb hby at_17) rfl (pc' := 18) rfl ?_
    refine Jvm.Own.iconst G2.here hx (hb hby at_18) (v := (1 : Int32)) rfl (pc' := 19) rfl ?_
    refine Jvm.Own.iushr G2.here hx (hb hby at_19) (pc' := 20) rfl ?_
    refine Jvm.Own.sipush G2.here hx (hb hby at_20) (v := (255 : Int32)) rfl (pc' := 23) rfl ?_
    refine Jvm.Own.iand G2.here hx (hb hby at_23) (pc' := 24) rfl ?_
    refine Jvm.Own.bipush G2.here hx (hb hby at_24) (v := (6 : Int32)) rfl (pc' := 26) rfl ?_
    refine Jvm.Own.irem G2.here hx (hb hby at_26) (by decide) (pc' := 27) rfl ?_
    refine Jvm.Own.callSP (y := (⟨"com/example/dial_to_radio/dialtoradio/at/CallListEntryIsVoicePinLaw", "state", "(I)Lcom/example/dial_to_radio/dialtoradio/at/CallListEntry$State;"⟩ : MethodName)) G2 hx (hb hby at_27) (hw _ (List.mem_of_getElem? (i := 3) rfl)) (hw _ (List.mem_of_getElem? (i := 4) rfl)) (hw _ (List.mem_of_getElem? (i := 5) rfl)) (hw _ (List.mem_of_getElem? (i := 6) rfl)) (by decide) (rm_st l Z a0 hw ((((p2.toUInt32 >>> ((1 : Int32) &&& 31).toUInt32).toInt32) &&& (255 : Int32)) % (6 : Int32)) w_s_CallListEntry_Direction_OUTGOING w_s_CallListEntry_State_HELD w_s_CallListEntry_State_DIALING w_s_CallListEntry_State_INCOMING w_s_CallListEntry_Direction_INCOMING w_s_CallListEntry_State_WAITING w_s_CallListEntry_State_ALERTING w_s_CallListEntry_State_ACTIVE cs h0 G2.old S_s_CallListEntry_Direction_OUTGOING E_s_CallListEntry_Direction_OUTGOING S_s_CallListEntry_State_HELD E_s_CallListEntry_State_HELD S_s_CallListEntry_State_DIALING E_s_CallListEntry_State_DIALING S_s_CallListEntry_State_INCOMING E_s_CallListEntry_State_INCOMING S_s_CallListEntry_Direction_INCOMING E_s_CallListEntry_Direction_INCOMING S_s_CallListEntry_State_WAITING E_s_CallListEntry_State_WAITING S_s_CallListEntry_State_ALERTING E_s_CallListEntry_State_ALERTING S_s_CallListEntry_State_ACTIVE E_s_CallListEntry_State_ACTIVE S_cs ncs) (by decide) (W := 0) (by decide) (by rw [hml]; rfl) (argsL := [(.int ((((p2.toUInt32 >>> ((1 : Int32) &&& 31).toUInt32).toInt32) &&& (255 : Int32)) % (6 : Int32)))]) (lenOf pd_2 rfl) rfl (Nat.le_of_eq rfl) (cells' := 0) rfl (by decide) (slots' := 0) rfl (by decide) (pc' := 30) rfl ?_
    intro T3 r3 G3 Q3
    obtain ⟨sx, rfl⟩ := Q3
    refine Jvm.Own.astore G3.here hx (hb hby at_30) rfl (Ls' := #[.val (.int p0), .val (.int p1), .val (.int p2), .val (.int p3), .val (.ref dr), .val (.ref sx), .unset, .unset, .unset, .unset, .unset, .unset]) rfl (pc' := 32) rfl ?_
    refine Jvm.Own.iloadN G3.here hx (hb hby at_32) rfl (pc' := 33) rfl ?_
    refine Jvm.Own.sipush G3.here hx (hb hby at_33) (v := (512 : Int32)) rfl (pc' := 36) rfl ?_
    refine Jvm.Own.iand G3.here hx (hb hby at_36) (pc' := 37) rfl ?_
    have K4 : ∀ (T5 : State), Go true p l e room_1 s m #[(.int p0), (.int p1), (.int p2), (.int p3)] below meth ck Z "com/example/dial_to_radio/dialtoradio/at/CallListEntryIsVoicePinLaw" T5 h0 0 0 → ∀ (mp : Int32), (mp = 0 ∨ mp = 1) → Fz true p e room_1 s below Z (fun v h' => ∃ w, v = some w ∧ q0 w h') (T5.setTop (mkF m 45 #[.val (.int p0), .val (.int p1), .val (.int p2), .val (.int p3), .val (.ref dr), .val (.ref sx), .unset, .unset, .unset, .unset, .unset, .unset] [(.int mp)])) := by
      intro T5 G5 mp hmp
      refine Jvm.Own.istore G5.here hx (hb hby at_45) (Ls' := #[.val (.int p0), .val (.int p1), .val (.int p2), .val (.int p3), .val (.ref dr), .val (.ref sx), .val (.int mp), .unset, .unset, .unset, .unset, .unset]) rfl (pc' := 47) rfl ?_
      refine Jvm.Own.iconst G5.here hx (hb hby at_47) (v := (1 : Int32)) rfl (pc' := 48) rfl ?_
      refine Jvm.Own.newarray G5 hx (hb hby at_48) (hw _ (List.mem_of_getElem? (i := 10) rfl)) (by decide) (cap := 1) (by decide) (by decide) (cells' := 1) rfl (by decide) (slots' := 1) rfl (by decide) (pc' := 50) rfl ?_
      intro T6 h6 b6 k6 z6 G6 X6 V6
      have ga_b6 : Z.heap.size ≤ b6 := ge_new G5.old z6
      have V6p : Arv Z h6 b6 k6 .char (1 : Int32) [(.int (0 : Int32))] (.int (0 : Int32)) := V6.pad (pad_rep [] (.int (0 : Int32)) 1)
      refine Jvm.Own.astore G6.here hx (hb hby at_50) rfl (Ls' := #[.val (.int p0), .val (.int p1), .val (.int p2), .val (.int p3), .val (.ref dr), .val (.ref sx), .val (.int mp), .val (.ref b6), .unset, .unset, .unset, .unset]) rfl (pc' := 52) rfl ?_
      refine Jvm.Own.aload G6.here hx (hb hby at_52) rfl rfl (pc' := 54) rfl ?_
      refine Jvm.Own.iconst G6.here hx (hb hby at_54) (v := (0 : Int32)) rfl (pc' := 55) rfl ?_
      refine Jvm.Own.iloadN G6.here hx (hb hby at_55) rfl (pc' := 56) rfl ?_
      refine Jvm.Own.sipush G6.here hx (hb hby at_56) (v := (255 : Int32)) rfl (pc' := 59) rfl ?_
      refine Jvm.Own.iand G6.here hx (hb hby at_59) (pc' := 60) rfl ?_
      refine Jvm.Own.i2c G6.here hx (hb hby at_60) (pc' := 61) rfl ?_
      refine Jvm.Own.castore G6 hx (hb hby at_61) V6p ⟨by decide, by decide⟩ (i := 0) rfl (Nat.le_of_ble_eq_true rfl) ga_b6 (pc' := 62) rfl ?_
      intro T7 h7 G7 W7 V7
      have V7p : Arv Z h7 b6 k6 .char (1 : Int32) [(.int (nar .char (p3 &&& (255 : Int32)).toUInt32.toUInt16.toUInt32.toInt32))] (.int (0 : Int32)) := V7
      refine Jvm.Own.iloadN G7.here hx (hb hby at_62) rfl (pc' := 63) rfl ?_
      refine Jvm.Own.sipush G7.here hx (hb hby at_63) (v := (1024 : Int32)) rfl (pc' := 66) rfl ?_
      refine Jvm.Own.iand G7.here hx (hb hby at_66) (pc' := 67) rfl ?_
      have K8 : ∀ (T9 : State) (h9 : Heap), Go true p l e room_1 s m #[(.int p0), (.int p1), (.int p2), (.int p3)] below meth ck Z "com/example/dial_to_radio/dialtoradio/at/CallListEntryIsVoicePinLaw" T9 h9 4 8 → ∀ (ca : Addr) (nu : Addr), Fz true p e room_1 s below Z (fun v h' => ∃ w, v = some w ∧ q0 w h') (T9.setTop (mkF m 84 #[.val (.int p0), .val (.int p1), .val (.int p2), .val (.int p3), .val (.ref dr), .val (.ref sx), .val (.int mp), .val (.ref ca), .unset, .unset, .unset, .unset] [(.ref nu)])) := by
        intro T9 h9 G9 ca nu
        refine Jvm.Own.astore G9.here hx (hb hby at_84) rfl (Ls' := #[.val (.int p0), .val (.int p1), .val (.int p2), .val (.int p3), .val (.ref dr), .val (.ref sx), .val (.int mp), .val (.ref ca), .val (.ref nu), .unset, .unset, .unset]) rfl (pc' := 86) rfl ?_
        refine Jvm.Own.iloadN G9.here hx (hb hby at_86) rfl (pc' := 87) rfl ?_
        refine Jvm.Own.sipush G9.here hx (hb hby at_87) (v := (2048 : Int32)) rfl (pc' := 90) rfl ?_
        refine Jvm.Own.iand G9.here hx (hb hby at_90) (pc' := 91) rfl ?_
        have K10 : ∀ (T11 : State), Go true p l e room_1 s m #[(.int p0), (.int p1), (.int p2), (.int p3)] below meth ck Z "com/example/dial_to_radio/dialtoradio/at/CallListEntryIsVoicePinLaw" T11 h9 4 8 → ∀ (mm : Int32), Fz true p e room_1 s below Z (fun v h' => ∃ w, v = some w ∧ q0 w h') (T11.setTop (mkF m 99 #[.val (.int p0), .val (.int p1), .val (.int p2), .val (.int p3), .val (.ref dr), .val (.ref sx), .val (.int mp), .val (.ref ca), .val (.ref nu), .unset, .unset, .unset] [(.int mm)])) := by
          intro T11 G11 mm
          refine Jvm.Own.istore G11.here hx (hb hby at_99) (Ls' := #[.val (.int p0), .val (.int p1), .val (.int p2), .val (.int p3), .val (.ref dr), .val (.ref sx), .val (.int mp), .val (.ref ca), .val (.ref nu), .val (.int mm), .unset, .unset]) rfl (pc' := 101) rfl ?_
          refine Jvm.Own.new G11 hx (hb hby at_101) (hw _ (List.mem_of_getElem? (i := 19) rfl)) (hw _ (List.mem_of_getElem? (i := 20) rfl)) (hw _ (List.mem_of_getElem? (i := 21) rfl)) (cells' := 5) rfl (by decide) (slots' := 14) rfl (by decide) (pc' := 104) rfl ?_
          intro T12 h12 b12 z12 G12 X12 E12 D12
          have ga_b12 : Z.heap.size ≤ b12 := ge_new G11.old z12
          have F13 : Fld Z h12 b12 "com/example/dial_to_radio/dialtoradio/at/CallListEntry" "id" "I" (.int (0 : Int32)) := D12 (Or.inr (hw _ (List.mem_of_getElem? (i := 34) rfl))) (ty := .int) (by decide)
          have F14 : Fld Z h12 b12 "com/example/dial_to_radio/dialtoradio/at/CallListEntry" "direction" "Lcom/example/dial_to_radio/dialtoradio/at/CallListEntry$Direction;" .null := D12 (Or.inr (hw _ (List.mem_of_getElem? (i := 36) rfl))) (ty := (.object "com/example/dial_to_radio/dialtoradio/at/CallListEntry$Direction")) (by decide)
          have F15 : Fld Z h12 b12 "com/example/dial_to_radio/dialtoradio/at/CallListEntry" "state" "Lcom/example/dial_to_radio/dialtoradio/at/CallListEntry$State;" .null := D12 (Or.inr (hw _ (List.mem_of_getElem? (i := 38) rfl))) (ty := (.object "com/example/dial_to_radio/dialtoradio/at/CallListEntry$State")) (by decide)
          have F16 : Fld Z h12 b12 "com/example/dial_to_radio/dialtoradio/at/CallListEntry" "mode" "I" (.int (0 : Int32)) := D12 (Or.inr (hw _ (List.mem_of_getElem? (i := 40) rfl))) (ty := .int) (by decide)
          have F17 : Fld Z h12 b12 "com/example/dial_to_radio/dialtoradio/at/CallListEntry" "multiparty" "Z" (.int (0 : Int32)) := D12 (Or.inr (hw _ (List.mem_of_getElem? (i := 42) rfl))) (ty := .boolean) (by decide)
          have F18 : Fld Z h12 b12 "com/example/dial_to_radio/dialtoradio/at/CallListEntry" "number" "Ljava/lang/String;" .null := D12 (Or.inr (hw _ (List.mem_of_getElem? (i := 44) rfl))) (ty := (.object "java/lang/String")) (by decide)
          refine Jvm.Own.dup G12.here hx (hb hby at_104) rfl (pc' := 105) rfl ?_
          refine Jvm.Own.iloadN G12.here hx (hb hby at_105) rfl (pc' := 106) rfl ?_
          refine Jvm.Own.aload G12.here hx (hb hby at_106) rfl rfl (pc' := 108) rfl ?_
          refine Jvm.Own.aload G12.here hx (hb hby at_108) rfl rfl (pc' := 110) rfl ?_
          refine Jvm.Own.iload G12.here hx (hb hby at_110) rfl (pc' := 112) rfl ?_
          refine Jvm.Own.iload G12.here hx (hb hby at_112) rfl (pc' := 114) rfl ?_
          refine Jvm.Own.aload G12.here hx (hb hby at_114) rfl rfl (pc' := 116) rfl ?_
          refine Jvm.Own.callI0 (y := (⟨"com/example/dial_to_radio/dialtoradio/at/CallListEntry", "<init>", "(ILcom/example/dial_to_radio/dialtoradio/at/CallListEntry$Direction;Lcom/example/dial_to_radio/dialtoradio/at/CallListEntry$State;IZLjava/lang/String;)V"⟩ : MethodName)) G12 hx (hb hby at_116) rfl (hw _ (List.mem_of_getElem? (i := 22) rfl)) (hw _ (List.mem_of_getElem? (i := 23) rfl)) (hw _ (List.mem_of_getElem? (i := 21) rfl)) (hw _ (List.mem_of_getElem? (i := 24) rfl)) (by decide) (rm_in l Z a0 hw b12 p0 dr sx mm mp nu h12 G12.old ga_b12 E12 F13 F14 F15 F16 F17 F18 (own_n01 hmp) (own_f01 hmp)) (by decide) (W := 1) (by decide) (by rw [hml]; rfl) (argsL := [(.int p0), (.ref dr), (.ref sx), (.int mm), (.int mp), (.ref nu)]) (lenOf pd_3 rfl) rfl (Nat.le_of_eq rfl) (cells' := 5) rfl (by decide) (slots' := 14) rfl (by decide) (pc' := 119) rfl ?_
          intro T19 h19 G19 Q19
          obtain ⟨K19, E19, Fm19⟩ := Q19
          refine Jvm.Own.astore G19.here hx (hb hby at_119) rfl (Ls' := #[.val (.int p0), .val (.int p1), .val (.int p2), .val (.int p3), .val (.ref dr), .val (.ref sx), .val (.int mp), .val (.ref ca), .val (.ref nu), .val (.int mm), .val (.ref b12), .unset]) rfl (pc' := 121) rfl ?_
          refine Jvm.Own.iload G19.here hx (hb hby at_121) rfl (pc' := 123) rfl ?_
          by_cases hc123 : mm = (0 : Int32)
          · skip
            refine Jvm.Own.ifN G19.here hx (hb hby at_123) ((if0 _ _).trans (teq hc123).2) (pc' := 126) rfl ?_
            refine Jvm.Own.iconst G19.here hx (hb hby at_126) (v := (1 : Int32)) rfl (pc' := 127) rfl ?_
            refine Jvm.Own.goto G19.here hx (hb hby at_127) (pc' := 131) (by decide) (by decide) ?_
            refine Jvm.Own.istore G19.here hx (hb hby at_131) (Ls' := #[.val (.int p0), .val (.int p1), .val (.int p2), .val (.int p3), .val (.ref dr), .val (.ref sx), .val (.int mp), .val (.ref ca), .val (.ref nu), .val (.int mm), .val (.ref b12), .val (.int (1 : Int32))]) rfl (pc' := 133) rfl ?_
            refine Jvm.Own.aload G19.here hx (hb hby at_133) rfl rfl (pc' := 135) rfl ?_
            refine Jvm.Own.callVP (y := (⟨"com/example/dial_to_radio/dialtoradio/at/CallListEntry", "isVoice", "()Z"⟩ : MethodName)) (z := (⟨"com/example/dial_to_radio/dialtoradio/at/CallListEntry", "isVoice", "()Z"⟩ : MethodName)) G19 hx (hb hby at_135) (nfOf (y := (⟨"com/example/dial_to_radio/dialtoradio/at/CallListEntry", "isVoice", "()Z"⟩ : MethodName)) (z := (⟨"com/example/dial_to_radio/dialtoradio/at/CallListEntry", "isVoice", "()Z"⟩ : MethodName)) rfl (hw _ (List.mem_of_getElem? (i := 48) rfl))) (hw _ (List.mem_of_getElem? (i := 45) rfl)) (hw _ (List.mem_of_getElem? (i := 46) rfl)) (hw _ (List.mem_of_getElem? (i := 48) rfl)) (hw _ (List.mem_of_getElem? (i := 47) rfl)) (hw _ (List.mem_of_getElem? (i := 21) rfl)) (hw _ (List.mem_of_getElem? (i := 49) rfl)) (by decide) E19 (rm_iv l Z a0 hw b12 mm h19 G19.old Fm19) (by decide) (W := 0) (by decide) (by rw [hml]; rfl) (argsL := []) (lenOf pd_4 rfl) rfl (Nat.le_of_eq rfl) (cells' := 5) rfl (by decide) (slots' := 14) rfl (by decide) (pc' := 138) rfl ?_
            intro T20 r20 G20 Q20
            obtain rfl : r20 = .int (own_iv mm) := Q20
            have hres : own_iv mm = (1 : Int32) := by simp [own_iv, hc123]
            refine Jvm.Own.iload G20.here hx (hb hby at_138) rfl (pc' := 140) rfl ?_
            refine Jvm.Own.icmpN G20.here hx (hb hby at_140) (teq (hres : (own_iv mm) = (1 : Int32))).2 (pc' := 143) rfl ?_
            refine Jvm.Own.iconst G20.here hx (hb hby at_143) (v := (1 : Int32)) rfl (pc' := 144) rfl ?_
            refine Jvm.Own.goto G20.here hx (hb hby at_144) (pc' := 148) (by decide) (by decide) ?_
            exact Jvm.Own.retI G20 hx (hb hby at_148) hret hlk (by simp) rfl (by decide) (by decide) ⟨_, rfl, rfl⟩
          · skip
            refine Jvm.Own.ifY G19.here hx (hb hby at_123) ((if0 _ _).trans (feq hc123).2) (pc' := 130) (by decide) (by decide) ?_
            refine Jvm.Own.iconst G19.here hx (hb hby at_130) (v := (0 : Int32)) rfl (pc' := 131) rfl ?_
            refine Jvm.Own.istore G19.here hx (hb hby at_131) (Ls' := #[.val (.int p0), .val (.int p1), .val (.int p2), .val (.int p3), .val (.ref dr), .val (.ref sx), .val (.int mp), .val (.ref ca), .val (.ref nu), .val (.int mm), .val (.ref b12), .val (.int (0 : Int32))]) rfl (pc' := 133) rfl ?_
            refine Jvm.Own.aload G19.here hx (hb hby at_133) rfl rfl (pc' := 135) rfl ?_
            refine Jvm.Own.callVP (y := (⟨"com/example/dial_to_radio/dialtoradio/at/CallListEntry", "isVoice", "()Z"⟩ : MethodName)) (z := (⟨"com/example/dial_to_radio/dialtoradio/at/CallListEntry", "isVoice", "()Z"⟩ : MethodName)) G19 hx (hb hby at_135) (nfOf (y := (⟨"com/example/dial_to_radio/dialtoradio/at/CallListEntry", "isVoice", "()Z"⟩ : MethodName)) (z := (⟨"com/example/dial_to_radio/dialtoradio/at/CallListEntry", "isVoice", "()Z"⟩ : MethodName)) rfl (hw _ (List.mem_of_getElem? (i := 48) rfl))) (hw _ (List.mem_of_getElem? (i := 45) rfl)) (hw _ (List.mem_of_getElem? (i := 46) rfl)) (hw _ (List.mem_of_getElem? (i := 48) rfl)) (hw _ (List.mem_of_getElem? (i := 47) rfl)) (hw _ (List.mem_of_getElem? (i := 21) rfl)) (hw _ (List.mem_of_getElem? (i := 49) rfl)) (by decide) E19 (rm_iv l Z a0 hw b12 mm h19 G19.old Fm19) (by decide) (W := 0) (by decide) (by rw [hml]; rfl) (argsL := []) (lenOf pd_4 rfl) rfl (Nat.le_of_eq rfl) (cells' := 5) rfl (by decide) (slots' := 14) rfl (by decide) (pc' := 138) rfl ?_
            intro T21 r21 G21 Q21
            obtain rfl : r21 = .int (own_iv mm) := Q21
            have hres : own_iv mm = (0 : Int32) := by simp [own_iv, hc123]
            refine Jvm.Own.iload G21.here hx (hb hby at_138) rfl (pc' := 140) rfl ?_
            refine Jvm.Own.icmpN G21.here hx (hb hby at_140) (teq (hres : (own_iv mm) = (0 : Int32))).2 (pc' := 143) rfl ?_
            refine Jvm.Own.iconst G21.here hx (hb hby at_143) (v := (1 : Int32)) rfl (pc' := 144) rfl ?_
            refine Jvm.Own.goto G21.here hx (hb hby at_144) (pc' := 148) (by decide) (by decide) ?_
            exact Jvm.Own.retI G21 hx (hb hby at_148) hret hlk (by simp) rfl (by decide) (by decide) ⟨_, rfl, rfl⟩
        by_cases hb91 : (p2 &&& (2048 : Int32)) = (0 : Int32)
        · skip
          refine Jvm.Own.ifY G9.here hx (hb hby at_91) ((if0 _ _).trans (teq hb91).1) (pc' := 98) (by decide) (by decide) ?_
          refine Jvm.Own.iloadN G9.here hx (hb hby at_98) rfl (pc' := 99) rfl ?_
          exact K10 T9 G9 p1
        · skip
          refine Jvm.Own.ifN G9.here hx (hb hby at_91) ((if0 _ _).trans (feq hb91).1) (pc' := 94) rfl ?_
          refine Jvm.Own.iconst G9.here hx (hb hby at_94) (v := (0 : Int32)) rfl (pc' := 95) rfl ?_
          refine Jvm.Own.goto G9.here hx (hb hby at_95) (pc' := 99) (by decide) (by decide) ?_
          exact K10 T9 G9 (0 : Int32)
      by_cases hb67 : (p2 &&& (1024 : Int32)) = (0 : Int32)
      · skip
        refine Jvm.Own.ifY G7.here hx (hb hby at_67) ((if0 _ _).trans (teq hb67).1) (pc' := 82) (by decide) (by decide) ?_
        refine Jvm.Own.ldcS (n := 0) rfl G7 hx (hb hby at_82) (hw _ (List.mem_of_getElem? (i := 11) rfl)) (own_wS hw) (by decide) (by decide) (cells' := 3) rfl (by decide) (slots' := 5) rfl (by decide) (pc' := 84) rfl ?_
        intro T22 h22 a22 G22 X22
        exact K8 T22 h22 (G22.mono (by decide) (by decide)) _ a22
      · skip
        refine Jvm.Own.ifN G7.here hx (hb hby at_67) ((if0 _ _).trans (feq hb67).1) (pc' := 70) rfl ?_
        refine Jvm.Own.new G7 hx (hb hby at_70) (hw _ (List.mem_of_getElem? (i := 58) rfl)) (hw _ (List.mem_of_getElem? (i := 13) rfl)) (hw _ (List.mem_of_getElem? (i := 12) rfl)) (cells' := 2) rfl (by decide) (slots' := 5) rfl (by decide) (pc' := 73) rfl ?_
        intro T23 h23 b23 z23 G23 X23 E23 D23
        have ga_b23 : Z.heap.size ≤ b23 := ge_new G7.old z23
        have ne24 : b6 ≠ b23 := ne_new (V7p).lt z23
        have F25 : Fld Z h23 b23 "java/lang/String" "value" "[B" .null := D23 (Or.inr (hw _ (List.mem_of_getElem? (i := 15) rfl))) (ty := (.array .byte)) (by decide)
        have F26 : Fld Z h23 b23 "java/lang/String" "coder" "B" (.int (0 : Int32)) := D23 (Or.inr (hw _ (List.mem_of_getElem? (i := 16) rfl))) (ty := .byte) (by decide)
        refine Jvm.Own.dup G23.here hx (hb hby at_73) rfl (pc' := 74) rfl ?_
        refine Jvm.Own.aload G23.here hx (hb hby at_74) rfl rfl (pc' := 76) rfl ?_
        have V27 := (V7p.ext X23)
        refine Jvm.Own.callIB (y := (⟨"java/lang/String", "<init>", "([C)V"⟩ : MethodName)) (mc := 1) (ms := 1) (W := 1) (a := b23) (argsL := [(.ref b6)]) G23 hx (hb hby at_76) rfl (hw _ (List.mem_of_getElem? (i := 59) rfl)) (hw _ (List.mem_of_getElem? (i := 60) rfl)) (hw _ (List.mem_of_getElem? (i := 61) rfl)) (by decide) (fun s' hZ' => StrChars.Road.backV (W := 1) hZ' (own_ws hw) (kI := 4) (hw _ (List.mem_of_getElem? (i := 13) rfl)) (cs := [(nar .char (p3 &&& (255 : Int32)).toUInt32.toUInt16.toUInt32.toInt32)]) (bs := [((nar .char (p3 &&& (255 : Int32)).toUInt32.toUInt16.toUInt32.toInt32)).toInt8.toInt32]) (n := 1) ga_b23 G23.old.1 E23 F25 F26 V27 (S_cs.ext G23.old) ncs rfl rfl (by decide) (by decide) (fun c hc => by rcases List.mem_singleton.mp hc with rfl; exact own_lat p3) rfl (by decide) (by decide)) (fun v h' L q => ⟨q.1, q.2.1, (Old.keep (n0 := Z.heap.size) ⟨rfl, G23.old⟩ q.2.2.1 (allS ga_b23 all0)).2, q.2.2.1.1⟩) (by rw [hml]; rfl) (lenOf pd_5 rfl) rfl (Nat.le_of_eq rfl) (cells' := 3) rfl (by decide) (slots' := 6) rfl (by decide) (pc' := 79) rfl ?_
        intro T28 h28 G28 Q28
        obtain ⟨L28, -, -, K28, E28, Fc28, t28, kb28, g128, g228, g328, Fv28, Vt28⟩ := Q28
        refine Jvm.Own.goto G28.here hx (hb hby at_79) (pc' := 84) (by decide) (by decide) ?_
        exact K8 T28 h28 (G28.mono (by decide) (by decide)) _ b23
    by_cases hb37 : (p2 &&& (512 : Int32)) = (0 : Int32)
    · skip
      refine Jvm.Own.ifY G3.here hx (hb hby at_37) ((if0 _ _).trans (teq hb37).1) (pc' := 44) (by decide) (by decide) ?_
      refine Jvm.Own.iconst G3.here hx (hb hby at_44) (v := (0 : Int32)) rfl (pc' := 45) rfl ?_
      exact K4 T3 G3 (0 : Int32) (by decide)
    · skip
      refine Jvm.Own.ifN G3.here hx (hb hby at_37) ((if0 _ _).trans (feq hb37).1) (pc' := 40) rfl ?_
      refine Jvm.Own.iconst G3.here hx (hb hby at_40) (v := (1 : Int32)) rfl (pc' := 41) rfl ?_
      refine Jvm.Own.goto G3.here hx (hb hby at_41) (pc' := 45) (by decide) (by decide) ?_
      exact K4 T3 G3 (1 : Int32) (by decide)
  by_cases hb3 : (p2 &&& (1 : Int32)) = (0 : Int32)
  · skip
    refine Jvm.Own.ifY G0.here hx (hb hby at_3) ((if0 _ _).trans (teq hb3).1) (pc' := 12) (by decide) (by decide) ?_
    refine Jvm.Own.getstatic G0 hx (hb hby at_12) (host := "") (Or.inl (hw _ (List.mem_of_getElem? (i := 0) rfl))) Via.refl S_s_CallListEntry_Direction_OUTGOING (pc' := 15) rfl ?_
    intro T29 G29
    exact K1 T29 G29 w_s_CallListEntry_Direction_OUTGOING
  · skip
    refine Jvm.Own.ifN G0.here hx (hb hby at_3) ((if0 _ _).trans (feq hb3).1) (pc' := 6) rfl ?_
    refine Jvm.Own.getstatic G0 hx (hb hby at_6) (host := "") (Or.inl (hw _ (List.mem_of_getElem? (i := 54) rfl))) Via.refl S_s_CallListEntry_Direction_INCOMING (pc' := 9) rfl ?_
    intro T30 G30
    refine Jvm.Own.goto G30.here hx (hb hby at_9) (pc' := 15) (by decide) (by decide) ?_
    exact K1 T30 G30 w_s_CallListEntry_Direction_INCOMING
set_option maxRecDepth 65536 in
set_option maxHeartbeats 4000000 in
theorem comes_1 {Post : Tables → Env → Array Value → State → Outcome → State → Prop} (hpost : ∀ tb e args s v u, (limb_1_1.after args s (.returned v) u = true ∧ limb_1_2.after args s (.returned v) u = true ∧ True) → ReturnedEndW s (.returned v) u (Jvm.fieldLocs frame_1_writes args s ++ Jvm.arrayLocs frame_1_arrays args s ++ Jvm.staticLocs frame_1_statics s) 24 1152 → Post tb e args s (.returned v) u) :
    ArmFor flags0 classFile x code maxLocals ret World_1 tables_1 room_1 Calls_1 rest_1 Pre_1 Post := by
  intro l hfl _ _ p e ha hc hk s m args below hf hA hF happ hP
  obtain ⟨hcalls, hrest, hpre⟩ := hP
  obtain ⟨-, -, -, hnamed, -, -, -, hat⟩ := (Spec.applies_iff hf).mp happ
  obtain ⟨hg, hn⟩ := and_e (Cond.before_iff.mp (show (Jvm.Cond.and given_1 narrow_1).before args s = true from hpre))
  obtain ⟨hcount, hq0⟩ := and_e hg
  obtain ⟨ha0, hq1⟩ := and_e hq0
  obtain ⟨ha1, hq2⟩ := and_e hq1
  obtain ⟨ha2, ha3⟩ := and_e hq2
  obtain ⟨v0, v1, v2, v3, rfl⟩ : ∃ v0 v1 v2 v3 : Value, args = #[v0, v1, v2, v3] := by
    have hs : args.size = 4 := by simpa [Cond.value, given_1] using hcount
    obtain ⟨L⟩ := args
    match L, hs with
    | [v0, v1, v2, v3], _ => exact ⟨v0, v1, v2, v3, rfl⟩
  have hw := fun d (hd : d ∈ tables_1) => atoms_spec (ws := Jvm.Cond.code x code maxLocals ret :: tables_1) hat d (List.mem_cons_of_mem _ hd)
  have hfit : Fit s := fun {y c} hc i hi => by
    obtain ⟨ha, rfl⟩ := Array.getElem?_eq_some_iff.mp hc
    have q := List.all_eq_true.mp ((Array.all_eq_true_iff_forall_mem.mp hF) _ (Array.getElem_mem ha)) i (List.mem_range.mpr hi)
    simpa [Array.getElem?_eq_getElem hi] using q
  obtain ⟨hsets, hown0⟩ := atoms_of _ (rest_1_c_eq ▸ (show rest_1_c.before _ s = true from hrest))
  obtain ⟨i0, ei0⟩ := is_v ha0
  obtain rfl : v0 = (.int i0) := Option.some.inj ei0
  obtain ⟨i1, ei1⟩ := is_v ha1
  obtain rfl : v1 = (.int i1) := Option.some.inj ei1
  obtain ⟨i2, ei2⟩ := is_v ha2
  obtain rfl : v2 = (.int i2) := Option.some.inj ei2
  obtain ⟨i3, ei3⟩ := is_v ha3
  obtain rfl : v3 = (.int i3) := Option.some.inj ei3
  obtain ⟨n0a, n0b⟩ := and_e hn
  obtain ⟨n1a, n1b⟩ := and_e n0b
  obtain ⟨n2a, n2b⟩ := and_e n1b
  obtain ⟨n3a, n3b⟩ := and_e n2b
  obtain ⟨n4a, n4b⟩ := and_e n3b
  obtain ⟨n5a, n5b⟩ := and_e n4b
  obtain ⟨n6a, n6b⟩ := and_e n5b
  obtain ⟨w_s_CallListEntry_Direction_OUTGOING, ev_s_CallListEntry_Direction_OUTGOING⟩ := exa_v n0a
  have S_s_CallListEntry_Direction_OUTGOING := sta_of ev_s_CallListEntry_Direction_OUTGOING (hw _ (List.mem_of_getElem? (i := 1) rfl)) (hw _ (List.mem_of_getElem? (i := 2) rfl))
  have E_s_CallListEntry_Direction_OUTGOING := Exa.start ev_s_CallListEntry_Direction_OUTGOING n0a
  obtain ⟨w_s_CallListEntry_State_HELD, ev_s_CallListEntry_State_HELD⟩ := exa_v n1a
  have S_s_CallListEntry_State_HELD := sta_of ev_s_CallListEntry_State_HELD (hw _ (List.mem_of_getElem? (i := 8) rfl)) (hw _ (List.mem_of_getElem? (i := 9) rfl))
  have E_s_CallListEntry_State_HELD := Exa.start ev_s_CallListEntry_State_HELD n1a
  obtain ⟨w_s_CallListEntry_State_DIALING, ev_s_CallListEntry_State_DIALING⟩ := exa_v n2a
  have S_s_CallListEntry_State_DIALING := sta_of ev_s_CallListEntry_State_DIALING (hw _ (List.mem_of_getElem? (i := 8) rfl)) (hw _ (List.mem_of_getElem? (i := 51) rfl))
  have E_s_CallListEntry_State_DIALING := Exa.start ev_s_CallListEntry_State_DIALING n2a
  obtain ⟨w_s_CallListEntry_State_INCOMING, ev_s_CallListEntry_State_INCOMING⟩ := exa_v n3a
  have S_s_CallListEntry_State_INCOMING := sta_of ev_s_CallListEntry_State_INCOMING (hw _ (List.mem_of_getElem? (i := 8) rfl)) (hw _ (List.mem_of_getElem? (i := 53) rfl))
  have E_s_CallListEntry_State_INCOMING := Exa.start ev_s_CallListEntry_State_INCOMING n3a
  obtain ⟨w_s_CallListEntry_Direction_INCOMING, ev_s_CallListEntry_Direction_INCOMING⟩ := exa_v n4a
  have S_s_CallListEntry_Direction_INCOMING := sta_of ev_s_CallListEntry_Direction_INCOMING (hw _ (List.mem_of_getElem? (i := 1) rfl)) (hw _ (List.mem_of_getElem? (i := 55) rfl))
  have E_s_CallListEntry_Direction_INCOMING := Exa.start ev_s_CallListEntry_Direction_INCOMING n4a
  obtain ⟨w_s_CallListEntry_State_WAITING, ev_s_CallListEntry_State_WAITING⟩ := exa_v n5a
  have S_s_CallListEntry_State_WAITING := sta_of ev_s_CallListEntry_State_WAITING (hw _ (List.mem_of_getElem? (i := 8) rfl)) (hw _ (List.mem_of_getElem? (i := 57) rfl))
  have E_s_CallListEntry_State_WAITING := Exa.start ev_s_CallListEntry_State_WAITING n5a
  obtain ⟨w_s_CallListEntry_State_ALERTING, ev_s_CallListEntry_State_ALERTING⟩ := exa_v n6a
  have S_s_CallListEntry_State_ALERTING := sta_of ev_s_CallListEntry_State_ALERTING (hw _ (List.mem_of_getElem? (i := 8) rfl)) (hw _ (List.mem_of_getElem? (i := 81) rfl))
  have E_s_CallListEntry_State_ALERTING := Exa.start ev_s_CallListEntry_State_ALERTING n6a
  obtain ⟨w_s_CallListEntry_State_ACTIVE, ev_s_CallListEntry_State_ACTIVE⟩ := exa_v n6b
  have S_s_CallListEntry_State_ACTIVE := sta_of ev_s_CallListEntry_State_ACTIVE (hw _ (List.mem_of_getElem? (i := 8) rfl)) (hw _ (List.mem_of_getElem? (i := 83) rfl))
  have E_s_CallListEntry_State_ACTIVE := Exa.start ev_s_CallListEntry_State_ACTIVE n6b
  obtain ⟨cs, ev_cs⟩ := is_v (Cond.before_iff.mp (hsets _ (List.mem_of_getElem? (i := 1) rfl)))
  have S_cs := sta_for ev_cs (hsets _ (List.mem_of_getElem? (i := 0) rfl))
  have qcs := not_v (Cond.before_iff.mp (hsets _ (List.mem_of_getElem? (i := 2) rfl)))
  have ncs : ¬ cs = (0 : Int32) := fun q => by subst q; simp [Cond.value, ev_cs, Term.int_eval] at qcs
  obtain ⟨n, o, h1, h2, h3, v, L, rfl, ⟨N, -, w, rfl, hv⟩, hq⟩ := rm0 l s _ hw i0 i1 i2 i3 w_s_CallListEntry_Direction_OUTGOING w_s_CallListEntry_State_HELD w_s_CallListEntry_State_DIALING w_s_CallListEntry_State_INCOMING w_s_CallListEntry_Direction_INCOMING w_s_CallListEntry_State_WAITING w_s_CallListEntry_State_ALERTING w_s_CallListEntry_State_ACTIVE cs s.heap (Ext.refl _) S_s_CallListEntry_Direction_OUTGOING E_s_CallListEntry_Direction_OUTGOING S_s_CallListEntry_State_HELD E_s_CallListEntry_State_HELD S_s_CallListEntry_State_DIALING E_s_CallListEntry_State_DIALING S_s_CallListEntry_State_INCOMING E_s_CallListEntry_State_INCOMING S_s_CallListEntry_Direction_INCOMING E_s_CallListEntry_Direction_INCOMING S_s_CallListEntry_State_WAITING E_s_CallListEntry_State_WAITING S_s_CallListEntry_State_ALERTING E_s_CallListEntry_State_ALERTING S_s_CallListEntry_State_ACTIVE E_s_CallListEntry_State_ACTIVE S_cs ncs p e ha hc hk s m _ below hf ((Spec.applies_iff_loose hf).mp happ).1 ⟨rfl, State.Warmed39.refl s, rfl⟩ trivial
  obtain rfl : w = .int 1 := hv
  refine ⟨n, _, h1, h2, h3, hpost _ _ _ _ _ _ ⟨Cond.after_iff.mpr rfl, Cond.after_iff.mpr (eq_i res_at (Term.int_eval (1)) rfl), trivial⟩ ⟨hq.1, hq.2.1, hq.2.2.1, (hq.2.2.2.sift fun y hy => Or.inr (N y hy)).mono (by decide) (by decide)⟩⟩
theorem main_1_1 : Claimed_1_1 := comes_1 fun _ _ _ _ _ _ h hF => ⟨h.1, hF⟩
theorem main_1_2 : Claimed_1_2 := comes_1 fun _ _ _ _ _ _ h hF => ⟨h.2.1, hF⟩
end Jvm.Pilot.@@N@@
namespace Jvm.Pilot.@@N@@
open Jvm Jvm.ClassFile Sem Op Lib Jvm.Free Jvm.Stand Jvm.Pilot.@@N@@.Jvm.D
/-! MADE BY PROGRAM (witnessworld.py) out of the Statement's table words and the real class files: 24 classes; the members and pool entries that the words name. The judged class is class 1, her method 2. -/
namespace start1
open Jvm.ClassFile
def u (s : String) : CpInfo := .utf8 (stringToUtf16 s)
/-- a pool by its gaps: so many unusable entries, then the entry; so many at the end -/
def gap : Nat → List CpInfo → List CpInfo
  | 0, r => r
  | n + 1, r => .unusable :: gap n r
def poolList (es : List (Nat × CpInfo)) (last : Nat) : List CpInfo := es.foldr (fun e r => gap e.1 (e.2 :: r)) (gap last [])
def pool (es : List (Nat × CpInfo)) (last : Nat) : Array CpInfo := ⟨poolList es last⟩
def fileOf (pool : Array CpInfo) (this : Nat) (attrs : Array Attribute := #[]) (ms : Array MethodInfo := #[]) (fl : Nat := 33) (sup : Nat := 0) (ifs : Array Nat := #[]) (fds : Array FieldInfo := #[]) : ClassFile where
  minorVersion := 0
  majorVersion := 65
  constantPool := pool
  accessFlags := fl
  thisClass := this
  superClass := sup
  interfaces := ifs
  fields := fds
  methods := ms
  attributes := attrs
def plain (name : String) (sup : Option ClassId) : Class where
  name := name
  kind := .ordinary
  loader := none
  accessFlags := 33
  super := sup
  interfaces := #[]
  cf := none
  fields := #[]
  methods := #[]
  instanceTypes := #[]
  staticTypes := #[]
  resolved := #[]
  callSites := []
  init := .initialized
  statics := none
  mirror := none

def pool0 : Array CpInfo := pool [(5, u "<init>"), (0, u "()V"), (1, .class_ 10), (1, u "java/lang/Object")] 113

def k0c0 : Code := { maxStack := 0, maxLocals := 1, code := object_method_1_code, exceptionTable := #[], attributes := #[] }
def k0m0 : Method := { name := "<init>", desc := "()V", sig := { parameters := [], returnType := none }, accessFlags := 1, code := some k0c0 }
/-- java/lang/Object -/
def k0 : Class := { plain "java/lang/Object" none with
  accessFlags := 33
  interfaces := #[]
  cf := some (fileOf pool0 8 #[] #[{ accessFlags := 1, nameIndex := 5, descriptorIndex := 6, attributes := #[] }] 33 0 #[] #[])
  fields := #[]
  methods := #[k0m0]
  instanceTypes := #[]
  staticTypes := #[]
  resolved := Array.replicate 124 none
  statics := none }

def pool1 : Array CpInfo := pool [(2, .class_ 4), (1, u "java/lang/Object"), (0, u "<init>"), (0, u "()V"), (0, .fieldref 8 9), (0, .class_ 10), (0, .nameAndType 11 12), (0, u "com/example/dial_to_radio/dialtoradio/at/CallListEntry$State"), (0, u "ACTIVE"), (0, u "Lcom/example/dial_to_radio/dialtoradio/at/CallListEntry$State;"), (0, .fieldref 8 14), (0, .nameAndType 15 12), (0, u "HELD"), (0, .fieldref 8 17), (0, .nameAndType 18 12), (0, u "DIALING"), (0, .fieldref 8 20), (0, .nameAndType 21 12), (0, u "ALERTING"), (0, .fieldref 8 23), (0, .nameAndType 24 12), (0, u "INCOMING"), (0, .fieldref 8 26), (0, .nameAndType 27 12), (0, u "WAITING"), (0, .fieldref 29 30), (0, .class_ 31), (0, .nameAndType 24 32), (0, u "com/example/dial_to_radio/dialtoradio/at/CallListEntry$Direction"), (0, u "Lcom/example/dial_to_radio/dialtoradio/at/CallListEntry$Direction;"), (0, .fieldref 29 34), (0, .nameAndType 35 32), (0, u "OUTGOING"), (0, .methodref 37 38), (0, .class_ 39), (0, .nameAndType 40 41), (0, u "com/example/dial_to_radio/dialtoradio/at/CallListEntryIsVoicePinLaw"), (0, u "state"), (0, u "(I)Lcom/example/dial_to_radio/dialtoradio/at/CallListEntry$State;"), (0, .class_ 43), (0, u "java/lang/String"), (0, .methodref 42 45), (0, .nameAndType 5 46), (0, u "([C)V"), (0, .string 48), (0, u ""), (0, .class_ 50), (0, u "com/example/dial_to_radio/dialtoradio/at/CallListEntry"), (0, .methodref 49 52), (0, .nameAndType 5 53), (0, u "(ILcom/example/dial_to_radio/dialtoradio/at/CallListEntry$Direction;Lcom/example/dial_to_radio/dialtoradio/at/CallListEntry$State;IZLjava/lang/String;)V"), (0, .methodref 49 55), (0, .nameAndType 56 57), (0, u "isVoice"), (0, u "()Z"), (3, u "law"), (0, u "(IIII)Z")] 7

def k1m0 : Method := { name := "<init>", desc := "()V", sig := { parameters := [], returnType := none }, accessFlags := 1, code := none }
def k1c1 : Code := { maxStack := 2, maxLocals := 1, code := method_2_code, exceptionTable := #[], attributes := #[] }
def k1m1 : Method := { name := "state", desc := "(I)Lcom/example/dial_to_radio/dialtoradio/at/CallListEntry$State;", sig := { parameters := [.int], returnType := some (.object "com/example/dial_to_radio/dialtoradio/at/CallListEntry$State") }, accessFlags := 10, code := some k1c1 }
def k1c2 : Code := { maxStack := 8, maxLocals := 12, code := code, exceptionTable := #[], attributes := #[] }
def k1m2 : Method := { name := "law", desc := "(IIII)Z", sig := { parameters := [.int, .int, .int, .int], returnType := some .boolean }, accessFlags := 9, code := some k1c2 }
/-- com/example/dial_to_radio/dialtoradio/at/CallListEntryIsVoicePinLaw -/
def k1 : Class := { plain "com/example/dial_to_radio/dialtoradio/at/CallListEntryIsVoicePinLaw" (some 0) with
  accessFlags := 49
  interfaces := #[]
  cf := some (fileOf pool1 37 #[] #[{ accessFlags := 1, nameIndex := 5, descriptorIndex := 6, attributes := #[] }, { accessFlags := 10, nameIndex := 40, descriptorIndex := 41, attributes := #[] }, { accessFlags := 9, nameIndex := 61, descriptorIndex := 62, attributes := #[] }] 49 2 #[] #[])
  fields := #[]
  methods := #[k1m0, k1m1, k1m2]
  instanceTypes := #[]
  staticTypes := #[]
  resolved := Array.replicate 70 none
  statics := none }

def pool2 : Array CpInfo := pool [(1, .class_ 2), (0, u "java/lang/constant/Constable"), (0, .class_ 4), (0, u "java/lang/Object")] 6

/-- java/lang/constant/Constable -/
def k2 : Class := { plain "java/lang/constant/Constable" (some 0) with
  accessFlags := 1537
  interfaces := #[]
  cf := some (fileOf pool2 1 #[] #[] 1537 3 #[] #[])
  fields := #[]
  methods := #[]
  instanceTypes := #[]
  staticTypes := #[]
  resolved := Array.replicate 11 none
  statics := none }

def pool3 : Array CpInfo := pool [(1, .class_ 2), (0, u "java/lang/Comparable"), (0, .class_ 4), (0, u "java/lang/Object")] 7

/-- java/lang/Comparable -/
def k3 : Class := { plain "java/lang/Comparable" (some 0) with
  accessFlags := 1537
  interfaces := #[]
  cf := some (fileOf pool3 1 #[] #[] 1537 3 #[] #[])
  fields := #[]
  methods := #[]
  instanceTypes := #[]
  staticTypes := #[]
  resolved := Array.replicate 12 none
  statics := none }

def pool4 : Array CpInfo := pool [(1, .class_ 2), (0, u "java/io/Serializable"), (0, .class_ 4), (0, u "java/lang/Object")] 2

/-- java/io/Serializable -/
def k4 : Class := { plain "java/io/Serializable" (some 0) with
  accessFlags := 1537
  interfaces := #[]
  cf := some (fileOf pool4 1 #[] #[] 1537 3 #[] #[])
  fields := #[]
  methods := #[]
  instanceTypes := #[]
  staticTypes := #[]
  resolved := Array.replicate 7 none
  statics := none }

def pool5 : Array CpInfo := pool [(2, .class_ 4), (1, u "java/lang/Enum"), (0, u "name"), (0, u "Ljava/lang/String;"), (2, u "ordinal"), (0, u "I"), (1, .class_ 14), (1, u "java/lang/Object"), (4, u "hash"), (86, .class_ 108), (1, u "java/lang/Enum$EnumDesc"), (2, .class_ 112), (0, u "java/lang/constant/Constable"), (0, .class_ 114), (0, u "java/lang/Comparable"), (0, .class_ 116), (0, u "java/io/Serializable")] 87

/-- java/lang/Enum -/
def k5 : Class := { plain "java/lang/Enum" (some 0) with
  accessFlags := 1057
  interfaces := #[2, 3, 4]
  cf := some (fileOf pool5 2 #[.nestMembers #[106]] #[] 1057 12 #[111, 113, 115] #[{ accessFlags := 18, nameIndex := 5, descriptorIndex := 6, attributes := #[] }, { accessFlags := 18, nameIndex := 9, descriptorIndex := 10, attributes := #[] }, { accessFlags := 2, nameIndex := 19, descriptorIndex := 10, attributes := #[] }])
  fields := #[{ name := "name", type := (.object "java/lang/String"), accessFlags := 18, slot := 0, constantValue := 0 }, { name := "ordinal", type := .int, accessFlags := 18, slot := 1, constantValue := 0 }, { name := "hash", type := .int, accessFlags := 2, slot := 2, constantValue := 0 }]
  methods := #[]
  instanceTypes := #[(.object "java/lang/String"), .int, .int]
  staticTypes := #[]
  resolved := Array.replicate 204 none
  statics := none }

def pool6 : Array CpInfo := pool [(1, .class_ 2), (0, u "com/example/dial_to_radio/dialtoradio/at/CallListEntry$Direction"), (2, u "OUTGOING"), (0, u "Lcom/example/dial_to_radio/dialtoradio/at/CallListEntry$Direction;"), (2, u "INCOMING"), (2, u "$VALUES"), (0, u "[Lcom/example/dial_to_radio/dialtoradio/at/CallListEntry$Direction;"), (6, .class_ 22), (1, u "java/lang/Enum"), (25, .class_ 49), (0, u "com/example/dial_to_radio/dialtoradio/at/CallListEntry")] 2

/-- com/example/dial_to_radio/dialtoradio/at/CallListEntry$Direction -/
def k6 : Class := { plain "com/example/dial_to_radio/dialtoradio/at/CallListEntry$Direction" (some 5) with
  accessFlags := 16433
  interfaces := #[]
  cf := some (fileOf pool6 1 #[.nestHost 48] #[] 16433 20 #[] #[{ accessFlags := 16409, nameIndex := 5, descriptorIndex := 6, attributes := #[] }, { accessFlags := 16409, nameIndex := 9, descriptorIndex := 6, attributes := #[] }, { accessFlags := 4122, nameIndex := 12, descriptorIndex := 13, attributes := #[] }])
  fields := #[{ name := "OUTGOING", type := (.object "com/example/dial_to_radio/dialtoradio/at/CallListEntry$Direction"), accessFlags := 16409, slot := 0, constantValue := 0 }, { name := "INCOMING", type := (.object "com/example/dial_to_radio/dialtoradio/at/CallListEntry$Direction"), accessFlags := 16409, slot := 1, constantValue := 0 }, { name := "$VALUES", type := (.array (.object "com/example/dial_to_radio/dialtoradio/at/CallListEntry$Direction")), accessFlags := 4122, slot := 2, constantValue := 0 }]
  methods := #[]
  instanceTypes := #[(.object "java/lang/String"), .int, .int]
  staticTypes := #[(.object "com/example/dial_to_radio/dialtoradio/at/CallListEntry$Direction"), (.object "com/example/dial_to_radio/dialtoradio/at/CallListEntry$Direction"), (.array (.object "com/example/dial_to_radio/dialtoradio/at/CallListEntry$Direction"))]
  resolved := Array.replicate 52 none
  statics := some 0 }

def pool7 : Array CpInfo := pool [(1, .class_ 2), (0, u "com/example/dial_to_radio/dialtoradio/at/CallListEntry$State"), (2, u "ACTIVE"), (0, u "Lcom/example/dial_to_radio/dialtoradio/at/CallListEntry$State;"), (2, u "HELD"), (2, u "DIALING"), (2, u "ALERTING"), (2, u "INCOMING"), (2, u "WAITING"), (2, u "$VALUES"), (0, u "[Lcom/example/dial_to_radio/dialtoradio/at/CallListEntry$State;"), (6, .class_ 34), (1, u "java/lang/Enum"), (29, .class_ 65), (0, u "com/example/dial_to_radio/dialtoradio/at/CallListEntry")] 2

/-- com/example/dial_to_radio/dialtoradio/at/CallListEntry$State -/
def k7 : Class := { plain "com/example/dial_to_radio/dialtoradio/at/CallListEntry$State" (some 5) with
  accessFlags := 16433
  interfaces := #[]
  cf := some (fileOf pool7 1 #[.nestHost 64] #[] 16433 32 #[] #[{ accessFlags := 16409, nameIndex := 5, descriptorIndex := 6, attributes := #[] }, { accessFlags := 16409, nameIndex := 9, descriptorIndex := 6, attributes := #[] }, { accessFlags := 16409, nameIndex := 12, descriptorIndex := 6, attributes := #[] }, { accessFlags := 16409, nameIndex := 15, descriptorIndex := 6, attributes := #[] }, { accessFlags := 16409, nameIndex := 18, descriptorIndex := 6, attributes := #[] }, { accessFlags := 16409, nameIndex := 21, descriptorIndex := 6, attributes := #[] }, { accessFlags := 4122, nameIndex := 24, descriptorIndex := 25, attributes := #[] }])
  fields := #[{ name := "ACTIVE", type := (.object "com/example/dial_to_radio/dialtoradio/at/CallListEntry$State"), accessFlags := 16409, slot := 0, constantValue := 0 }, { name := "HELD", type := (.object "com/example/dial_to_radio/dialtoradio/at/CallListEntry$State"), accessFlags := 16409, slot := 1, constantValue := 0 }, { name := "DIALING", type := (.object "com/example/dial_to_radio/dialtoradio/at/CallListEntry$State"), accessFlags := 16409, slot := 2, constantValue := 0 }, { name := "ALERTING", type := (.object "com/example/dial_to_radio/dialtoradio/at/CallListEntry$State"), accessFlags := 16409, slot := 3, constantValue := 0 }, { name := "INCOMING", type := (.object "com/example/dial_to_radio/dialtoradio/at/CallListEntry$State"), accessFlags := 16409, slot := 4, constantValue := 0 }, { name := "WAITING", type := (.object "com/example/dial_to_radio/dialtoradio/at/CallListEntry$State"), accessFlags := 16409, slot := 5, constantValue := 0 }, { name := "$VALUES", type := (.array (.object "com/example/dial_to_radio/dialtoradio/at/CallListEntry$State")), accessFlags := 4122, slot := 6, constantValue := 0 }]
  methods := #[]
  instanceTypes := #[(.object "java/lang/String"), .int, .int]
  staticTypes := #[(.object "com/example/dial_to_radio/dialtoradio/at/CallListEntry$State"), (.object "com/example/dial_to_radio/dialtoradio/at/CallListEntry$State"), (.object "com/example/dial_to_radio/dialtoradio/at/CallListEntry$State"), (.object "com/example/dial_to_radio/dialtoradio/at/CallListEntry$State"), (.object "com/example/dial_to_radio/dialtoradio/at/CallListEntry$State"), (.object "com/example/dial_to_radio/dialtoradio/at/CallListEntry$State"), (.array (.object "com/example/dial_to_radio/dialtoradio/at/CallListEntry$State"))]
  resolved := Array.replicate 68 none
  statics := some 1 }

def pool8 : Array CpInfo := pool [(2, .class_ 4), (1, u "java/lang/CharSequence"), (42, .class_ 48), (0, u "java/lang/CharSequence$1CodePointIterator"), (10, .class_ 60), (0, u "java/lang/CharSequence$1CharIterator"), (5, .class_ 67), (0, u "java/lang/Object")] 63

/-- java/lang/CharSequence -/
def k8 : Class := { plain "java/lang/CharSequence" (some 0) with
  accessFlags := 1537
  interfaces := #[]
  cf := some (fileOf pool8 2 #[.nestMembers #[47, 59]] #[] 1537 66 #[] #[])
  fields := #[]
  methods := #[]
  instanceTypes := #[]
  staticTypes := #[]
  resolved := Array.replicate 131 none
  statics := none }

def pool9 : Array CpInfo := pool [(1, .class_ 2), (0, u "java/lang/constant/ConstantDesc"), (0, .class_ 4), (0, u "java/lang/Object")] 32

/-- java/lang/constant/ConstantDesc -/
def k9 : Class := { plain "java/lang/constant/ConstantDesc" (some 0) with
  accessFlags := 1537
  interfaces := #[]
  cf := some (fileOf pool9 1 #[] #[] 1537 3 #[] #[])
  fields := #[]
  methods := #[]
  instanceTypes := #[]
  staticTypes := #[]
  resolved := Array.replicate 37 none
  statics := none }

def pool10 : Array CpInfo := pool [(1, .methodref 2 3), (0, .class_ 4), (0, .nameAndType 5 6), (0, u "java/lang/Object"), (0, u "<init>"), (0, u "()V"), (2, .fieldref 10 11), (0, .class_ 12), (0, .nameAndType 13 14), (0, u "java/lang/String"), (0, u "value"), (0, u "[B"), (0, .fieldref 10 16), (0, .nameAndType 17 18), (0, u "coder"), (0, u "B"), (2, u "hash"), (0, u "I"), (2, u "hashIsZero"), (0, u "Z"), (0, .methodref 10 28), (0, .nameAndType 5 29), (0, u "([CIILjava/lang/Void;)V"), (8, .fieldref 10 39), (0, .nameAndType 40 26), (0, u "COMPACT_STRINGS"), (1, .class_ 44), (1, u "java/lang/StringUTF16"), (0, u "compress"), (1, .methodref 42 48), (0, .nameAndType 49 50), (0, u "coderFromArrayLen"), (0, u "([BI)B"), (126, .methodref 42 178), (0, .nameAndType 45 179), (0, u "([CII)[B"), (395, .class_ 576), (0, u "java/lang/CharSequence"), (22, u "CASE_INSENSITIVE_ORDER"), (0, u "Ljava/util/Comparator;"), (409, u "([C)V"), (90, u "serialPersistentFields"), (0, u "[Ljava/io/ObjectStreamField;"), (0, .class_ 1104), (0, u "java/lang/String$CaseInsensitiveComparator"), (1, .class_ 1107), (0, u "java/io/Serializable"), (0, .class_ 1109), (0, u "java/lang/Comparable"), (0, .class_ 1111), (0, u "java/lang/constant/Constable"), (0, .class_ 1113), (0, u "java/lang/constant/ConstantDesc"), (2, u "serialVersionUID"), (0, u "J"), (3, u "REPL"), (0, u "C"), (2, u "LATIN1"), (1, u "UTF16")] 323

def k10m0 : Method := { name := "<init>", desc := "()V", sig := { parameters := [], returnType := none }, accessFlags := 1, code := none }
def k10c1 : Code := { maxStack := 5, maxLocals := 2, code := jdk_42_method_3_code, exceptionTable := #[], attributes := #[] }
def k10m1 : Method := { name := "<init>", desc := "([C)V", sig := { parameters := [(.array .char)], returnType := none }, accessFlags := 1, code := some k10c1 }
def k10c2 : Code := { maxStack := 4, maxLocals := 6, code := jdk_42_method_149_code, exceptionTable := #[], attributes := #[] }
def k10m2 : Method := { name := "<init>", desc := "([CIILjava/lang/Void;)V", sig := { parameters := [(.array .char), .int, .int, (.object "java/lang/Void")], returnType := none }, accessFlags := 2, code := some k10c2 }
/-- java/lang/String -/
def k10 : Class := { plain "java/lang/String" (some 0) with
  accessFlags := 49
  interfaces := #[4, 3, 8, 2, 9]
  cf := some (fileOf pool10 10 #[.nestMembers #[1103]] #[{ accessFlags := 1, nameIndex := 5, descriptorIndex := 6, attributes := #[] }, { accessFlags := 1, nameIndex := 5, descriptorIndex := 1010, attributes := #[] }, { accessFlags := 2, nameIndex := 5, descriptorIndex := 29, attributes := #[] }] 49 2 #[1106, 1108, 575, 1110, 1112] #[{ accessFlags := 18, nameIndex := 13, descriptorIndex := 14, attributes := #[] }, { accessFlags := 18, nameIndex := 17, descriptorIndex := 18, attributes := #[] }, { accessFlags := 2, nameIndex := 21, descriptorIndex := 22, attributes := #[] }, { accessFlags := 2, nameIndex := 25, descriptorIndex := 26, attributes := #[] }, { accessFlags := 26, nameIndex := 1116, descriptorIndex := 1117, attributes := #[] }, { accessFlags := 24, nameIndex := 40, descriptorIndex := 26, attributes := #[] }, { accessFlags := 26, nameIndex := 1101, descriptorIndex := 1102, attributes := #[] }, { accessFlags := 26, nameIndex := 1121, descriptorIndex := 1122, attributes := #[] }, { accessFlags := 25, nameIndex := 599, descriptorIndex := 600, attributes := #[] }, { accessFlags := 24, nameIndex := 1125, descriptorIndex := 18, attributes := #[] }, { accessFlags := 24, nameIndex := 1127, descriptorIndex := 18, attributes := #[] }])
  fields := #[{ name := "value", type := (.array .byte), accessFlags := 18, slot := 0, constantValue := 0 }, { name := "coder", type := .byte, accessFlags := 18, slot := 1, constantValue := 0 }, { name := "hash", type := .int, accessFlags := 2, slot := 2, constantValue := 0 }, { name := "hashIsZero", type := .boolean, accessFlags := 2, slot := 3, constantValue := 0 }, { name := "serialVersionUID", type := .long, accessFlags := 26, slot := 0, constantValue := 0 }, { name := "COMPACT_STRINGS", type := .boolean, accessFlags := 24, slot := 1, constantValue := 0 }, { name := "serialPersistentFields", type := (.array (.object "java/io/ObjectStreamField")), accessFlags := 26, slot := 2, constantValue := 0 }, { name := "REPL", type := .char, accessFlags := 26, slot := 3, constantValue := 0 }, { name := "CASE_INSENSITIVE_ORDER", type := (.object "java/util/Comparator"), accessFlags := 25, slot := 4, constantValue := 0 }, { name := "LATIN1", type := .byte, accessFlags := 24, slot := 5, constantValue := 0 }, { name := "UTF16", type := .byte, accessFlags := 24, slot := 6, constantValue := 0 }]
  methods := #[k10m0, k10m1, k10m2]
  instanceTypes := #[(.array .byte), .byte, .int, .boolean]
  staticTypes := #[.long, .boolean, (.array (.object "java/io/ObjectStreamField")), .char, (.object "java/util/Comparator"), .byte, .byte]
  resolved := Array.replicate 1451 none
  statics := some 2 }

def pool11 : Array CpInfo := pool [(1, .methodref 2 3), (0, .class_ 4), (0, .nameAndType 5 6), (0, u "java/lang/Object"), (0, u "<init>"), (0, u "()V"), (0, .class_ 8), (0, u "java/lang/Record")] 13

def k11c0 : Code := { maxStack := 1, maxLocals := 1, code := jdk_30_method_1_code, exceptionTable := #[], attributes := #[] }
def k11m0 : Method := { name := "<init>", desc := "()V", sig := { parameters := [], returnType := none }, accessFlags := 4, code := some k11c0 }
/-- java/lang/Record -/
def k11 : Class := { plain "java/lang/Record" (some 0) with
  accessFlags := 1057
  interfaces := #[]
  cf := some (fileOf pool11 7 #[] #[{ accessFlags := 4, nameIndex := 5, descriptorIndex := 6, attributes := #[] }] 1057 2 #[] #[])
  fields := #[]
  methods := #[k11m0]
  instanceTypes := #[]
  staticTypes := #[]
  resolved := Array.replicate 22 none
  statics := none }

def pool12 : Array CpInfo := pool [(1, .methodref 2 3), (0, .class_ 4), (0, .nameAndType 5 6), (0, u "java/lang/Record"), (0, u "<init>"), (0, u "()V"), (0, .fieldref 8 9), (0, .class_ 10), (0, .nameAndType 11 12), (0, u "com/example/dial_to_radio/dialtoradio/at/CallListEntry"), (0, u "id"), (0, u "I"), (0, .fieldref 8 14), (0, .nameAndType 15 16), (0, u "direction"), (0, u "Lcom/example/dial_to_radio/dialtoradio/at/CallListEntry$Direction;"), (0, .fieldref 8 18), (0, .nameAndType 19 20), (0, u "state"), (0, u "Lcom/example/dial_to_radio/dialtoradio/at/CallListEntry$State;"), (0, .fieldref 8 22), (0, .nameAndType 23 12), (0, u "mode"), (0, .fieldref 8 25), (0, .nameAndType 26 27), (0, u "multiparty"), (0, u "Z"), (0, .fieldref 8 29), (0, .nameAndType 30 31), (0, u "number"), (0, u "Ljava/lang/String;"), (34, .class_ 68), (1, u "com/example/dial_to_radio/dialtoradio/at/CallListEntry$Direction"), (9, .class_ 80), (1, u "com/example/dial_to_radio/dialtoradio/at/CallListEntry$State"), (22, u "()Z"), (12, u "(ILcom/example/dial_to_radio/dialtoradio/at/CallListEntry$Direction;Lcom/example/dial_to_radio/dialtoradio/at/CallListEntry$State;IZLjava/lang/String;)V"), (74, u "COMMAND"), (3, u "PREFIX"), (0, u "VOICE_MODE"), (1, u "DATA_MODE"), (14, u "isVoice")] 51

def k12c0 : Code := { maxStack := 2, maxLocals := 7, code := prog_4_method_1_code, exceptionTable := #[], attributes := #[] }
def k12m0 : Method := { name := "<init>", desc := "(ILcom/example/dial_to_radio/dialtoradio/at/CallListEntry$Direction;Lcom/example/dial_to_radio/dialtoradio/at/CallListEntry$State;IZLjava/lang/String;)V", sig := { parameters := [.int, (.object "com/example/dial_to_radio/dialtoradio/at/CallListEntry$Direction"), (.object "com/example/dial_to_radio/dialtoradio/at/CallListEntry$State"), .int, .boolean, (.object "java/lang/String")], returnType := none }, accessFlags := 1, code := some k12c0 }
def k12c1 : Code := { maxStack := 1, maxLocals := 1, code := prog_4_method_7_code, exceptionTable := #[], attributes := #[] }
def k12m1 : Method := { name := "isVoice", desc := "()Z", sig := { parameters := [], returnType := some .boolean }, accessFlags := 1, code := some k12c1 }
/-- com/example/dial_to_radio/dialtoradio/at/CallListEntry -/
def k12 : Class := { plain "com/example/dial_to_radio/dialtoradio/at/CallListEntry" (some 11) with
  accessFlags := 49
  interfaces := #[]
  cf := some (fileOf pool12 8 #[.nestMembers #[78, 66]] #[{ accessFlags := 1, nameIndex := 5, descriptorIndex := 116, attributes := #[] }, { accessFlags := 1, nameIndex := 213, descriptorIndex := 103, attributes := #[] }] 49 2 #[] #[{ accessFlags := 18, nameIndex := 11, descriptorIndex := 12, attributes := #[] }, { accessFlags := 18, nameIndex := 15, descriptorIndex := 16, attributes := #[] }, { accessFlags := 18, nameIndex := 19, descriptorIndex := 20, attributes := #[] }, { accessFlags := 18, nameIndex := 23, descriptorIndex := 12, attributes := #[] }, { accessFlags := 18, nameIndex := 26, descriptorIndex := 27, attributes := #[] }, { accessFlags := 18, nameIndex := 30, descriptorIndex := 31, attributes := #[] }, { accessFlags := 25, nameIndex := 191, descriptorIndex := 31, attributes := #[] }, { accessFlags := 25, nameIndex := 195, descriptorIndex := 31, attributes := #[] }, { accessFlags := 25, nameIndex := 196, descriptorIndex := 12, attributes := #[] }, { accessFlags := 25, nameIndex := 198, descriptorIndex := 12, attributes := #[] }])
  fields := #[{ name := "id", type := .int, accessFlags := 18, slot := 0, constantValue := 0 }, { name := "direction", type := (.object "com/example/dial_to_radio/dialtoradio/at/CallListEntry$Direction"), accessFlags := 18, slot := 1, constantValue := 0 }, { name := "state", type := (.object "com/example/dial_to_radio/dialtoradio/at/CallListEntry$State"), accessFlags := 18, slot := 2, constantValue := 0 }, { name := "mode", type := .int, accessFlags := 18, slot := 3, constantValue := 0 }, { name := "multiparty", type := .boolean, accessFlags := 18, slot := 4, constantValue := 0 }, { name := "number", type := (.object "java/lang/String"), accessFlags := 18, slot := 5, constantValue := 0 }, { name := "COMMAND", type := (.object "java/lang/String"), accessFlags := 25, slot := 0, constantValue := 0 }, { name := "PREFIX", type := (.object "java/lang/String"), accessFlags := 25, slot := 1, constantValue := 0 }, { name := "VOICE_MODE", type := .int, accessFlags := 25, slot := 2, constantValue := 0 }, { name := "DATA_MODE", type := .int, accessFlags := 25, slot := 3, constantValue := 0 }]
  methods := #[k12m0, k12m1]
  instanceTypes := #[.int, (.object "com/example/dial_to_radio/dialtoradio/at/CallListEntry$Direction"), (.object "com/example/dial_to_radio/dialtoradio/at/CallListEntry$State"), .int, .boolean, (.object "java/lang/String")]
  staticTypes := #[(.object "java/lang/String"), (.object "java/lang/String"), .int, .int]
  resolved := Array.replicate 265 none
  statics := none }

def pool13 : Array CpInfo := pool [(6, .class_ 8), (1, u "java/lang/Object"), (0, u "<init>"), (0, u "()V"), (1, .class_ 14), (1, u "java/lang/StringUTF16"), (31, u "$assertionsDisabled"), (0, u "Z"), (13, u "HI_BYTE_SHIFT"), (0, u "I"), (2, u "LO_BYTE_SHIFT"), (49, .methodref 12 116), (0, .nameAndType 117 118), (0, u "compress"), (0, u "([CI[BII)I"), (3, u "([CII)[B"), (138, u "coderFromArrayLen"), (0, u "([BI)B"), (106, .class_ 371), (1, u "java/lang/StringUTF16$LinesSpliterator"), (58, u "MAX_LENGTH"), (196, .class_ 628), (0, u "java/lang/StringUTF16$CodePointsSpliterator"), (0, .class_ 630), (0, u "java/lang/StringUTF16$CharsSpliterator")] 4

def k13m0 : Method := { name := "<init>", desc := "()V", sig := { parameters := [], returnType := none }, accessFlags := 0, code := none }
def k13c1 : Code := { maxStack := 2, maxLocals := 2, code := jdk_52_method_15_code, exceptionTable := #[], attributes := #[] }
def k13m1 : Method := { name := "coderFromArrayLen", desc := "([BI)B", sig := { parameters := [(.array .byte), .int], returnType := some .byte }, accessFlags := 8, code := some k13c1 }
def k13c2 : Code := { maxStack := 5, maxLocals := 6, code := jdk_52_method_16_code, exceptionTable := #[], attributes := #[] }
def k13m2 : Method := { name := "compress", desc := "([CII)[B", sig := { parameters := [(.array .char), .int, .int], returnType := some (.array .byte) }, accessFlags := 9, code := some k13c2 }
def k13c3 : Code := { maxStack := 3, maxLocals := 7, code := jdk_52_method_21_code, exceptionTable := #[], attributes := #[] }
def k13m3 : Method := { name := "compress", desc := "([CI[BII)I", sig := { parameters := [(.array .char), .int, (.array .byte), .int, .int], returnType := some .int }, accessFlags := 9, code := some k13c3 }
/-- java/lang/StringUTF16 -/
def k13 : Class := { plain "java/lang/StringUTF16" (some 0) with
  accessFlags := 48
  interfaces := #[]
  cf := some (fileOf pool13 12 #[.nestMembers #[627, 629, 369]] #[{ accessFlags := 0, nameIndex := 9, descriptorIndex := 10, attributes := #[] }, { accessFlags := 8, nameIndex := 261, descriptorIndex := 262, attributes := #[] }, { accessFlags := 9, nameIndex := 117, descriptorIndex := 122, attributes := #[] }, { accessFlags := 9, nameIndex := 117, descriptorIndex := 118, attributes := #[] }] 48 6 #[] #[{ accessFlags := 26, nameIndex := 61, descriptorIndex := 62, attributes := #[] }, { accessFlags := 26, nameIndex := 65, descriptorIndex := 62, attributes := #[] }, { accessFlags := 24, nameIndex := 430, descriptorIndex := 62, attributes := #[] }, { accessFlags := 4120, nameIndex := 46, descriptorIndex := 47, attributes := #[] }])
  fields := #[{ name := "HI_BYTE_SHIFT", type := .int, accessFlags := 26, slot := 0, constantValue := 0 }, { name := "LO_BYTE_SHIFT", type := .int, accessFlags := 26, slot := 1, constantValue := 0 }, { name := "MAX_LENGTH", type := .int, accessFlags := 24, slot := 2, constantValue := 0 }, { name := "$assertionsDisabled", type := .boolean, accessFlags := 4120, slot := 3, constantValue := 0 }]
  methods := #[k13m0, k13m1, k13m2, k13m3]
  instanceTypes := #[]
  staticTypes := #[.int, .int, .int, .boolean]
  resolved := Array.replicate 635 none
  statics := none }

def pool14 : Array CpInfo := pool [(4, .class_ 6), (1, u "java/lang/Object"), (0, u "<init>"), (0, u "()V"), (5, .class_ 16), (1, u "java/lang/StringLatin1"), (104, u "$assertionsDisabled"), (0, u "Z"), (98, .class_ 223), (1, u "java/lang/StringLatin1$LinesSpliterator"), (166, .class_ 391), (0, u "java/lang/StringLatin1$CharsSpliterator")] 3

def k14m0 : Method := { name := "<init>", desc := "()V", sig := { parameters := [], returnType := none }, accessFlags := 0, code := none }
/-- java/lang/StringLatin1 -/
def k14 : Class := { plain "java/lang/StringLatin1" (some 0) with
  accessFlags := 48
  interfaces := #[]
  cf := some (fileOf pool14 14 #[.nestMembers #[390, 221]] #[{ accessFlags := 0, nameIndex := 7, descriptorIndex := 8, attributes := #[] }] 48 4 #[] #[{ accessFlags := 4120, nameIndex := 121, descriptorIndex := 122, attributes := #[] }])
  fields := #[{ name := "$assertionsDisabled", type := .boolean, accessFlags := 4120, slot := 0, constantValue := 0 }]
  methods := #[k14m0]
  instanceTypes := #[]
  staticTypes := #[.boolean]
  resolved := Array.replicate 395 none
  statics := none }

def pool15 : Array CpInfo := pool [(2, .class_ 4), (1, u "java/lang/Object"), (0, u "<init>"), (0, u "()V"), (17, .class_ 26), (1, u "jdk/internal/util/Preconditions"), (28, .class_ 56), (0, u "jdk/internal/util/Preconditions$4"), (57, .class_ 115), (0, u "jdk/internal/util/Preconditions$1"), (7, u "SIOOBE_FORMATTER"), (0, u "Ljava/util/function/BiFunction;"), (0, .class_ 126), (0, u "jdk/internal/util/Preconditions$2"), (3, u "AIOOBE_FORMATTER"), (0, .class_ 132), (0, u "jdk/internal/util/Preconditions$3"), (3, u "IOOBE_FORMATTER")] 57

def k15m0 : Method := { name := "<init>", desc := "()V", sig := { parameters := [], returnType := none }, accessFlags := 1, code := none }
/-- jdk/internal/util/Preconditions -/
def k15 : Class := { plain "jdk/internal/util/Preconditions" (some 0) with
  accessFlags := 33
  interfaces := #[]
  cf := some (fileOf pool15 24 #[.nestMembers #[55, 131, 125, 114]] #[{ accessFlags := 1, nameIndex := 5, descriptorIndex := 6, attributes := #[] }] 33 2 #[] #[{ accessFlags := 25, nameIndex := 123, descriptorIndex := 124, attributes := #[] }, { accessFlags := 25, nameIndex := 130, descriptorIndex := 124, attributes := #[] }, { accessFlags := 25, nameIndex := 136, descriptorIndex := 124, attributes := #[] }])
  fields := #[{ name := "SIOOBE_FORMATTER", type := (.object "java/util/function/BiFunction"), accessFlags := 25, slot := 0, constantValue := 0 }, { name := "AIOOBE_FORMATTER", type := (.object "java/util/function/BiFunction"), accessFlags := 25, slot := 1, constantValue := 0 }, { name := "IOOBE_FORMATTER", type := (.object "java/util/function/BiFunction"), accessFlags := 25, slot := 2, constantValue := 0 }]
  methods := #[k15m0]
  instanceTypes := #[]
  staticTypes := #[(.object "java/util/function/BiFunction"), (.object "java/util/function/BiFunction"), (.object "java/util/function/BiFunction")]
  resolved := Array.replicate 194 none
  statics := some 3 }

def pool16 : Array CpInfo := pool [(9, u "<init>"), (6, .class_ 18), (1, u "java/lang/Object"), (0, u "()V"), (1, .class_ 23), (1, u "jdk/internal/util/ArraysSupport"), (0, u "LOG2_ARRAY_LONG_INDEX_SCALE"), (0, u "I"), (2, u "U"), (0, u "Ljdk/internal/misc/Unsafe;"), (8, u "BIG_ENDIAN"), (0, u "Z"), (8, u "LOG2_BYTE_BIT_SIZE"), (4, u "LOG2_ARRAY_INT_INDEX_SCALE"), (54, u "JLA"), (0, u "Ljdk/internal/access/JavaLangAccess;"), (11, u "LOG2_ARRAY_BOOLEAN_INDEX_SCALE"), (9, u "LOG2_ARRAY_BYTE_INDEX_SCALE"), (5, u "LOG2_ARRAY_CHAR_INDEX_SCALE"), (5, u "LOG2_ARRAY_SHORT_INDEX_SCALE"), (18, u "LOG2_ARRAY_FLOAT_INDEX_SCALE"), (24, u "LOG2_ARRAY_DOUBLE_INDEX_SCALE"), (89, u "T_BOOLEAN"), (2, u "T_CHAR"), (1, u "T_FLOAT"), (1, u "T_DOUBLE"), (1, u "T_BYTE"), (1, u "T_SHORT"), (1, u "T_INT"), (1, u "T_LONG"), (1, u "SOFT_MAX_ARRAY_LENGTH")] 83

def k16m0 : Method := { name := "<init>", desc := "()V", sig := { parameters := [], returnType := none }, accessFlags := 2, code := none }
/-- jdk/internal/util/ArraysSupport -/
def k16 : Class := { plain "jdk/internal/util/ArraysSupport" (some 0) with
  accessFlags := 33
  interfaces := #[]
  cf := some (fileOf pool16 21 #[] #[{ accessFlags := 2, nameIndex := 9, descriptorIndex := 19, attributes := #[] }] 33 16 #[] #[{ accessFlags := 24, nameIndex := 28, descriptorIndex := 29, attributes := #[] }, { accessFlags := 26, nameIndex := 38, descriptorIndex := 39, attributes := #[] }, { accessFlags := 25, nameIndex := 121, descriptorIndex := 25, attributes := #[] }, { accessFlags := 25, nameIndex := 131, descriptorIndex := 25, attributes := #[] }, { accessFlags := 25, nameIndex := 137, descriptorIndex := 25, attributes := #[] }, { accessFlags := 25, nameIndex := 143, descriptorIndex := 25, attributes := #[] }, { accessFlags := 25, nameIndex := 53, descriptorIndex := 25, attributes := #[] }, { accessFlags := 25, nameIndex := 24, descriptorIndex := 25, attributes := #[] }, { accessFlags := 25, nameIndex := 162, descriptorIndex := 25, attributes := #[] }, { accessFlags := 25, nameIndex := 187, descriptorIndex := 25, attributes := #[] }, { accessFlags := 26, nameIndex := 48, descriptorIndex := 25, attributes := #[] }, { accessFlags := 25, nameIndex := 277, descriptorIndex := 25, attributes := #[] }, { accessFlags := 25, nameIndex := 280, descriptorIndex := 25, attributes := #[] }, { accessFlags := 25, nameIndex := 282, descriptorIndex := 25, attributes := #[] }, { accessFlags := 25, nameIndex := 284, descriptorIndex := 25, attributes := #[] }, { accessFlags := 25, nameIndex := 286, descriptorIndex := 25, attributes := #[] }, { accessFlags := 25, nameIndex := 288, descriptorIndex := 25, attributes := #[] }, { accessFlags := 25, nameIndex := 290, descriptorIndex := 25, attributes := #[] }, { accessFlags := 25, nameIndex := 292, descriptorIndex := 25, attributes := #[] }, { accessFlags := 26, nameIndex := 108, descriptorIndex := 109, attributes := #[] }, { accessFlags := 25, nameIndex := 294, descriptorIndex := 25, attributes := #[] }])
  fields := #[{ name := "U", type := (.object "jdk/internal/misc/Unsafe"), accessFlags := 24, slot := 0, constantValue := 0 }, { name := "BIG_ENDIAN", type := .boolean, accessFlags := 26, slot := 1, constantValue := 0 }, { name := "LOG2_ARRAY_BOOLEAN_INDEX_SCALE", type := .int, accessFlags := 25, slot := 2, constantValue := 0 }, { name := "LOG2_ARRAY_BYTE_INDEX_SCALE", type := .int, accessFlags := 25, slot := 3, constantValue := 0 }, { name := "LOG2_ARRAY_CHAR_INDEX_SCALE", type := .int, accessFlags := 25, slot := 4, constantValue := 0 }, { name := "LOG2_ARRAY_SHORT_INDEX_SCALE", type := .int, accessFlags := 25, slot := 5, constantValue := 0 }, { name := "LOG2_ARRAY_INT_INDEX_SCALE", type := .int, accessFlags := 25, slot := 6, constantValue := 0 }, { name := "LOG2_ARRAY_LONG_INDEX_SCALE", type := .int, accessFlags := 25, slot := 7, constantValue := 0 }, { name := "LOG2_ARRAY_FLOAT_INDEX_SCALE", type := .int, accessFlags := 25, slot := 8, constantValue := 0 }, { name := "LOG2_ARRAY_DOUBLE_INDEX_SCALE", type := .int, accessFlags := 25, slot := 9, constantValue := 0 }, { name := "LOG2_BYTE_BIT_SIZE", type := .int, accessFlags := 26, slot := 10, constantValue := 0 }, { name := "T_BOOLEAN", type := .int, accessFlags := 25, slot := 11, constantValue := 0 }, { name := "T_CHAR", type := .int, accessFlags := 25, slot := 12, constantValue := 0 }, { name := "T_FLOAT", type := .int, accessFlags := 25, slot := 13, constantValue := 0 }, { name := "T_DOUBLE", type := .int, accessFlags := 25, slot := 14, constantValue := 0 }, { name := "T_BYTE", type := .int, accessFlags := 25, slot := 15, constantValue := 0 }, { name := "T_SHORT", type := .int, accessFlags := 25, slot := 16, constantValue := 0 }, { name := "T_INT", type := .int, accessFlags := 25, slot := 17, constantValue := 0 }, { name := "T_LONG", type := .int, accessFlags := 25, slot := 18, constantValue := 0 }, { name := "JLA", type := (.object "jdk/internal/access/JavaLangAccess"), accessFlags := 26, slot := 19, constantValue := 0 }, { name := "SOFT_MAX_ARRAY_LENGTH", type := .int, accessFlags := 25, slot := 20, constantValue := 0 }]
  methods := #[k16m0]
  instanceTypes := #[]
  staticTypes := #[(.object "jdk/internal/misc/Unsafe"), .boolean, .int, .int, .int, .int, .int, .int, .int, .int, .int, .int, .int, .int, .int, .int, .int, .int, .int, (.object "jdk/internal/access/JavaLangAccess"), .int]
  resolved := Array.replicate 378 none
  statics := none }

def pool17 : Array CpInfo := pool [(1, u "java/lang/Cloneable"), (0, .class_ 1), (0, u "java/lang/Object"), (0, .class_ 3)] 3

/-- java/lang/Cloneable -/
def k17 : Class := { plain "java/lang/Cloneable" (some 0) with
  accessFlags := 1537
  interfaces := #[]
  cf := some (fileOf pool17 2 #[] #[] 1537 4 #[] #[])
  fields := #[]
  methods := #[]
  instanceTypes := #[]
  staticTypes := #[]
  resolved := Array.replicate 8 none
  statics := none }

/-- the primitive byte -/
def k18 : Class := { plain "byte" none with kind := .primitive 'B', accessFlags := 0x411 }
/-- [B -/
def k19 : Class := { plain "[B" (some 0) with kind := .array 18 .byte, interfaces := #[17, 4], accessFlags := 1041 }

/-- the primitive char -/
def k20 : Class := { plain "char" none with kind := .primitive 'C', accessFlags := 0x411 }
/-- [C -/
def k21 : Class := { plain "[C" (some 0) with kind := .array 20 .char, interfaces := #[17, 4], accessFlags := 1041 }

/-- the primitive int -/
def k22 : Class := { plain "int" none with kind := .primitive 'I', accessFlags := 0x411 }
/-- [I -/
def k23 : Class := { plain "[I" (some 0) with kind := .array 22 .int, interfaces := #[17, 4], accessFlags := 1041 }

def heap : Heap := #[{ cls := 6, slots := #[.ref 4, .ref 8, .null], vm := .statics 6 },
  { cls := 7, slots := #[.ref 11, .ref 5, .ref 6, .ref 10, .ref 7, .ref 9, .null], vm := .statics 7 },
  { cls := 10, slots := #[.long 0, .int 1, .null, .int 0, .null, .int 0, .int 0], vm := .statics 10 },
  { cls := 15, slots := #[.null, .null, .null], vm := .statics 15 },
  { cls := 6, slots := #[.null, .int 0, .int 0], vm := .none },
  { cls := 7, slots := #[.null, .int 0, .int 0], vm := .none },
  { cls := 7, slots := #[.null, .int 0, .int 0], vm := .none },
  { cls := 7, slots := #[.null, .int 0, .int 0], vm := .none },
  { cls := 6, slots := #[.null, .int 0, .int 0], vm := .none },
  { cls := 7, slots := #[.null, .int 0, .int 0], vm := .none },
  { cls := 7, slots := #[.null, .int 0, .int 0], vm := .none },
  { cls := 7, slots := #[.null, .int 0, .int 0], vm := .none }]
def classes : Array Class := #[k0, k1, k2, k3, k4, k5, k6, k7, k8, k9, k10, k11, k12, k13, k14, k15, k16, k17, k18, k19, k20, k21, k22, k23]
def interned : List (Array UInt16 × Addr) := []
def slotsUsed : Nat := 44
def theMethod : MethodId := ⟨1, 2⟩
def args0 : Array Value := #[.int 5, .int 7, .int 1, .int 2]
def aboutOver (below : List Frame) : State where
  vm := { classes := classes, interned := interned.toArray }
  heap := heap
  slotsUsed := slotsUsed
  threads := #[{ frames := .invoking theMethod args0 :: below }]
def below0 : List Frame := [.native { method := ⟨0, 0⟩, args := #[] }]
def about1 : State := aboutOver below0
def p0 : Program := .bare "" "" ""
def e0 : Env := launch0.env 0 0 0
theorem w_frames : about1.frames = Frame.invoking theMethod args0 :: below0 := rfl
set_option maxRecDepth 65536 in
theorem w_args : argsFit about1.vm theMethod args0 = true := by decide +kernel
set_option maxRecDepth 65536 in
theorem w_heap : heapFits about1 = true := by decide +kernel
set_option maxRecDepth 65536 in
theorem w_runnable : about1.curStatus? = some .runnable := by decide +kernel
set_option maxRecDepth 65536 in
theorem w_alone : about1.alone = true := by decide +kernel
set_option maxRecDepth 65536 in
theorem w_named : about1.methodNamed? x = some theMethod := by decide +kernel
set_option maxRecDepth 65536 in
theorem w_hears : about1.hears theMethod below0 = true := by decide +kernel
set_option maxRecDepth 65536 in
theorem w_ripe : about1.ripe theMethod args0 below0 = true := by decide +kernel
theorem w_running : about1.status = .running := rfl
set_option maxRecDepth 65536 in
theorem w_room : about1.hasRoom e0.platform room_1 = true :=
  launch0.hasRoom_least _ room_1 (by decide +kernel) (by decide +kernel) (by decide +kernel) (by decide +kernel) (by decide +kernel) (by decide +kernel)
theorem allAtoms_all (ts : List Jvm.Cond) (a : Array Jvm.Value) (st : Jvm.State) : (allAtoms ts).before a st = ts.all (fun c => c.before a st) := by
  induction ts with
  | nil => rfl
  | cons c t ih =>
    show (Jvm.Cond.and c (allAtoms t)).before a st = _
    rw [Jvm.Cond.before_and, ih, List.all_cons]
def words1 : List Jvm.Cond := Jvm.Cond.code x code maxLocals ret :: tables_1
/-- a 'code' word, met by the world's own term for the bytes: nothing is compared byte by byte -/
theorem code_word {y : MethodName} {bytes : ByteArray} {mx : Nat} {rt : Option FieldType} {a : Array Value} {s : State} {m : MethodId} {meth : Method} {c : Code} (h1 : s.methodNamed? y = some m) (h2 : s.vm.method? m = some meth) (h3 : meth.code = some c) (h4 : c.code = bytes)
    (h5 : (c.maxLocals == mx && c.exceptionTable.isEmpty && decide (c.maxStack ≤ mostOperands) && decide (meth.sig.returnType = rt) && !meth.locks && decide (parseMethodDescriptor y.desc = some meth.sig)) = true) : (Jvm.Cond.code y bytes mx rt).before a s = true := by
  simp only [Bool.and_eq_true, beq_iff_eq, Bool.not_eq_true', decide_eq_true_eq] at h5
  obtain ⟨⟨⟨⟨⟨g1, g2⟩, g3⟩, g4⟩, g5⟩, g6⟩ := h5
  simp [Cond.before, Cond.holds, Cond.value, h1, h2, h3, h4, g1, g2, g3, g4, g5, g6]
def isCode : Jvm.Cond → Bool
  | .code _ _ _ _ => true
  | _ => false
theorem all_split {L : List Jvm.Cond} {P : Jvm.Cond → Bool} (h1 : L.all (fun c => isCode c || P c) = true) (h2 : ∀ c ∈ L.filter isCode, P c = true) : L.all P = true := by
  refine List.all_eq_true.mpr fun c hc => ?_
  have h := List.all_eq_true.mp h1 c hc
  rcases Bool.eq_false_or_eq_true (isCode c) with hi | hi
  · exact h2 c (List.mem_filter.mpr ⟨hc, hi⟩)
  · simpa [hi] using h
set_option maxRecDepth 65536 in
theorem w_c0 : (Jvm.Cond.code x code maxLocals ret).before args0 about1 = true := code_word (m := ⟨1, 2⟩) (meth := k1m2) (c := k1c2) (by decide +kernel) rfl rfl rfl (by decide +kernel)
set_option maxRecDepth 65536 in
theorem w_c1 : (Jvm.Cond.code ({ cls := "com/example/dial_to_radio/dialtoradio/at/CallListEntryIsVoicePinLaw", name := "state", desc := "(I)Lcom/example/dial_to_radio/dialtoradio/at/CallListEntry$State;" } : Jvm.MethodName) method_2_code (1 : Nat) (Option.some (Jvm.ClassFile.FieldType.object "com/example/dial_to_radio/dialtoradio/at/CallListEntry$State"))).before args0 about1 = true := code_word (m := ⟨1, 1⟩) (meth := k1m1) (c := k1c1) (by decide +kernel) rfl rfl rfl (by decide +kernel)
set_option maxRecDepth 65536 in
theorem w_c2 : (Jvm.Cond.code ({ cls := "com/example/dial_to_radio/dialtoradio/at/CallListEntry", name := "<init>", desc := "(ILcom/example/dial_to_radio/dialtoradio/at/CallListEntry$Direction;Lcom/example/dial_to_radio/dialtoradio/at/CallListEntry$State;IZLjava/lang/String;)V" } : Jvm.MethodName) prog_4_method_1_code (7 : Nat) (Option.none : Option Jvm.ClassFile.FieldType)).before args0 about1 = true := code_word (m := ⟨12, 0⟩) (meth := k12m0) (c := k12c0) (by decide +kernel) rfl rfl rfl (by decide +kernel)
set_option maxRecDepth 65536 in
theorem w_c3 : (Jvm.Cond.code ({ cls := "java/lang/Record", name := "<init>", desc := "()V" } : Jvm.MethodName) jdk_30_method_1_code (1 : Nat) (Option.none : Option Jvm.ClassFile.FieldType)).before args0 about1 = true := code_word (m := ⟨11, 0⟩) (meth := k11m0) (c := k11c0) (by decide +kernel) rfl rfl rfl (by decide +kernel)
set_option maxRecDepth 65536 in
theorem w_c4 : (Jvm.Cond.code ({ cls := "java/lang/Object", name := "<init>", desc := "()V" } : Jvm.MethodName) object_method_1_code (1 : Nat) (Option.none : Option Jvm.ClassFile.FieldType)).before args0 about1 = true := code_word (m := ⟨0, 0⟩) (meth := k0m0) (c := k0c0) (by decide +kernel) rfl rfl rfl (by decide +kernel)
set_option maxRecDepth 65536 in
theorem w_c5 : (Jvm.Cond.code ({ cls := "com/example/dial_to_radio/dialtoradio/at/CallListEntry", name := "isVoice", desc := "()Z" } : Jvm.MethodName) prog_4_method_7_code (1 : Nat) (Option.some Jvm.ClassFile.FieldType.boolean)).before args0 about1 = true := code_word (m := ⟨12, 1⟩) (meth := k12m1) (c := k12c1) (by decide +kernel) rfl rfl rfl (by decide +kernel)
set_option maxRecDepth 65536 in
theorem w_c6 : (Jvm.Cond.code ({ cls := "java/lang/String", name := "<init>", desc := "([C)V" } : Jvm.MethodName) jdk_42_method_3_code (2 : Nat) (Option.none : Option Jvm.ClassFile.FieldType)).before args0 about1 = true := code_word (m := ⟨10, 1⟩) (meth := k10m1) (c := k10c1) (by decide +kernel) rfl rfl rfl (by decide +kernel)
set_option maxRecDepth 65536 in
theorem w_c7 : (Jvm.Cond.code ({ cls := "java/lang/String", name := "<init>", desc := "([CIILjava/lang/Void;)V" } : Jvm.MethodName) jdk_42_method_149_code (6 : Nat) (Option.none : Option Jvm.ClassFile.FieldType)).before args0 about1 = true := code_word (m := ⟨10, 2⟩) (meth := k10m2) (c := k10c2) (by decide +kernel) rfl rfl rfl (by decide +kernel)
set_option maxRecDepth 65536 in
theorem w_c8 : (Jvm.Cond.code ({ cls := "java/lang/StringUTF16", name := "compress", desc := "([CII)[B" } : Jvm.MethodName) jdk_52_method_16_code (6 : Nat) (Option.some (Jvm.ClassFile.FieldType.array Jvm.ClassFile.FieldType.byte))).before args0 about1 = true := code_word (m := ⟨13, 2⟩) (meth := k13m2) (c := k13c2) (by decide +kernel) rfl rfl rfl (by decide +kernel)
set_option maxRecDepth 65536 in
theorem w_c9 : (Jvm.Cond.code ({ cls := "java/lang/StringUTF16", name := "compress", desc := "([CI[BII)I" } : Jvm.MethodName) jdk_52_method_21_code (7 : Nat) (Option.some Jvm.ClassFile.FieldType.int)).before args0 about1 = true := code_word (m := ⟨13, 3⟩) (meth := k13m3) (c := k13c3) (by decide +kernel) rfl rfl rfl (by decide +kernel)
set_option maxRecDepth 65536 in
theorem w_c10 : (Jvm.Cond.code ({ cls := "java/lang/StringUTF16", name := "coderFromArrayLen", desc := "([BI)B" } : Jvm.MethodName) jdk_52_method_15_code (2 : Nat) (Option.some Jvm.ClassFile.FieldType.byte)).before args0 about1 = true := code_word (m := ⟨13, 1⟩) (meth := k13m1) (c := k13c1) (by decide +kernel) rfl rfl rfl (by decide +kernel)
def codes1 : List Jvm.Cond := [Jvm.Cond.code x code maxLocals ret, Jvm.Cond.code ({ cls := "com/example/dial_to_radio/dialtoradio/at/CallListEntryIsVoicePinLaw", name := "state", desc := "(I)Lcom/example/dial_to_radio/dialtoradio/at/CallListEntry$State;" } : Jvm.MethodName) method_2_code (1 : Nat) (Option.some (Jvm.ClassFile.FieldType.object "com/example/dial_to_radio/dialtoradio/at/CallListEntry$State")), Jvm.Cond.code ({ cls := "com/example/dial_to_radio/dialtoradio/at/CallListEntry", name := "<init>", desc := "(ILcom/example/dial_to_radio/dialtoradio/at/CallListEntry$Direction;Lcom/example/dial_to_radio/dialtoradio/at/CallListEntry$State;IZLjava/lang/String;)V" } : Jvm.MethodName) prog_4_method_1_code (7 : Nat) (Option.none : Option Jvm.ClassFile.FieldType), Jvm.Cond.code ({ cls := "java/lang/Record", name := "<init>", desc := "()V" } : Jvm.MethodName) jdk_30_method_1_code (1 : Nat) (Option.none : Option Jvm.ClassFile.FieldType), Jvm.Cond.code ({ cls := "java/lang/Object", name := "<init>", desc := "()V" } : Jvm.MethodName) object_method_1_code (1 : Nat) (Option.none : Option Jvm.ClassFile.FieldType), Jvm.Cond.code ({ cls := "com/example/dial_to_radio/dialtoradio/at/CallListEntry", name := "isVoice", desc := "()Z" } : Jvm.MethodName) prog_4_method_7_code (1 : Nat) (Option.some Jvm.ClassFile.FieldType.boolean), Jvm.Cond.code ({ cls := "java/lang/String", name := "<init>", desc := "([C)V" } : Jvm.MethodName) jdk_42_method_3_code (2 : Nat) (Option.none : Option Jvm.ClassFile.FieldType), Jvm.Cond.code ({ cls := "java/lang/String", name := "<init>", desc := "([CIILjava/lang/Void;)V" } : Jvm.MethodName) jdk_42_method_149_code (6 : Nat) (Option.none : Option Jvm.ClassFile.FieldType), Jvm.Cond.code ({ cls := "java/lang/StringUTF16", name := "compress", desc := "([CII)[B" } : Jvm.MethodName) jdk_52_method_16_code (6 : Nat) (Option.some (Jvm.ClassFile.FieldType.array Jvm.ClassFile.FieldType.byte)), Jvm.Cond.code ({ cls := "java/lang/StringUTF16", name := "compress", desc := "([CI[BII)I" } : Jvm.MethodName) jdk_52_method_21_code (7 : Nat) (Option.some Jvm.ClassFile.FieldType.int), Jvm.Cond.code ({ cls := "java/lang/StringUTF16", name := "coderFromArrayLen", desc := "([BI)B" } : Jvm.MethodName) jdk_52_method_15_code (2 : Nat) (Option.some Jvm.ClassFile.FieldType.byte)]
set_option maxRecDepth 65536 in
theorem codes_eq : words1.filter isCode = codes1 := rfl
theorem w_codes : ∀ c ∈ words1.filter isCode, c.before args0 about1 = true := by
  rw [codes_eq]
  intro c hc
  simp only [codes1, List.mem_cons, List.not_mem_nil, or_false] at hc
  rcases hc with rfl | rfl | rfl | rfl | rfl | rfl | rfl | rfl | rfl | rfl | rfl
  · exact w_c0
  · exact w_c1
  · exact w_c2
  · exact w_c3
  · exact w_c4
  · exact w_c5
  · exact w_c6
  · exact w_c7
  · exact w_c8
  · exact w_c9
  · exact w_c10
set_option maxRecDepth 65536 in
theorem w_t1 : (words1.take 24).all (fun c => isCode c || c.before args0 about1) = true := by decide +kernel
set_option maxRecDepth 65536 in
theorem w_t2 : ((words1.drop 24).take 24).all (fun c => isCode c || c.before args0 about1) = true := by decide +kernel
set_option maxRecDepth 65536 in
theorem w_t3 : (((words1.drop 24).drop 24).take 24).all (fun c => isCode c || c.before args0 about1) = true := by decide +kernel
set_option maxRecDepth 65536 in
theorem w_t4 : (((words1.drop 24).drop 24).drop 24).all (fun c => isCode c || c.before args0 about1) = true := by decide +kernel
theorem w_tables : (allAtoms (Jvm.Cond.code x code maxLocals ret :: tables_1)).before args0 about1 = true := by
  rw [allAtoms_all]
  show words1.all (fun c => c.before args0 about1) = true
  refine all_split ?_ w_codes
  rw [← List.take_append_drop 24 words1, List.all_append, w_t1, ← List.take_append_drop 24 (words1.drop 24), List.all_append, w_t2, ← List.take_append_drop 24 ((words1.drop 24).drop 24), List.all_append, w_t3, w_t4]
  rfl
set_option maxRecDepth 65536 in
theorem w_rest : rest_1_c.before args0 about1 = true := by decide +kernel
set_option maxRecDepth 65536 in
theorem w_case : (Jvm.Cond.and given_1 narrow_1).before args0 about1 = true := by decide +kernel
theorem w_applies : (headSpec (Jvm.Cond.code x code maxLocals ret :: tables_1) room_1).applies x e0.platform about1 = true :=
  (Spec.applies_iff w_frames).mpr ⟨w_running, w_runnable, w_alone, w_named, w_hears, w_ripe, w_room, w_tables⟩
theorem atStart : AtStart classFile x code maxLocals ret World_1 tables_1 room_1 Calls_1 rest_1 Pre_1 launch0 p0 e0 about1 theMethod args0 below0 :=
  ⟨lists_1, trivial, launch0.admits_env _ _ _, launch0.least_env, fairChoices_fair.cas, fairChoices_fair.clock, w_frames, w_args, w_heap, w_applies, trivial, w_rest, w_case⟩
end start1
theorem witness_1 : WitnessClaimed_1 := ⟨start1.p0, start1.e0, start1.about1, start1.theMethod, start1.args0, start1.below0, start1.atStart⟩
end Jvm.Pilot.@@N@@
