import JvmDerived
import JvmDerived.Pilot.@@N@@Statement
import JvmDerived.Pilot.@@N@@Code
set_option linter.unusedVariables false
set_option linter.unusedSimpArgs false
namespace Jvm.Own
open Sem ClassFile Op Lib Jvm.Stand Jvm.Free Jvm.LawKit Jvm.RoadKit
section Held
variable {Z : State} {a0 : Array Value} {EL : List (String × Nat)} {NS : List Addr} {vm vm' : Vm} {h h' : Heap} {a x : Addr} {K : String} {ty : FieldType}
theorem hnC (C : CHr Z EL vm h vm' h') (HN : ∀ x ∈ NS, x < h.size ∧ Safe Z EL vm h x) : ∀ x ∈ NS, x < h'.size ∧ Safe Z EL vm' h' x := fun x hx => ⟨Nat.lt_of_lt_of_le (HN x hx).1 C.2.1, C.safe (HN x hx).1 (HN x hx).2⟩
theorem safeNew (E : Ext h h') (H : CHv Z EL vm h) (q : h.size ≤ a) : Safe Z EL vm h' a := fun B => by
  obtain ⟨p, hp, u, a', hb, r, hr, F, hy⟩ := (H.step fun _ _ _ q => E.2 _ _ q).2 _ B
  rcases hy with rfl | rfl
  · exact absurd (Array.getElem?_eq_some_iff.mp (show h[r.sa]? = some r.sC from F.ha)).1 (Nat.not_lt.mpr q)
  · exact absurd (Array.getElem?_eq_some_iff.mp (show h[r.sd]? = some r.SA from F.hd)).1 (Nat.not_lt.mpr q)
theorem hnA (E : Ext h h') (H : CHv Z EL vm h) (q : h.size ≤ a) (hl : a < h'.size) (HN : ∀ x ∈ NS, x < h.size ∧ Safe Z EL vm h x) : ∀ x ∈ a :: NS, x < h'.size ∧ Safe Z EL vm h' x := fun x hx => by
  rcases List.mem_cons.mp hx with rfl | hx
  · exact ⟨hl, safeNew E H q⟩
  · exact hnC (CHr.ext E H) HN x hx
theorem safeNil : Safe Z [] vm h x := fun B => by obtain ⟨p, hp, _⟩ := B; cases hp
theorem safeF (q : EL = [] ∨ (K ≠ "java/lang/String" ∧ K ≠ "[B") ∨ a ∈ NS) (hal : Z.vm.Alike vm) (E : Exa Z h a K) (HN : ∀ x ∈ NS, x < h.size ∧ Safe Z EL vm h x) : Safe Z EL vm h a := by
  rcases q with rfl | q | q
  · exact safeNil
  · exact Safe.exa hal E q.1 q.2
  · exact (HN _ q).2
/-- of each constant of EL: its text has not this length -/
def EWL (Z : State) (a0 : Array Value) (EL : List (String × Nat)) (n : Nat) : Prop := ∀ p ∈ EL, ∃ text : String, (Cond.stringLink p.1 p.2 text).before a0 Z = true ∧ (∀ c ∈ text.toList, c.toNat < 256) ∧ text.toList.length ≠ n
theorem EWL.nil {n : Nat} : EWL Z a0 [] n := fun _ hp => by cases hp
theorem EWL.cons {own text : String} {index n : Nat} (w : (Cond.stringLink own index text).before a0 Z = true) (ht : ∀ c ∈ text.toList, c.toNat < 256) (hn : text.toList.length ≠ n) (E : EWL Z a0 EL n) : EWL Z a0 ((own, index) :: EL) n := fun p hp => by
  rcases List.mem_cons.mp hp with rfl | hp
  · exact ⟨text, w, ht, hn⟩
  · exact E p hp
theorem safeLen {cl : Cell} {n : Nat} (hZ : Z.Warmed39 vm) (A : Arr Z h a cl ty) (S : cl.slots.size = n) (E : EWL Z a0 EL n) : Safe Z EL vm h a := fun B => by
  obtain ⟨p, hp, u, a', hb, q, hq, F, hy⟩ := B
  obtain ⟨text, w, ht, hne⟩ := E p hp
  have hal := hZ.alike
  rcases hy with rfl | rfl
  · obtain ⟨A1, ⟨-, kA, hkA, compA, hkindA⟩, -⟩ := A
    obtain ⟨kA', hkA', ekA⟩ := hal.2.2 _ _ hkA
    cases (show h[q.sa]? = some q.sC from F.ha).symm.trans A1
    obtain ⟨cS, ⟨-, -, e⟩, ⟨kS, g1, g2, -⟩, -⟩ := F
    subst e
    cases (show vm.classes[q.sC.cls]? = some kS from g1).symm.trans hkA'
    rw [ekA] at g2
    have := hkindA.symm.trans g2
    cases this
  · cases (show h[q.sd]? = some q.SA from F.hd).symm.trans A.1
    obtain ⟨cS, -, -, -, hbyt⟩ := F
    obtain ⟨c, k, cf, i, h1, h2, h3, h4, h5, -⟩ := hb
    have w2 : (Cond.stringLink p.1 p.2 text).before a0 (Wst Z vm h) = true := mvS (s := { Z with heap := h }) hZ w
    obtain ⟨k0, cf0, i0, units0, hkx, hcf, hpl, hu, -, htext, -⟩ := Cond.stringLink_spec (s := Wst Z vm h) (show (Wst Z vm h).vm.findClass p.1 = some c from h1) w2
    cases (show vm.classes[c]? = some k0 from hkx).symm.trans h2
    cases hcf.symm.trans h3
    cases hpl.symm.trans h4
    cases hu.symm.trans h5
    have el : u.size = text.toList.length := by
      have := congrArg List.length (Jvm.ClassFile.units_of_text htext ht)
      simpa using this
    have es : q.SA.slots.size = u.size := by rw [hbyt, Jvm.Free.SBG.stringBytes_lat (Jvm.ClassFile.lat_of_text htext ht), Array.size_map]
    omega
theorem safeA {cl : Cell} {n : Nat} (q : EL = [] ∨ ty ≠ .byte ∨ a ∈ NS ∨ EWL Z a0 EL n) (hZ : Z.Warmed39 vm) (A : Arr Z h a cl ty) (S : cl.slots.size = n) (HN : ∀ x ∈ NS, x < h.size ∧ Safe Z EL vm h x) : Safe Z EL vm h a := by
  rcases q with rfl | q | q | q
  · exact safeNil
  · exact Safe.arr hZ.alike A q
  · exact (HN _ q).2
  · exact safeLen hZ A S q
theorem safeV {k : ClassId} {z : Int32} {vs : List Value} {dv : Value} (q : EL = [] ∨ ty ≠ .byte ∨ a ∈ NS ∨ EWL Z a0 EL z.toNatClampNeg) (hZ : Z.Warmed39 vm) (V : Arv Z h a k ty z vs dv) (HN : ∀ x ∈ NS, x < h.size ∧ Safe Z EL vm h x) : Safe Z EL vm h a := by
  obtain ⟨cl, A, -, S, -⟩ := V
  exact safeA q hZ A S HN
theorem EW.any {a1 : Array Value} (E : EW Z a1 EL) (a2 : Array Value) : EW Z a2 EL := fun p hp => by
  obtain ⟨t, w, ht⟩ := E p hp
  exact ⟨t, mvS (s := Z) (State.Warmed39.refl Z) w, ht⟩
theorem safeNull (hal : Z.vm.Alike vm) (E : Exa Z h x "java/lang/String") (F : Fld Z h x "java/lang/String" "value" "[B" .null) : Safe Z EL vm h x := fun B => by
  obtain ⟨cell, k, e1, e2, e3, -, -⟩ := E
  obtain ⟨p, -, u, a, -, q, -, G, rfl | rfl⟩ := B
  · cases (show h[q.sa]? = some q.sC from G.ha).symm.trans e1
    obtain ⟨cS, ⟨⟨-, -, -, ⟨c1, k1, i1, f1, -⟩, -, -, -, v1, -⟩, -⟩, -⟩ := G
    obtain ⟨k2, z4⟩ := ff_back (U := Wst Z vm h) hal f1
    obtain ⟨cell, c3, k3, i3, f3, g1, g2, -, -, -, -, g7⟩ := F
    cases g1.symm.trans e1
    have e4 := z4.symm.trans g2
    simp only [Option.some.injEq, Prod.mk.injEq] at e4
    obtain ⟨-, -, -, rfl⟩ := e4
    rw [v1] at g7
    cases g7
  · cases (show h[q.sd]? = some q.SA from G.hd).symm.trans e1
    obtain ⟨cS, -, -, f, -⟩ := G
    have f' : vm.findClass "[B" = some q.SA.cls := f
    rw [hal.findClass] at f'
    obtain ⟨k1, q1, q2⟩ := Vm.findClass_spec f'
    obtain ⟨k2, q3, q4⟩ := Vm.findClass_spec e2
    cases q1.symm.trans q3
    exact absurd (q2.symm.trans q4) (by decide)
end Held
section Base
variable {b : Bool} {EL : List (String × Nat)} {NS : List Addr} {p : Program} {l : Launch} {e : Env} {R : Room} {s : State} {m : MethodId} {args : Array Value} {below : List Frame} {meth : Method} {c : Code} {Z : State} {a0 : Array Value} {own : String} {T : State} {h : Heap} {cells slots cells' slots' : Nat} {Q : Option Value → Heap → Prop} {pc pc' : Nat} {Ls : Array Slot} {st : List Value}
/-- where a walk stands: Z is the law's own start, whose cells all stand as they stood; EL: the constants of which the assumed word speaks; NS: places that bear none of their Strings -/
def Go (b : Bool) (EL : List (String × Nat)) (NS : List Addr) (p : Program) (l : Launch) (e : Env) (R : Room) (s : State) (m : MethodId) (args : Array Value) (below : List Frame) (meth : Method) (c : Code) (Z : State) (own : String) (T : State) (h : Heap) (cells slots : Nat) : Prop :=
  ∃ (vm0 : Vm) (k0 : Nat) (locs : List Loc), Stand p l e R (s.setVm vm0) m args below meth c T locs cells slots ∧ b = true ∧ s.Since vm0 k0 ∧ k0 ≤ h.size ∧ Z.Warmed39 vm0 ∧ vm0.findClass own = some m.cls ∧ T.heap = h ∧ Fr Z.heap.size locs ∧ Ext Z.heap h ∧ (∃ a1, EW Z a1 EL) ∧ CHr Z EL s.vm s.heap vm0 h ∧ ∀ x ∈ NS, x < h.size ∧ Safe Z EL vm0 h x
/-- from here the method comes to its end, and Q holds there -/
def Fz (b : Bool) (EL : List (String × Nat)) (p : Program) (e : Env) (R : Room) (s : State) (below : List Frame) (Z : State) (Q : Option Value → Heap → Prop) (u : State) : Prop :=
  ∃ (t : State) (o : Outcome), Steps p.tables e below u t ∧ t.status = .running ∧ Ended t below o ∧ ∃ v L, o = .returned v ∧ (Fr Z.heap.size L ∧ Ext Z.heap t.heap ∧ Q v t.heap) ∧ CHr Z EL s.vm s.heap t.vm t.heap ∧ ReturnedEndW s o t L R.cells R.slots
/-- a body's contract -/
def Met (b : Bool) (EL : List (String × Nat)) (l : Launch) (Z : State) (y : MethodName) (bytes : ByteArray) (maxL : Nat) (ret : Option FieldType) (ws : List Cond) (rm : Room) (as' : Array Value) (h0 : Heap) (Q : Option Value → Heap → Prop) : Prop :=
  MetFree l y (head1 (Cond.code y bytes maxL ret :: ws) rm) (fun a U => a = as' ∧ Z.Warmed39 U.vm ∧ U.heap = h0 ∧ CHv Z EL U.vm h0) (fun _ _ _ _ _ => True) (fun _ U o U' => ∃ v L, o = .returned v ∧ (Fr Z.heap.size L ∧ Ext Z.heap U'.heap ∧ Q v U'.heap) ∧ CHr Z EL U.vm U.heap U'.vm U'.heap ∧ ReturnedEndW U o U' L rm.cells rm.slots)
abbrev Met1 (b : Bool) (EL : List (String × Nat)) (l : Launch) (Z : State) (y : MethodName) (bytes : ByteArray) (maxL : Nat) (ret : Option FieldType) (ws : List Cond) (rm : Room) (as' : Array Value) (h0 : Heap) (q : Value → Heap → Prop) : Prop := Met b EL l Z y bytes maxL ret ws rm as' h0 (fun v h' => ∃ w, v = some w ∧ q w h')
abbrev Met0 (b : Bool) (EL : List (String × Nat)) (l : Launch) (Z : State) (y : MethodName) (bytes : ByteArray) (maxL : Nat) (ret : Option FieldType) (ws : List Cond) (rm : Room) (as' : Array Value) (h0 : Heap) (q : Heap → Prop) : Prop := Met b EL l Z y bytes maxL ret ws rm as' h0 (fun v h' => v = none ∧ q h')
theorem met_body {y : MethodName} {bytes : ByteArray} {maxL : Nat} {ret : Option FieldType} {ws : List Cond} {rm : Room} {as' : Array Value} {h0 : Heap} (hp : plainFor y = true) (O : Ext Z.heap h0) (hE : EW Z a0 EL)
    (body : ∀ (p : Program) (e : Env) (s : State) (m : MethodId) (below : List Frame) (meth : Method) (c : Code) (T : State), p.tables.exec = Jvm.exec → c.code = bytes → c.maxLocals = maxL → meth.sig.returnType = ret → meth.locks = false → meth.name = y.name →
      Go true EL [] p l e rm s m as' below meth c Z y.cls T h0 0 0 → Fz true EL p e rm s below Z Q (T.setTop (entryFrame m as' maxL))) : Met true EL l Z y bytes maxL ret ws rm as' h0 Q := by
  refine MetFree.of_bodySF hp hisR ?_
  intro p e s m args below meth c s₁ Bd hml hP hK
  obtain ⟨rfl, hZ, hh, hC⟩ := hP
  have X0 : Stand p l e rm s m args below meth c s₁ [] 0 0 := Stand.of_body Bd
  have e0 : s₁.heap = h0 := by rw [← hh, Bd.state]; rfl
  have hC' : CHv Z EL s.vm s.heap := by rw [hh]; exact hC
  obtain ⟨t, o, h1, h2, h3, h4⟩ := body p e s m below meth c s₁ Bd.exec Bd.bytes hml Bd.returns (BodyLoose.notSynchronized Bd) (name_of_methodNamed Bd.named Bd.method).1 ⟨s.vm, 0, [], X0, rfl, (State.WarmedH.refl s).since 0, Nat.zero_le _, hZ, findClass_of_methodNamed Bd.named, e0, Fr.nil _, O, ⟨_, hE⟩, by rw [← hh]; exact CHr.refl hC', fun x hx => by cases hx⟩
  exact ⟨t, o, h1, h2, h3, h4⟩
theorem Go.here (G : Go b EL NS p l e R s m args below meth c Z own T h cells slots) : At T m c below := by obtain ⟨_, _, _, X, _⟩ := G; exact X.here
theorem Go.old (G : Go b EL NS p l e R s m args below meth c Z own T h cells slots) : Ext Z.heap h := by obtain ⟨_, _, _, _, _, _, _, _, _, _, _, O, _⟩ := G; exact O
theorem Go.mono (G : Go b EL NS p l e R s m args below meth c Z own T h cells slots) (hc : cells ≤ cells') (hs : slots ≤ slots') : Go b EL NS p l e R s m args below meth c Z own T h cells' slots' := by
  obtain ⟨vm0, k0, locs, X, r⟩ := G
  exact ⟨vm0, k0, locs, X.mono hc hs, r⟩
theorem Go.drop (G : Go b EL NS p l e R s m args below meth c Z own T h cells slots) {NS' : List Addr} (q : ∀ x ∈ NS', x ∈ NS) : Go b EL NS' p l e R s m args below meth c Z own T h cells slots := by
  obtain ⟨vm0, k0, locs, X, h1, h2, h3, h4, h5, h6, h7, h8, h9, h10, h11⟩ := G
  exact ⟨vm0, k0, locs, X, h1, h2, h3, h4, h5, h6, h7, h8, h9, h10, fun x hx => h11 x (q x hx)⟩
theorem Go.addNull {a : Addr} (G : Go b EL NS p l e R s m args below meth c Z own T h cells slots) (E : Exa Z h a "java/lang/String") (F : Fld Z h a "java/lang/String" "value" "[B" .null) : Go b EL (a :: NS) p l e R s m args below meth c Z own T h cells slots := by
  obtain ⟨vm0, k0, locs, X, h1, h2, h3, h4, h5, h6, h7, h8, h9, h10, h11⟩ := G
  refine ⟨vm0, k0, locs, X, h1, h2, h3, h4, h5, h6, h7, h8, h9, h10, fun x hx => ?_⟩
  rcases List.mem_cons.mp hx with rfl | hx
  · exact ⟨E.lt, safeNull h4.alike E F⟩
  · exact h11 x hx
theorem Fz.of {u u' : State} (f : ∀ t, Steps p.tables e below u' t → Steps p.tables e below u t) (K : Fz b EL p e R s below Z Q u') : Fz b EL p e R s below Z Q u := by
  obtain ⟨t, o, h1, r⟩ := K
  exact ⟨t, o, f t h1, r⟩
theorem Fz.entry {g g' : JFrame} (q : g = g') (K : Fz b EL p e R s below Z Q (T.setTop g')) : Fz b EL p e R s below Z Q (T.setTop g) := q ▸ K

theorem aload {k : Nat} {v : Value} (H : At T m c below) (hx : p.tables.exec = Jvm.exec) (hd : decode c.code pc = .ok (.aload k, 2)) (hl : Ls[k]? = some (.val v)) (hv : v.isRef = true) (hp : pc + 2 = pc') (K : Fz b EL p e R s below Z Q (T.setTop (mkF m pc' Ls (v :: st)))) : Fz b EL p e R s below Z Q (T.setTop (mkF m pc Ls st)) := by
  subst hp
  exact Fz.of (fun t k => XS.aload H hx rfl hd hl hv k) K
theorem aloadN {k : Fin 4} {v : Value} (H : At T m c below) (hx : p.tables.exec = Jvm.exec) (hd : decode c.code pc = .ok (.aload_n k, 1)) (hl : Ls[k.val]? = some (.val v)) (hv : v.isRef = true) (hp : pc + 1 = pc') (K : Fz b EL p e R s below Z Q (T.setTop (mkF m pc' Ls (v :: st)))) : Fz b EL p e R s below Z Q (T.setTop (mkF m pc Ls st)) := by
  subst hp
  exact Fz.of (fun t k => XS.aloadN H hx rfl hd hl hv k) K
theorem iload {k : Nat} {v : Int32} (H : At T m c below) (hx : p.tables.exec = Jvm.exec) (hd : decode c.code pc = .ok (.iload k, 2)) (hl : Ls[k]? = some (.val (.int v))) (hp : pc + 2 = pc') (K : Fz b EL p e R s below Z Q (T.setTop (mkF m pc' Ls ((.int v) :: st)))) : Fz b EL p e R s below Z Q (T.setTop (mkF m pc Ls st)) := by
  subst hp
  exact Fz.of (fun t k => XS.iload H hx rfl hd hl k) K
theorem iloadN {k : Fin 4} {v : Int32} (H : At T m c below) (hx : p.tables.exec = Jvm.exec) (hd : decode c.code pc = .ok (.iload_n k, 1)) (hl : Ls[k.val]? = some (.val (.int v))) (hp : pc + 1 = pc') (K : Fz b EL p e R s below Z Q (T.setTop (mkF m pc' Ls ((.int v) :: st)))) : Fz b EL p e R s below Z Q (T.setTop (mkF m pc Ls st)) := by
  subst hp
  exact Fz.of (fun t k => XS.iloadN H hx rfl hd hl k) K
theorem lload {k : Nat} {v : Int64} (H : At T m c below) (hx : p.tables.exec = Jvm.exec) (hd : decode c.code pc = .ok (.lload k, 2)) (hl : Ls[k]? = some (.val (.long v))) (hp : pc + 2 = pc') (K : Fz b EL p e R s below Z Q (T.setTop (mkF m pc' Ls ((.long v) :: st)))) : Fz b EL p e R s below Z Q (T.setTop (mkF m pc Ls st)) := by
  subst hp
  exact Fz.of (fun t k => XS.lload H hx rfl hd hl k) K
theorem lloadN {k : Fin 4} {v : Int64} (H : At T m c below) (hx : p.tables.exec = Jvm.exec) (hd : decode c.code pc = .ok (.lload_n k, 1)) (hl : Ls[k.val]? = some (.val (.long v))) (hp : pc + 1 = pc') (K : Fz b EL p e R s below Z Q (T.setTop (mkF m pc' Ls ((.long v) :: st)))) : Fz b EL p e R s below Z Q (T.setTop (mkF m pc Ls st)) := by
  subst hp
  exact Fz.of (fun t k => XS.lloadN H hx rfl hd hl k) K
theorem astore {k : Nat} {v : Value} {Ls' : Array Slot} (H : At T m c below) (hx : p.tables.exec = Jvm.exec) (hd : decode c.code pc = .ok (.astore k, 2)) (hv : v.isRef = true) (hl : storeLocals Ls k v = some Ls') (hp : pc + 2 = pc') (K : Fz b EL p e R s below Z Q (T.setTop (mkF m pc' Ls' st))) : Fz b EL p e R s below Z Q (T.setTop (mkF m pc Ls (v :: st))) := by
  subst hp
  exact Fz.of (fun t k => XS.astore H hx rfl hd rfl hv hl k) K
theorem astoreN {k : Fin 4} {v : Value} {Ls' : Array Slot} (H : At T m c below) (hx : p.tables.exec = Jvm.exec) (hd : decode c.code pc = .ok (.astore_n k, 1)) (hv : v.isRef = true) (hl : storeLocals Ls k.val v = some Ls') (hp : pc + 1 = pc') (K : Fz b EL p e R s below Z Q (T.setTop (mkF m pc' Ls' st))) : Fz b EL p e R s below Z Q (T.setTop (mkF m pc Ls (v :: st))) := by
  subst hp
  exact Fz.of (fun t k => XS.astoreN H hx rfl hd rfl hv hl k) K
theorem istore {k : Nat} {v : Int32} {Ls' : Array Slot} (H : At T m c below) (hx : p.tables.exec = Jvm.exec) (hd : decode c.code pc = .ok (.istore k, 2)) (hl : storeLocals Ls k (.int v) = some Ls') (hp : pc + 2 = pc') (K : Fz b EL p e R s below Z Q (T.setTop (mkF m pc' Ls' st))) : Fz b EL p e R s below Z Q (T.setTop (mkF m pc Ls ((.int v) :: st))) := by
  subst hp
  exact Fz.of (fun t k => XS.istore H hx rfl hd rfl hl k) K
theorem istoreN {k : Fin 4} {v : Int32} {Ls' : Array Slot} (H : At T m c below) (hx : p.tables.exec = Jvm.exec) (hd : decode c.code pc = .ok (.istore_n k, 1)) (hl : storeLocals Ls k.val (.int v) = some Ls') (hp : pc + 1 = pc') (K : Fz b EL p e R s below Z Q (T.setTop (mkF m pc' Ls' st))) : Fz b EL p e R s below Z Q (T.setTop (mkF m pc Ls ((.int v) :: st))) := by
  subst hp
  exact Fz.of (fun t k => XS.istoreN H hx rfl hd rfl hl k) K
theorem lstore {k : Nat} {v : Int64} {Ls' : Array Slot} (H : At T m c below) (hx : p.tables.exec = Jvm.exec) (hd : decode c.code pc = .ok (.lstore k, 2)) (hl : storeLocals Ls k (.long v) = some Ls') (hp : pc + 2 = pc') (K : Fz b EL p e R s below Z Q (T.setTop (mkF m pc' Ls' st))) : Fz b EL p e R s below Z Q (T.setTop (mkF m pc Ls ((.long v) :: st))) := by
  subst hp
  exact Fz.of (fun t k => XS.lstore H hx rfl hd rfl hl k) K
theorem lstoreN {k : Fin 4} {v : Int64} {Ls' : Array Slot} (H : At T m c below) (hx : p.tables.exec = Jvm.exec) (hd : decode c.code pc = .ok (.lstore_n k, 1)) (hl : storeLocals Ls k.val (.long v) = some Ls') (hp : pc + 1 = pc') (K : Fz b EL p e R s below Z Q (T.setTop (mkF m pc' Ls' st))) : Fz b EL p e R s below Z Q (T.setTop (mkF m pc Ls ((.long v) :: st))) := by
  subst hp
  exact Fz.of (fun t k => XS.lstoreN H hx rfl hd rfl hl k) K
theorem iconst {i : Int} {v : Int32} (H : At T m c below) (hx : p.tables.exec = Jvm.exec) (hd : decode c.code pc = .ok (.iconst i, 1)) (hv : Int32.ofInt i = v) (hp : pc + 1 = pc') (K : Fz b EL p e R s below Z Q (T.setTop (mkF m pc' Ls (.int v :: st)))) : Fz b EL p e R s below Z Q (T.setTop (mkF m pc Ls st)) := by
  subst hp; subst hv
  exact Fz.of (fun t k => XS.iconst H hx rfl hd k) K
theorem bipush {i : Int} {v : Int32} (H : At T m c below) (hx : p.tables.exec = Jvm.exec) (hd : decode c.code pc = .ok (.bipush i, 2)) (hv : (Int8.ofInt i).toInt32 = v) (hp : pc + 2 = pc') (K : Fz b EL p e R s below Z Q (T.setTop (mkF m pc' Ls (.int v :: st)))) : Fz b EL p e R s below Z Q (T.setTop (mkF m pc Ls st)) := by
  subst hp; subst hv
  exact Fz.of (fun t k => XS.bipush H hx rfl hd k) K
theorem sipush {i : Int} {v : Int32} (H : At T m c below) (hx : p.tables.exec = Jvm.exec) (hd : decode c.code pc = .ok (.sipush i, 3)) (hv : (Int16.ofInt i).toInt32 = v) (hp : pc + 3 = pc') (K : Fz b EL p e R s below Z Q (T.setTop (mkF m pc' Ls (.int v :: st)))) : Fz b EL p e R s below Z Q (T.setTop (mkF m pc Ls st)) := by
  subst hp; subst hv
  exact Fz.of (fun t k => XS.sipush H hx rfl hd k) K
theorem lconst {i : Fin 2} {v : Int64} (H : At T m c below) (hx : p.tables.exec = Jvm.exec) (hd : decode c.code pc = .ok (.lconst i, 1)) (hv : Int64.ofNat i = v) (hp : pc + 1 = pc') (K : Fz b EL p e R s below Z Q (T.setTop (mkF m pc' Ls (.long v :: st)))) : Fz b EL p e R s below Z Q (T.setTop (mkF m pc Ls st)) := by
  subst hp; subst hv
  exact Fz.of (fun t k => XS.lconst H hx rfl hd k) K
theorem aconstNull (H : At T m c below) (hx : p.tables.exec = Jvm.exec) (hd : decode c.code pc = .ok (.aconst_null, 1)) (hp : pc + 1 = pc') (K : Fz b EL p e R s below Z Q (T.setTop (mkF m pc' Ls (.null :: st)))) : Fz b EL p e R s below Z Q (T.setTop (mkF m pc Ls st)) := by
  subst hp
  exact Fz.of (fun t k => XS.aconstNull H hx rfl hd k) K
theorem iadd {x y : Int32} (H : At T m c below) (hx : p.tables.exec = Jvm.exec) (hd : decode c.code pc = .ok (.iadd, 1)) (hp : pc + 1 = pc') (K : Fz b EL p e R s below Z Q (T.setTop (mkF m pc' Ls (.int (x + y) :: st)))) : Fz b EL p e R s below Z Q (T.setTop (mkF m pc Ls (.int y :: .int x :: st))) := by
  subst hp
  exact Fz.of (fun t k => XS.iadd H hx rfl hd rfl k) K
theorem ladd {x y : Int64} (H : At T m c below) (hx : p.tables.exec = Jvm.exec) (hd : decode c.code pc = .ok (.ladd, 1)) (hp : pc + 1 = pc') (K : Fz b EL p e R s below Z Q (T.setTop (mkF m pc' Ls (.long (x + y) :: st)))) : Fz b EL p e R s below Z Q (T.setTop (mkF m pc Ls (.long y :: .long x :: st))) := by
  subst hp
  exact Fz.of (fun t k => XS.ladd H hx rfl hd rfl k) K
theorem isub {x y : Int32} (H : At T m c below) (hx : p.tables.exec = Jvm.exec) (hd : decode c.code pc = .ok (.isub, 1)) (hp : pc + 1 = pc') (K : Fz b EL p e R s below Z Q (T.setTop (mkF m pc' Ls (.int (x - y) :: st)))) : Fz b EL p e R s below Z Q (T.setTop (mkF m pc Ls (.int y :: .int x :: st))) := by
  subst hp
  exact Fz.of (fun t k => XS.isub H hx rfl hd rfl k) K
theorem lsub {x y : Int64} (H : At T m c below) (hx : p.tables.exec = Jvm.exec) (hd : decode c.code pc = .ok (.lsub, 1)) (hp : pc + 1 = pc') (K : Fz b EL p e R s below Z Q (T.setTop (mkF m pc' Ls (.long (x - y) :: st)))) : Fz b EL p e R s below Z Q (T.setTop (mkF m pc Ls (.long y :: .long x :: st))) := by
  subst hp
  exact Fz.of (fun t k => XS.lsub H hx rfl hd rfl k) K
theorem imul {x y : Int32} (H : At T m c below) (hx : p.tables.exec = Jvm.exec) (hd : decode c.code pc = .ok (.imul, 1)) (hp : pc + 1 = pc') (K : Fz b EL p e R s below Z Q (T.setTop (mkF m pc' Ls (.int (x * y) :: st)))) : Fz b EL p e R s below Z Q (T.setTop (mkF m pc Ls (.int y :: .int x :: st))) := by
  subst hp
  exact Fz.of (fun t k => XS.imul H hx rfl hd rfl k) K
theorem lmul {x y : Int64} (H : At T m c below) (hx : p.tables.exec = Jvm.exec) (hd : decode c.code pc = .ok (.lmul, 1)) (hp : pc + 1 = pc') (K : Fz b EL p e R s below Z Q (T.setTop (mkF m pc' Ls (.long (x * y) :: st)))) : Fz b EL p e R s below Z Q (T.setTop (mkF m pc Ls (.long y :: .long x :: st))) := by
  subst hp
  exact Fz.of (fun t k => XS.lmul H hx rfl hd rfl k) K
theorem iand {x y : Int32} (H : At T m c below) (hx : p.tables.exec = Jvm.exec) (hd : decode c.code pc = .ok (.iand, 1)) (hp : pc + 1 = pc') (K : Fz b EL p e R s below Z Q (T.setTop (mkF m pc' Ls (.int (x &&& y) :: st)))) : Fz b EL p e R s below Z Q (T.setTop (mkF m pc Ls (.int y :: .int x :: st))) := by
  subst hp
  exact Fz.of (fun t k => XS.iand H hx rfl hd rfl k) K
theorem land {x y : Int64} (H : At T m c below) (hx : p.tables.exec = Jvm.exec) (hd : decode c.code pc = .ok (.land, 1)) (hp : pc + 1 = pc') (K : Fz b EL p e R s below Z Q (T.setTop (mkF m pc' Ls (.long (x &&& y) :: st)))) : Fz b EL p e R s below Z Q (T.setTop (mkF m pc Ls (.long y :: .long x :: st))) := by
  subst hp
  exact Fz.of (fun t k => XS.land H hx rfl hd rfl k) K
theorem ior {x y : Int32} (H : At T m c below) (hx : p.tables.exec = Jvm.exec) (hd : decode c.code pc = .ok (.ior, 1)) (hp : pc + 1 = pc') (K : Fz b EL p e R s below Z Q (T.setTop (mkF m pc' Ls (.int (x ||| y) :: st)))) : Fz b EL p e R s below Z Q (T.setTop (mkF m pc Ls (.int y :: .int x :: st))) := by
  subst hp
  exact Fz.of (fun t k => XS.ior H hx rfl hd rfl k) K
theorem lor {x y : Int64} (H : At T m c below) (hx : p.tables.exec = Jvm.exec) (hd : decode c.code pc = .ok (.lor, 1)) (hp : pc + 1 = pc') (K : Fz b EL p e R s below Z Q (T.setTop (mkF m pc' Ls (.long (x ||| y) :: st)))) : Fz b EL p e R s below Z Q (T.setTop (mkF m pc Ls (.long y :: .long x :: st))) := by
  subst hp
  exact Fz.of (fun t k => XS.lor H hx rfl hd rfl k) K
theorem ixor {x y : Int32} (H : At T m c below) (hx : p.tables.exec = Jvm.exec) (hd : decode c.code pc = .ok (.ixor, 1)) (hp : pc + 1 = pc') (K : Fz b EL p e R s below Z Q (T.setTop (mkF m pc' Ls (.int (x ^^^ y) :: st)))) : Fz b EL p e R s below Z Q (T.setTop (mkF m pc Ls (.int y :: .int x :: st))) := by
  subst hp
  exact Fz.of (fun t k => XS.ixor H hx rfl hd rfl k) K
theorem lxor {x y : Int64} (H : At T m c below) (hx : p.tables.exec = Jvm.exec) (hd : decode c.code pc = .ok (.lxor, 1)) (hp : pc + 1 = pc') (K : Fz b EL p e R s below Z Q (T.setTop (mkF m pc' Ls (.long (x ^^^ y) :: st)))) : Fz b EL p e R s below Z Q (T.setTop (mkF m pc Ls (.long y :: .long x :: st))) := by
  subst hp
  exact Fz.of (fun t k => XS.lxor H hx rfl hd rfl k) K
theorem iaddC {x y v : Int32} (H : At T m c below) (hx : p.tables.exec = Jvm.exec) (hd : decode c.code pc = .ok (.iadd, 1)) (hv : x + y = v) (hp : pc + 1 = pc') (K : Fz b EL p e R s below Z Q (T.setTop (mkF m pc' Ls (.int v :: st)))) : Fz b EL p e R s below Z Q (T.setTop (mkF m pc Ls (.int y :: .int x :: st))) := by
  subst hp; subst hv
  exact Fz.of (fun t k => XS.iadd H hx rfl hd rfl k) K
theorem isubC {x y v : Int32} (H : At T m c below) (hx : p.tables.exec = Jvm.exec) (hd : decode c.code pc = .ok (.isub, 1)) (hv : x - y = v) (hp : pc + 1 = pc') (K : Fz b EL p e R s below Z Q (T.setTop (mkF m pc' Ls (.int v :: st)))) : Fz b EL p e R s below Z Q (T.setTop (mkF m pc Ls (.int y :: .int x :: st))) := by
  subst hp; subst hv
  exact Fz.of (fun t k => XS.isub H hx rfl hd rfl k) K
theorem imulC {x y v : Int32} (H : At T m c below) (hx : p.tables.exec = Jvm.exec) (hd : decode c.code pc = .ok (.imul, 1)) (hv : x * y = v) (hp : pc + 1 = pc') (K : Fz b EL p e R s below Z Q (T.setTop (mkF m pc' Ls (.int v :: st)))) : Fz b EL p e R s below Z Q (T.setTop (mkF m pc Ls (.int y :: .int x :: st))) := by
  subst hp; subst hv
  exact Fz.of (fun t k => XS.imul H hx rfl hd rfl k) K
theorem iandC {x y v : Int32} (H : At T m c below) (hx : p.tables.exec = Jvm.exec) (hd : decode c.code pc = .ok (.iand, 1)) (hv : x &&& y = v) (hp : pc + 1 = pc') (K : Fz b EL p e R s below Z Q (T.setTop (mkF m pc' Ls (.int v :: st)))) : Fz b EL p e R s below Z Q (T.setTop (mkF m pc Ls (.int y :: .int x :: st))) := by
  subst hp; subst hv
  exact Fz.of (fun t k => XS.iand H hx rfl hd rfl k) K
theorem ishrC {x y v : Int32} (H : At T m c below) (hx : p.tables.exec = Jvm.exec) (hd : decode c.code pc = .ok (.ishr, 1)) (hv : x >>> (y &&& 31) = v) (hp : pc + 1 = pc') (K : Fz b EL p e R s below Z Q (T.setTop (mkF m pc' Ls (.int v :: st)))) : Fz b EL p e R s below Z Q (T.setTop (mkF m pc Ls (.int y :: .int x :: st))) := by
  subst hp; subst hv
  exact Fz.of (fun t k => XS.ishr H hx rfl hd rfl k) K
theorem ishlC {x y v : Int32} (H : At T m c below) (hx : p.tables.exec = Jvm.exec) (hd : decode c.code pc = .ok (.ishl, 1)) (hv : x <<< (y &&& 31) = v) (hp : pc + 1 = pc') (K : Fz b EL p e R s below Z Q (T.setTop (mkF m pc' Ls (.int v :: st)))) : Fz b EL p e R s below Z Q (T.setTop (mkF m pc Ls (.int y :: .int x :: st))) := by
  subst hp; subst hv
  exact Fz.of (fun t k => XS.ishl H hx rfl hd rfl k) K
theorem idiv {x y : Int32} (H : At T m c below) (hx : p.tables.exec = Jvm.exec) (hd : decode c.code pc = .ok (.idiv, 1)) (hy : y ≠ 0) (hp : pc + 1 = pc') (K : Fz b EL p e R s below Z Q (T.setTop (mkF m pc' Ls (.int (x / y) :: st)))) : Fz b EL p e R s below Z Q (T.setTop (mkF m pc Ls (.int y :: .int x :: st))) := by
  subst hp
  exact Fz.of (fun t k => XS.idiv H hx rfl hd rfl hy k) K
theorem irem {x y : Int32} (H : At T m c below) (hx : p.tables.exec = Jvm.exec) (hd : decode c.code pc = .ok (.irem, 1)) (hy : y ≠ 0) (hp : pc + 1 = pc') (K : Fz b EL p e R s below Z Q (T.setTop (mkF m pc' Ls (.int (x % y) :: st)))) : Fz b EL p e R s below Z Q (T.setTop (mkF m pc Ls (.int y :: .int x :: st))) := by
  subst hp
  exact Fz.of (fun t k => XS.irem H hx rfl hd rfl hy (by rw [show x - x / y * y = x % y from Jvm.irem_eq_mod x y]; exact k)) K
theorem ineg {x : Int32} (H : At T m c below) (hx : p.tables.exec = Jvm.exec) (hd : decode c.code pc = .ok (.ineg, 1)) (hp : pc + 1 = pc') (K : Fz b EL p e R s below Z Q (T.setTop (mkF m pc' Ls (.int (-x) :: st)))) : Fz b EL p e R s below Z Q (T.setTop (mkF m pc Ls (.int x :: st))) := by
  subst hp
  exact Fz.of (fun t k => XS.ineg H hx rfl hd rfl k) K
theorem lneg {x : Int64} (H : At T m c below) (hx : p.tables.exec = Jvm.exec) (hd : decode c.code pc = .ok (.lneg, 1)) (hp : pc + 1 = pc') (K : Fz b EL p e R s below Z Q (T.setTop (mkF m pc' Ls (.long (-x) :: st)))) : Fz b EL p e R s below Z Q (T.setTop (mkF m pc Ls (.long x :: st))) := by
  subst hp
  exact Fz.of (fun t k => XS.lneg H hx rfl hd rfl k) K
theorem i2l {x : Int32} (H : At T m c below) (hx : p.tables.exec = Jvm.exec) (hd : decode c.code pc = .ok (.i2l, 1)) (hp : pc + 1 = pc') (K : Fz b EL p e R s below Z Q (T.setTop (mkF m pc' Ls (.long x.toInt64 :: st)))) : Fz b EL p e R s below Z Q (T.setTop (mkF m pc Ls (.int x :: st))) := by
  subst hp
  exact Fz.of (fun t k => XS.i2l H hx rfl hd rfl k) K
theorem l2i {x : Int64} (H : At T m c below) (hx : p.tables.exec = Jvm.exec) (hd : decode c.code pc = .ok (.l2i, 1)) (hp : pc + 1 = pc') (K : Fz b EL p e R s below Z Q (T.setTop (mkF m pc' Ls (.int x.toInt32 :: st)))) : Fz b EL p e R s below Z Q (T.setTop (mkF m pc Ls (.long x :: st))) := by
  subst hp
  exact Fz.of (fun t k => XS.l2i H hx rfl hd rfl k) K
theorem i2b {x : Int32} (H : At T m c below) (hx : p.tables.exec = Jvm.exec) (hd : decode c.code pc = .ok (.i2b, 1)) (hp : pc + 1 = pc') (K : Fz b EL p e R s below Z Q (T.setTop (mkF m pc' Ls (.int x.toInt8.toInt32 :: st)))) : Fz b EL p e R s below Z Q (T.setTop (mkF m pc Ls (.int x :: st))) := by
  subst hp
  exact Fz.of (fun t k => XS.i2b H hx rfl hd rfl k) K
theorem i2s {x : Int32} (H : At T m c below) (hx : p.tables.exec = Jvm.exec) (hd : decode c.code pc = .ok (.i2s, 1)) (hp : pc + 1 = pc') (K : Fz b EL p e R s below Z Q (T.setTop (mkF m pc' Ls (.int x.toInt16.toInt32 :: st)))) : Fz b EL p e R s below Z Q (T.setTop (mkF m pc Ls (.int x :: st))) := by
  subst hp
  exact Fz.of (fun t k => XS.i2s H hx rfl hd rfl k) K
theorem i2c {x : Int32} (H : At T m c below) (hx : p.tables.exec = Jvm.exec) (hd : decode c.code pc = .ok (.i2c, 1)) (hp : pc + 1 = pc') (K : Fz b EL p e R s below Z Q (T.setTop (mkF m pc' Ls (.int x.toUInt32.toUInt16.toUInt32.toInt32 :: st)))) : Fz b EL p e R s below Z Q (T.setTop (mkF m pc Ls (.int x :: st))) := by
  subst hp
  exact Fz.of (fun t k => XS.i2c H hx rfl hd rfl k) K
theorem ishl {x y : Int32} (H : At T m c below) (hx : p.tables.exec = Jvm.exec) (hd : decode c.code pc = .ok (.ishl, 1)) (hp : pc + 1 = pc') (K : Fz b EL p e R s below Z Q (T.setTop (mkF m pc' Ls (.int (x <<< (y &&& 31)) :: st)))) : Fz b EL p e R s below Z Q (T.setTop (mkF m pc Ls (.int y :: .int x :: st))) := by
  subst hp
  exact Fz.of (fun t k => XS.ishl H hx rfl hd rfl k) K
theorem ishr {x y : Int32} (H : At T m c below) (hx : p.tables.exec = Jvm.exec) (hd : decode c.code pc = .ok (.ishr, 1)) (hp : pc + 1 = pc') (K : Fz b EL p e R s below Z Q (T.setTop (mkF m pc' Ls (.int (x >>> (y &&& 31)) :: st)))) : Fz b EL p e R s below Z Q (T.setTop (mkF m pc Ls (.int y :: .int x :: st))) := by
  subst hp
  exact Fz.of (fun t k => XS.ishr H hx rfl hd rfl k) K
theorem iushr {x y : Int32} (H : At T m c below) (hx : p.tables.exec = Jvm.exec) (hd : decode c.code pc = .ok (.iushr, 1)) (hp : pc + 1 = pc') (K : Fz b EL p e R s below Z Q (T.setTop (mkF m pc' Ls (.int ((x.toUInt32 >>> (y &&& 31).toUInt32).toInt32) :: st)))) : Fz b EL p e R s below Z Q (T.setTop (mkF m pc Ls (.int y :: .int x :: st))) := by
  subst hp
  exact Fz.of (fun t k => XS.iushr H hx rfl hd rfl k) K
theorem lcmp {x y : Int64} (H : At T m c below) (hx : p.tables.exec = Jvm.exec) (hd : decode c.code pc = .ok (.lcmp, 1)) (hp : pc + 1 = pc') (K : Fz b EL p e R s below Z Q (T.setTop (mkF m pc' Ls (.int (lcmpW x y) :: st)))) : Fz b EL p e R s below Z Q (T.setTop (mkF m pc Ls (.long y :: .long x :: st))) := by
  subst hp
  exact Fz.of (fun t k => XS.lcmp H hx rfl hd rfl k) K
theorem dup {x : Value} (H : At T m c below) (hx : p.tables.exec = Jvm.exec) (hd : decode c.code pc = .ok (.dup, 1)) (hc : x.category = 1) (hp : pc + 1 = pc') (K : Fz b EL p e R s below Z Q (T.setTop (mkF m pc' Ls (x :: x :: st)))) : Fz b EL p e R s below Z Q (T.setTop (mkF m pc Ls (x :: st))) := by
  subst hp
  exact Fz.of (fun t k => XS.dup H hx rfl hd rfl hc k) K
theorem pop {x : Value} (H : At T m c below) (hx : p.tables.exec = Jvm.exec) (hd : decode c.code pc = .ok (.pop, 1)) (hc : x.category = 1) (hp : pc + 1 = pc') (K : Fz b EL p e R s below Z Q (T.setTop (mkF m pc' Ls st))) : Fz b EL p e R s below Z Q (T.setTop (mkF m pc Ls (x :: st))) := by
  subst hp
  exact Fz.of (fun t k => XS.pop H hx rfl hd rfl hc k) K
theorem dupX1 {x y : Value} (H : At T m c below) (hx : p.tables.exec = Jvm.exec) (hd : decode c.code pc = .ok (.dup_x1, 1)) (hc : x.category = 1) (hc' : y.category = 1) (hp : pc + 1 = pc') (K : Fz b EL p e R s below Z Q (T.setTop (mkF m pc' Ls (x :: y :: x :: st)))) : Fz b EL p e R s below Z Q (T.setTop (mkF m pc Ls (x :: y :: st))) := by
  subst hp
  exact Fz.of (fun t k => XS.dupX1 H hx rfl hd rfl hc hc' k) K
theorem goto {o : Int} (H : At T m c below) (hx : p.tables.exec = Jvm.exec) (hd : decode c.code pc = .ok (.goto o, 3)) (ho : 0 ≤ (pc : Int) + o) (hp : ((pc : Int) + o).toNat = pc') (K : Fz b EL p e R s below Z Q (T.setTop (mkF m pc' Ls st))) : Fz b EL p e R s below Z Q (T.setTop (mkF m pc Ls st)) :=
  Fz.of (fun t k => XS.goto H hx rfl rfl hd ho hp k) K
theorem ifY {cd : ClassFile.Cond} {x : Int32} {o : Int} (H : At T m c below) (hx : p.tables.exec = Jvm.exec) (hd : decode c.code pc = .ok (.ifCond cd o, 3)) (hc : ifCond.holds cd x = true) (ho : 0 ≤ (pc : Int) + o) (hp : ((pc : Int) + o).toNat = pc') (K : Fz b EL p e R s below Z Q (T.setTop (mkF m pc' Ls st))) : Fz b EL p e R s below Z Q (T.setTop (mkF m pc Ls (.int x :: st))) :=
  Fz.of (fun t k => XS.ifYes H hx rfl rfl hd rfl hc ho hp k) K
theorem icmpY {cd : ClassFile.Cond} {x y : Int32} {o : Int} (H : At T m c below) (hx : p.tables.exec = Jvm.exec) (hd : decode c.code pc = .ok (.if_icmp cd o, 3)) (hc : if_icmp.holds cd x y = true) (ho : 0 ≤ (pc : Int) + o) (hp : ((pc : Int) + o).toNat = pc') (K : Fz b EL p e R s below Z Q (T.setTop (mkF m pc' Ls st))) : Fz b EL p e R s below Z Q (T.setTop (mkF m pc Ls (.int y :: .int x :: st))) :=
  Fz.of (fun t k => XS.icmpYes H hx rfl rfl hd rfl hc ho hp k) K
theorem ifnullY {o : Int} (H : At T m c below) (hx : p.tables.exec = Jvm.exec) (hd : decode c.code pc = .ok (.ifnull o, 3)) (ho : 0 ≤ (pc : Int) + o) (hp : ((pc : Int) + o).toNat = pc') (K : Fz b EL p e R s below Z Q (T.setTop (mkF m pc' Ls st))) : Fz b EL p e R s below Z Q (T.setTop (mkF m pc Ls (.null :: st))) :=
  Fz.of (fun t k => XS.ifnullYes H hx rfl rfl hd rfl ho hp k) K
theorem ifnonnullY {a : Addr} {o : Int} (H : At T m c below) (hx : p.tables.exec = Jvm.exec) (hd : decode c.code pc = .ok (.ifnonnull o, 3)) (ho : 0 ≤ (pc : Int) + o) (hp : ((pc : Int) + o).toNat = pc') (K : Fz b EL p e R s below Z Q (T.setTop (mkF m pc' Ls st))) : Fz b EL p e R s below Z Q (T.setTop (mkF m pc Ls (.ref a :: st))) :=
  Fz.of (fun t k => XS.ifnonnullYes H hx rfl rfl hd rfl ho hp k) K
theorem acmpY {cd : ClassFile.ACond} {x y : Value} {o : Int} (H : At T m c below) (hx : p.tables.exec = Jvm.exec) (hd : decode c.code pc = .ok (.if_acmp cd o, 3)) (h1 : x.isRef = true) (h2 : y.isRef = true) (hc : Jvm.Free.XT.acmp cd x y = true) (ho : 0 ≤ (pc : Int) + o) (hp : ((pc : Int) + o).toNat = pc') (K : Fz b EL p e R s below Z Q (T.setTop (mkF m pc' Ls st))) : Fz b EL p e R s below Z Q (T.setTop (mkF m pc Ls (y :: x :: st))) :=
  Fz.of (fun t k => Jvm.Free.XT.acmpYes H hx rfl rfl hd rfl h1 h2 hc ho hp k) K
theorem ifN {cd : ClassFile.Cond} {o : Int} {x : Int32} (H : At T m c below) (hx : p.tables.exec = Jvm.exec) (hd : decode c.code pc = .ok (.ifCond cd o, 3)) (hc : ifCond.holds cd x = false) (hp : pc + 3 = pc') (K : Fz b EL p e R s below Z Q (T.setTop (mkF m pc' Ls st))) : Fz b EL p e R s below Z Q (T.setTop (mkF m pc Ls (.int x :: st))) := by
  subst hp
  exact Fz.of (fun t k => XS.ifNo H hx rfl hd rfl hc k) K
theorem icmpN {cd : ClassFile.Cond} {o : Int} {x y : Int32} (H : At T m c below) (hx : p.tables.exec = Jvm.exec) (hd : decode c.code pc = .ok (.if_icmp cd o, 3)) (hc : if_icmp.holds cd x y = false) (hp : pc + 3 = pc') (K : Fz b EL p e R s below Z Q (T.setTop (mkF m pc' Ls st))) : Fz b EL p e R s below Z Q (T.setTop (mkF m pc Ls (.int y :: .int x :: st))) := by
  subst hp
  exact Fz.of (fun t k => XS.icmpNo H hx rfl hd rfl hc k) K
theorem ifnullN {o : Int} {a : Addr} (H : At T m c below) (hx : p.tables.exec = Jvm.exec) (hd : decode c.code pc = .ok (.ifnull o, 3)) (hp : pc + 3 = pc') (K : Fz b EL p e R s below Z Q (T.setTop (mkF m pc' Ls st))) : Fz b EL p e R s below Z Q (T.setTop (mkF m pc Ls (.ref a :: st))) := by
  subst hp
  exact Fz.of (fun t k => XS.ifnullNo H hx rfl hd rfl k) K
theorem ifnonnullN {o : Int} (H : At T m c below) (hx : p.tables.exec = Jvm.exec) (hd : decode c.code pc = .ok (.ifnonnull o, 3)) (hp : pc + 3 = pc') (K : Fz b EL p e R s below Z Q (T.setTop (mkF m pc' Ls st))) : Fz b EL p e R s below Z Q (T.setTop (mkF m pc Ls (.null :: st))) := by
  subst hp
  exact Fz.of (fun t k => XS.ifnonnullNo H hx rfl hd rfl k) K
theorem acmpN {cd : ClassFile.ACond} {o : Int} {x y : Value} (H : At T m c below) (hx : p.tables.exec = Jvm.exec) (hd : decode c.code pc = .ok (.if_acmp cd o, 3)) (h1 : x.isRef = true) (h2 : y.isRef = true) (hc : Jvm.Free.XT.acmp cd x y = false) (hp : pc + 3 = pc') (K : Fz b EL p e R s below Z Q (T.setTop (mkF m pc' Ls st))) : Fz b EL p e R s below Z Q (T.setTop (mkF m pc Ls (y :: x :: st))) := by
  subst hp
  exact Fz.of (fun t k => Jvm.Free.XT.acmpNo H hx rfl hd rfl h1 h2 hc k) K
theorem getstatic {R0 O' n d host : String} {index : Nat} {v : Value} (G : Go b EL NS p l e R s m args below meth c Z own T h cells slots) (hx : p.tables.exec = Jvm.exec) (hd : decode c.code pc = .ok (.getstatic index, 3)) (w : (Cond.fieldLink own index R0 n d).before a0 Z = true ∨ (Cond.fieldLinkNest own index R0 n d host).before a0 Z = true) (via : Via Z R0 O' n d) (F : Sta Z Z.heap O' n d v) (hp : pc + 3 = pc')
    (K : ∀ T', Go b EL NS p l e R s m args below meth c Z own T' h cells slots → Fz b EL p e R s below Z Q (T'.setTop (mkF m pc' Ls (v :: st)))) : Fz b EL p e R s below Z Q (T.setTop (mkF m pc Ls st)) := by
  subst hp
  obtain ⟨vm0, k0, locs, X, hb, hS, hk, hZ, hown, eT, N, O, HE, CR, HN⟩ := G
  obtain ⟨T', X', e', f⟩ := getS2 X hx hZ hown w via eT (F.ext O) (g := mkF m pc Ls st) rfl hd
  exact Fz.of f (K T' ⟨vm0, k0, locs, X', hb, hS, hk, hZ, hown, e', N, O, HE, CR, HN⟩)
theorem getfield {R0 O' n d host : String} {index : Nat} {a : Addr} {v : Value} (G : Go b EL NS p l e R s m args below meth c Z own T h cells slots) (hx : p.tables.exec = Jvm.exec) (hd : decode c.code pc = .ok (.getfield index, 3)) (w : (Cond.fieldLink own index R0 n d).before a0 Z = true ∨ (Cond.fieldLinkNest own index R0 n d host).before a0 Z = true) (via : Via Z R0 O' n d) (F : Fld Z h a O' n d v) (hp : pc + 3 = pc')
    (K : ∀ T', Go b EL NS p l e R s m args below meth c Z own T' h cells slots → Fz b EL p e R s below Z Q (T'.setTop (mkF m pc' Ls (v :: st)))) : Fz b EL p e R s below Z Q (T.setTop (mkF m pc Ls (.ref a :: st))) := by
  subst hp
  obtain ⟨vm0, k0, locs, X, hb, hS, hk, hZ, hown, eT, N, O, HE, CR, HN⟩ := G
  obtain ⟨T', X', e', f⟩ := getF X hx hZ hown w via eT F (g := mkF m pc Ls (.ref a :: st)) rfl rfl hd
  exact Fz.of f (K T' ⟨vm0, k0, locs, X', hb, hS, hk, hZ, hown, e', N, O, HE, CR, HN⟩)
theorem putfield {R0 O' n d host C : String} {index kk : Nat} {ty : FieldType} {a : Addr} {v u : Value} (G : Go b EL NS p l e R s m args below meth c Z own T h cells slots) (hx : p.tables.exec = Jvm.exec) (hd : decode c.code pc = .ok (.putfield index, 3)) (w : (Cond.fieldLink own index R0 n d).before a0 Z = true ∨ (Cond.fieldLinkNest own index R0 n d host).before a0 Z = true) (via : Via Z R0 O' n d) (F : Fld Z h a O' n d u) (E : Exa Z h a C) (L : (Cond.lays C O' n d).before a0 Z = true ∨ ((Cond.laysFinal C O' n d).before a0 Z = true ∧ own = O' ∧ meth.name = "<init>")) (wi : (Cond.instantiable C kk).before a0 Z = true) (hty : parseFieldDescriptor d = some ty) (hn : narrow ty v = v) (hf : fits ty v = true) (ga : Z.heap.size ≤ a) (sf : EL = [] ∨ (C ≠ "java/lang/String" ∧ C ≠ "[B") ∨ a ∈ NS) (hp : pc + 3 = pc')
    (K : ∀ T' h', Go b EL NS p l e R s m args below meth c Z own T' h' cells slots → Wr h h' a (Jvm.RoadKit.slotOf Z O' n d) v → Fz b EL p e R s below Z Q (T'.setTop (mkF m pc' Ls st))) : Fz b EL p e R s below Z Q (T.setTop (mkF m pc Ls (v :: .ref a :: st))) := by
  subst hp
  obtain ⟨vm0, k0, locs, X, hb, hS, hk, hZ, hown, eT, N, O, HE, CR, HN⟩ := G
  obtain ⟨T', h', X', e', W', f⟩ := putF X hx hZ hown w via eT F E L wi hty hn hf (g := mkF m pc Ls (v :: .ref a :: st)) rfl rfl hd
  exact Fz.of f (K T' h' ⟨vm0, k0, _, X', hb, hS, by rw [W'.size]; exact hk, hZ, hown, e', Fr.snoc X' N ga, (Old.wr (n0 := Z.heap.size) ⟨rfl, O⟩ W' ga).2, HE, CR.trans (CHr.wr W' (safeF sf hZ.alike E HN) CR.1), hnC (CHr.wr W' (safeF sf hZ.alike E HN) CR.1) HN⟩ W')
theorem putfieldN {R0 O' n d C : String} {index kk : Nat} {ty : FieldType} {a : Addr} {v v' u : Value} (G : Go b EL NS p l e R s m args below meth c Z own T h cells slots) (hx : p.tables.exec = Jvm.exec) (hd : decode c.code pc = .ok (.putfield index, 3)) (w : (Cond.fieldLink own index R0 n d).before a0 Z = true) (via : Via Z R0 O' n d) (F : Fld Z h a O' n d u) (E : Exa Z h a C) (L : (Cond.lays C O' n d).before a0 Z = true ∨ ((Cond.laysFinal C O' n d).before a0 Z = true ∧ own = O' ∧ meth.name = "<init>")) (wi : (Cond.instantiable C kk).before a0 Z = true) (hty : parseFieldDescriptor d = some ty) (hn : narrow ty v = v') (hf : fits ty v' = true) (ga : Z.heap.size ≤ a) (sf : EL = [] ∨ (C ≠ "java/lang/String" ∧ C ≠ "[B") ∨ a ∈ NS) (hp : pc + 3 = pc')
    (K : ∀ T' h', Go b EL NS p l e R s m args below meth c Z own T' h' cells slots → Wr h h' a (Jvm.RoadKit.slotOf Z O' n d) v' → Fz b EL p e R s below Z Q (T'.setTop (mkF m pc' Ls st))) : Fz b EL p e R s below Z Q (T.setTop (mkF m pc Ls (v :: .ref a :: st))) := by
  subst hp
  obtain ⟨vm0, k0, locs, X, hb, hS, hk, hZ, hown, eT, N, O, HE, CR, HN⟩ := G
  obtain ⟨T', h', X', e', W', f⟩ := putFN X hx hZ hown w via eT F E L wi hty hn hf (g := mkF m pc Ls (v :: .ref a :: st)) rfl rfl hd
  exact Fz.of f (K T' h' ⟨vm0, k0, _, X', hb, hS, by rw [W'.size]; exact hk, hZ, hown, e', Fr.snoc X' N ga, (Old.wr (n0 := Z.heap.size) ⟨rfl, O⟩ W' ga).2, HE, CR.trans (CHr.wr W' (safeF sf hZ.alike E HN) CR.1), hnC (CHr.wr W' (safeF sf hZ.alike E HN) CR.1) HN⟩ W')
theorem new {C : String} {index kk : Nat} (G : Go b EL NS p l e R s m args below meth c Z own T h cells slots) (hx : p.tables.exec = Jvm.exec) (hd : decode c.code pc = .ok (.new index, 3)) (w : (Cond.classLink own index C).before a0 Z = true) (wi : (Cond.instantiable C kk).before a0 Z = true) (wz : (Cond.initialized C).before a0 Z = true) (hc : cells + 1 = cells') (hc' : cells' ≤ R.cells) (hs : slots + kk = slots') (hs' : slots' ≤ R.slots) (hp : pc + 3 = pc')
    (K : ∀ T' h' a, a = h.size → Go b EL (a :: NS) p l e R s m args below meth c Z own T' h' cells' slots' → Ext h h' → Exa Z h' a C → (∀ {O nm d : String} {ty : FieldType}, Laid Z a0 C O nm d → parseFieldDescriptor d = some ty → Fld Z h' a O nm d (defaultValue ty)) → Fz b EL p e R s below Z Q (T'.setTop (mkF m pc' Ls (.ref a :: st)))) : Fz b EL p e R s below Z Q (T.setTop (mkF m pc Ls st)) := by
  subst hp
  obtain ⟨vm0, k0, locs, X, hb, hS, hk, hZ, hown, eT, N, O, HE, CR, HN⟩ := G
  subst hc; subst hs
  obtain ⟨T', h', X', e', E', A', D', -, f⟩ := newO X hx hZ hown w wi wz eT (g := mkF m pc Ls st) rfl hd hc' hs'
  exact Fz.of f (K T' h' h.size rfl ⟨vm0, k0, locs, X', hb, hS, Nat.le_trans hk E'.1, hZ, hown, e', N, (Old.ext (n0 := Z.heap.size) ⟨rfl, O⟩ E').2, HE, CR.trans (CHr.ext E' CR.1), hnA E' CR.1 (Nat.le_refl _) A'.lt HN⟩ E' A' D')
theorem newarray {aty : ArrayType} {z : Int32} {cap : Nat} (G : Go b EL NS p l e R s m args below meth c Z own T h cells slots) (hx : p.tables.exec = Jvm.exec) (hd : decode c.code pc = .ok (.newarray aty, 2)) (w : (Cond.arrayClass (newarray.typeOf aty)).before a0 Z = true) (hn : ¬ z < 0) (hcap : z.toNatClampNeg ≤ cap) (hb8 : cap * 8 ≤ 536870912) (hc : cells + 1 = cells') (hc' : cells' ≤ R.cells) (hs : slots + cap = slots') (hs' : slots' ≤ R.slots) (hp : pc + 2 = pc')
    (K : ∀ T' h' a k, a = h.size → Go b EL (a :: NS) p l e R s m args below meth c Z own T' h' cells' slots' → Ext h h' → Arv Z h' a k (newarray.typeOf aty) z [] (defaultValue (newarray.typeOf aty)) → Fz b EL p e R s below Z Q (T'.setTop (mkF m pc' Ls (.ref a :: st)))) : Fz b EL p e R s below Z Q (T.setTop (mkF m pc Ls (.int z :: st))) := by
  subst hp
  obtain ⟨vm0, k0, locs, X, hb, hS, hk, hZ, hown, eT, N, O, HE, CR, HN⟩ := G
  subst hc; subst hs
  obtain ⟨T', h', k, X', e', E', A', f⟩ := newP X hx hZ w eT (g := mkF m pc Ls (.int z :: st)) rfl hd rfl hn hcap hb8 hc' hs'
  exact Fz.of f (K T' h' h.size k rfl ⟨vm0, k0, locs, X', hb, hS, Nat.le_trans hk E'.1, hZ, hown, e', N, (Old.ext (n0 := Z.heap.size) ⟨rfl, O⟩ E').2, HE, CR.trans (CHr.ext E' CR.1), hnA E' CR.1 (Nat.le_refl _) (Arv.new A' hn).lt HN⟩ E' (Arv.new A' hn))
theorem anewarray {C : String} {index : Nat} {z : Int32} {cap : Nat} (G : Go b EL NS p l e R s m args below meth c Z own T h cells slots) (hx : p.tables.exec = Jvm.exec) (hd : decode c.code pc = .ok (.anewarray index, 3)) (w : (Cond.classLink own index C).before a0 Z = true) (w2 : (Cond.arrayOver (.object C)).before a0 Z = true) (hn : ¬ z < 0) (hcap : z.toNatClampNeg ≤ cap) (hb8 : cap * 8 ≤ 536870912) (hc : cells + 1 = cells') (hc' : cells' ≤ R.cells) (hs : slots + cap = slots') (hs' : slots' ≤ R.slots) (hp : pc + 3 = pc')
    (K : ∀ T' h' a k, a = h.size → Go b EL (a :: NS) p l e R s m args below meth c Z own T' h' cells' slots' → Ext h h' → Arv Z h' a k (.object C) z [] .null → Ovr Z k C → Fz b EL p e R s below Z Q (T'.setTop (mkF m pc' Ls (.ref a :: st)))) : Fz b EL p e R s below Z Q (T.setTop (mkF m pc Ls (.int z :: st))) := by
  subst hp
  obtain ⟨vm0, k0, locs, X, hb, hS, hk, hZ, hown, eT, N, O, HE, CR, HN⟩ := G
  subst hc; subst hs
  obtain ⟨T', h', k, X', e', E', A', O2, f⟩ := newR X hx hZ hown w w2 eT (g := mkF m pc Ls (.int z :: st)) rfl hd rfl hn hcap hb8 hc' hs'
  exact Fz.of f (K T' h' h.size k rfl ⟨vm0, k0, locs, X', hb, hS, Nat.le_trans hk E'.1, hZ, hown, e', N, (Old.ext (n0 := Z.heap.size) ⟨rfl, O⟩ E').2, HE, CR.trans (CHr.ext E' CR.1), hnA E' CR.1 (Nat.le_refl _) (Arv.new A' hn).lt HN⟩ E' (Arv.new A' hn) O2)
theorem iastore {k : ClassId} {z j x : Int32} {a : Addr} {vs : List Value} {dv : Value} {i : Nat} (G : Go b EL NS p l e R s m args below meth c Z own T h cells slots) (hx : p.tables.exec = Jvm.exec) (hd : decode c.code pc = .ok (.iastore, 1)) (V : Arv Z h a k .int z vs dv) (hj : ¬ j < 0 ∧ j < z) (hi : j.toNatClampNeg = i) (hl : i < vs.length) (ga : Z.heap.size ≤ a) (sf : EL = [] ∨ (.int : FieldType) ≠ .byte ∨ a ∈ NS ∨ EWL Z a0 EL z.toNatClampNeg) (hp : pc + 1 = pc')
    (K : ∀ T' h', Go b EL NS p l e R s m args below meth c Z own T' h' cells slots → Wr h h' a j.toNatClampNeg (.int x) → Arv Z h' a k .int z (vs.set i (.int x)) dv → Fz b EL p e R s below Z Q (T'.setTop (mkF m pc' Ls st))) : Fz b EL p e R s below Z Q (T.setTop (mkF m pc Ls (.int x :: .int j :: .ref a :: st))) := by
  subst hp
  obtain ⟨vm0, k0, locs, X, hb, hS, hk, hZ, hown, eT, N, O, HE, CR, HN⟩ := G
  obtain ⟨cl, A, q1, S, q3, H, G2⟩ := V
  obtain ⟨T', h', X', e', W', f⟩ := stI X hx hZ eT A (inb_of S hj) (g := mkF m pc Ls (.int x :: .int j :: .ref a :: st)) rfl rfl hd
  exact Fz.of f (K T' h' ⟨vm0, k0, _, X', hb, hS, by rw [W'.size]; exact hk, hZ, hown, e', Fr.snoc X' N ga, (Old.wr (n0 := Z.heap.size) ⟨rfl, O⟩ W' ga).2, HE, CR.trans (CHr.wr W' (safeA sf hZ A S HN) CR.1), hnC (CHr.wr W' (safeA sf hZ A S HN) CR.1) HN⟩ W' (Arv.set A q1 S q3 H G2 rfl W' i hi hl))
theorem bastore {k : ClassId} {z j x : Int32} {a : Addr} {vs : List Value} {dv : Value} {i : Nat} (G : Go b EL NS p l e R s m args below meth c Z own T h cells slots) (hx : p.tables.exec = Jvm.exec) (hd : decode c.code pc = .ok (.bastore, 1)) (V : Arv Z h a k .byte z vs dv) (hj : ¬ j < 0 ∧ j < z) (hi : j.toNatClampNeg = i) (hl : i < vs.length) (ga : Z.heap.size ≤ a) (sf : EL = [] ∨ (.byte : FieldType) ≠ .byte ∨ a ∈ NS ∨ EWL Z a0 EL z.toNatClampNeg) (hp : pc + 1 = pc')
    (K : ∀ T' h', Go b EL NS p l e R s m args below meth c Z own T' h' cells slots → Wr h h' a j.toNatClampNeg (.int (nar .byte x)) → Arv Z h' a k .byte z (vs.set i (.int (nar .byte x))) dv → Fz b EL p e R s below Z Q (T'.setTop (mkF m pc' Ls st))) : Fz b EL p e R s below Z Q (T.setTop (mkF m pc Ls (.int x :: .int j :: .ref a :: st))) := by
  subst hp
  obtain ⟨vm0, k0, locs, X, hb, hS, hk, hZ, hown, eT, N, O, HE, CR, HN⟩ := G
  obtain ⟨cl, A, q1, S, q3, H, G2⟩ := V
  obtain ⟨T', h', X', e', W', f⟩ := stB X hx hZ eT A (inb_of S hj) (g := mkF m pc Ls (.int x :: .int j :: .ref a :: st)) rfl rfl hd
  exact Fz.of f (K T' h' ⟨vm0, k0, _, X', hb, hS, by rw [W'.size]; exact hk, hZ, hown, e', Fr.snoc X' N ga, (Old.wr (n0 := Z.heap.size) ⟨rfl, O⟩ W' ga).2, HE, CR.trans (CHr.wr W' (safeA sf hZ A S HN) CR.1), hnC (CHr.wr W' (safeA sf hZ A S HN) CR.1) HN⟩ W' (Arv.set A q1 S q3 H G2 (fits_nar_byte x) W' i hi hl))
theorem castore {k : ClassId} {z j x : Int32} {a : Addr} {vs : List Value} {dv : Value} {i : Nat} (G : Go b EL NS p l e R s m args below meth c Z own T h cells slots) (hx : p.tables.exec = Jvm.exec) (hd : decode c.code pc = .ok (.castore, 1)) (V : Arv Z h a k .char z vs dv) (hj : ¬ j < 0 ∧ j < z) (hi : j.toNatClampNeg = i) (hl : i < vs.length) (ga : Z.heap.size ≤ a) (sf : EL = [] ∨ (.char : FieldType) ≠ .byte ∨ a ∈ NS ∨ EWL Z a0 EL z.toNatClampNeg) (hp : pc + 1 = pc')
    (K : ∀ T' h', Go b EL NS p l e R s m args below meth c Z own T' h' cells slots → Wr h h' a j.toNatClampNeg (.int (nar .char x)) → Arv Z h' a k .char z (vs.set i (.int (nar .char x))) dv → Fz b EL p e R s below Z Q (T'.setTop (mkF m pc' Ls st))) : Fz b EL p e R s below Z Q (T.setTop (mkF m pc Ls (.int x :: .int j :: .ref a :: st))) := by
  subst hp
  obtain ⟨vm0, k0, locs, X, hb, hS, hk, hZ, hown, eT, N, O, HE, CR, HN⟩ := G
  obtain ⟨cl, A, q1, S, q3, H, G2⟩ := V
  obtain ⟨T', h', X', e', W', f⟩ := stC X hx hZ eT A (inb_of S hj) (g := mkF m pc Ls (.int x :: .int j :: .ref a :: st)) rfl rfl hd
  exact Fz.of f (K T' h' ⟨vm0, k0, _, X', hb, hS, by rw [W'.size]; exact hk, hZ, hown, e', Fr.snoc X' N ga, (Old.wr (n0 := Z.heap.size) ⟨rfl, O⟩ W' ga).2, HE, CR.trans (CHr.wr W' (safeA sf hZ A S HN) CR.1), hnC (CHr.wr W' (safeA sf hZ A S HN) CR.1) HN⟩ W' (Arv.set A q1 S q3 H G2 (fits_nar_char x) W' i hi hl))
theorem aastore {C : String} {k : ClassId} {z j : Int32} {a y : Addr} {vs : List Value} {dv : Value} {i : Nat} (G : Go b EL NS p l e R s m args below meth c Z own T h cells slots) (hx : p.tables.exec = Jvm.exec) (hd : decode c.code pc = .ok (.aastore, 1)) (V : Arv Z h a k (.object C) z vs dv) (OV : Ovr Z k C) (I : Ins Z h y C true) (hj : ¬ j < 0 ∧ j < z) (hi : j.toNatClampNeg = i) (hl : i < vs.length) (ga : Z.heap.size ≤ a) (sf : EL = [] ∨ ((.object C) : FieldType) ≠ .byte ∨ a ∈ NS ∨ EWL Z a0 EL z.toNatClampNeg) (hp : pc + 1 = pc')
    (K : ∀ T' h', Go b EL NS p l e R s m args below meth c Z own T' h' cells slots → Wr h h' a j.toNatClampNeg (.ref y) → Arv Z h' a k (.object C) z (vs.set i (.ref y)) dv → Fz b EL p e R s below Z Q (T'.setTop (mkF m pc' Ls st))) : Fz b EL p e R s below Z Q (T.setTop (mkF m pc Ls (.ref y :: .int j :: .ref a :: st))) := by
  subst hp
  obtain ⟨vm0, k0, locs, X, hb, hS, hk, hZ, hown, eT, N, O, HE, CR, HN⟩ := G
  obtain ⟨cl, A, q1, S, q3, H, G2⟩ := V
  obtain ⟨T', h', X', e', W', f⟩ := stR X hx hZ eT A (inb_of S hj) rfl (Sto.ofV A q1 OV I) (g := mkF m pc Ls (.ref y :: .int j :: .ref a :: st)) rfl rfl hd
  exact Fz.of f (K T' h' ⟨vm0, k0, _, X', hb, hS, by rw [W'.size]; exact hk, hZ, hown, e', Fr.snoc X' N ga, (Old.wr (n0 := Z.heap.size) ⟨rfl, O⟩ W' ga).2, HE, CR.trans (CHr.wr W' (safeA sf hZ A S HN) CR.1), hnC (CHr.wr W' (safeA sf hZ A S HN) CR.1) HN⟩ W' (Arv.set A q1 S q3 H G2 rfl W' i hi hl))
theorem iaload {k : ClassId} {z j : Int32} {a : Addr} {v : Value} {vs : List Value} {dv : Value} (G : Go b EL NS p l e R s m args below meth c Z own T h cells slots) (hx : p.tables.exec = Jvm.exec) (hd : decode c.code pc = .ok (.iaload, 1)) (V : Arv Z h a k .int z vs dv) (hj : ¬ j < 0 ∧ j < z) (hv : vs.getD j.toNatClampNeg dv = v) (hp : pc + 1 = pc') (K : Fz b EL p e R s below Z Q (T.setTop (mkF m pc' Ls (v :: st)))) : Fz b EL p e R s below Z Q (T.setTop (mkF m pc Ls (.int j :: .ref a :: st))) := by
  subst hp
  obtain ⟨vm0, k0, locs, X, hb, hS, hk, hZ, hown, eT, N, O, HE, CR, HN⟩ := G
  obtain ⟨cl, A, q1, S, q3, H, G2⟩ := V
  exact Fz.of (fun t k => X.iaload hx (by rw [eT]; exact A.1) (State.isArrayOf_alike hZ.alike A.2.1) A.2.2 (inb_of S hj) (H.at (inb_of S hj) hv) (g := mkF m pc Ls (.int j :: .ref a :: st)) rfl rfl hd t k) K
theorem caload {k : ClassId} {z j : Int32} {a : Addr} {v : Value} {vs : List Value} {dv : Value} (G : Go b EL NS p l e R s m args below meth c Z own T h cells slots) (hx : p.tables.exec = Jvm.exec) (hd : decode c.code pc = .ok (.caload, 1)) (V : Arv Z h a k .char z vs dv) (hj : ¬ j < 0 ∧ j < z) (hv : vs.getD j.toNatClampNeg dv = v) (hp : pc + 1 = pc') (K : Fz b EL p e R s below Z Q (T.setTop (mkF m pc' Ls (v :: st)))) : Fz b EL p e R s below Z Q (T.setTop (mkF m pc Ls (.int j :: .ref a :: st))) := by
  subst hp
  obtain ⟨vm0, k0, locs, X, hb, hS, hk, hZ, hown, eT, N, O, HE, CR, HN⟩ := G
  obtain ⟨cl, A, q1, S, q3, H, G2⟩ := V
  exact Fz.of (fun t k => X.caload hx (by rw [eT]; exact A.1) (State.isArrayOf_alike hZ.alike A.2.1) A.2.2 (inb_of S hj) (H.at (inb_of S hj) hv) (g := mkF m pc Ls (.int j :: .ref a :: st)) rfl rfl hd t k) K
theorem baload {k : ClassId} {z j : Int32} {a : Addr} {v : Value} {vs : List Value} {dv : Value} (G : Go b EL NS p l e R s m args below meth c Z own T h cells slots) (hx : p.tables.exec = Jvm.exec) (hd : decode c.code pc = .ok (.baload, 1)) (V : Arv Z h a k .byte z vs dv) (hj : ¬ j < 0 ∧ j < z) (hv : vs.getD j.toNatClampNeg dv = v) (hp : pc + 1 = pc') (K : Fz b EL p e R s below Z Q (T.setTop (mkF m pc' Ls (v :: st)))) : Fz b EL p e R s below Z Q (T.setTop (mkF m pc Ls (.int j :: .ref a :: st))) := by
  subst hp
  obtain ⟨vm0, k0, locs, X, hb, hS, hk, hZ, hown, eT, N, O, HE, CR, HN⟩ := G
  obtain ⟨cl, A, q1, S, q3, H, G2⟩ := V
  exact Fz.of (fun t k => X.baloadBytes hx (by rw [eT]; exact A.1) (State.isArrayOf_alike hZ.alike A.2.1) A.2.2 (inb_of S hj) (H.at (inb_of S hj) hv) (g := mkF m pc Ls (.int j :: .ref a :: st)) rfl rfl hd t k) K
theorem aaload {k : ClassId} {z j : Int32} {a : Addr} {v : Value} {vs : List Value} {dv : Value} {C : String} (G : Go b EL NS p l e R s m args below meth c Z own T h cells slots) (hx : p.tables.exec = Jvm.exec) (hd : decode c.code pc = .ok (.aaload, 1)) (V : Arv Z h a k (.object C) z vs dv) (hj : ¬ j < 0 ∧ j < z) (hv : vs.getD j.toNatClampNeg dv = v) (hp : pc + 1 = pc') (K : Fz b EL p e R s below Z Q (T.setTop (mkF m pc' Ls (v :: st)))) : Fz b EL p e R s below Z Q (T.setTop (mkF m pc Ls (.int j :: .ref a :: st))) := by
  subst hp
  obtain ⟨vm0, k0, locs, X, hb, hS, hk, hZ, hown, eT, N, O, HE, CR, HN⟩ := G
  obtain ⟨cl, A, q1, S, q3, H, G2⟩ := V
  exact Fz.of (fun t k => X.aaload hx (by rw [eT]; exact A.1) (State.isArrayOf_alike hZ.alike A.2.1) rfl A.2.2 (inb_of S hj) (H.at (inb_of S hj) hv) (g := mkF m pc Ls (.int j :: .ref a :: st)) rfl rfl hd t k) K
theorem arraylength {k : ClassId} {ty : FieldType} {z : Int32} {a : Addr} {vs : List Value} {dv : Value} (G : Go b EL NS p l e R s m args below meth c Z own T h cells slots) (hx : p.tables.exec = Jvm.exec) (hd : decode c.code pc = .ok (.arraylength, 1)) (V : Arv Z h a k ty z vs dv) (hp : pc + 1 = pc') (K : Fz b EL p e R s below Z Q (T.setTop (mkF m pc' Ls (.int z :: st)))) : Fz b EL p e R s below Z Q (T.setTop (mkF m pc Ls (.ref a :: st))) := by
  subst hp
  obtain ⟨vm0, k0, locs, X, hb, hS, hk, hZ, hown, eT, N, O, HE, CR, HN⟩ := G
  obtain ⟨cl, A, q1, S, q3, H, G2⟩ := V
  exact Fz.of (fun t k => X.arraylength hx (by rw [eT]; exact A.1) (State.isArrayOf_alike hZ.alike A.2.1) (g := mkF m pc Ls (.ref a :: st)) rfl rfl hd t (by rw [len_of S q3]; exact k)) K
theorem checkcast {C : String} {index : Nat} {a : Addr} (G : Go b EL NS p l e R s m args below meth c Z own T h cells slots) (hx : p.tables.exec = Jvm.exec) (hd : decode c.code pc = .ok (.checkcast index, 3)) (w : (Cond.classLink own index C).before a0 Z = true) (I : Ins Z h a C true) (hp : pc + 3 = pc')
    (K : ∀ T', Go b EL NS p l e R s m args below meth c Z own T' h cells slots → Fz b EL p e R s below Z Q (T'.setTop (mkF m pc' Ls (.ref a :: st)))) : Fz b EL p e R s below Z Q (T.setTop (mkF m pc Ls (.ref a :: st))) := by
  subst hp
  obtain ⟨vm0, k0, locs, X, hb, hS, hk, hZ, hown, eT, N, O, HE, CR, HN⟩ := G
  obtain ⟨T', X', e', f⟩ := castY X hx hZ hown w eT I (g := mkF m pc Ls (.ref a :: st)) rfl rfl hd
  exact Fz.of f (K T' ⟨vm0, k0, locs, X', hb, hS, hk, hZ, hown, e', N, O, HE, CR, HN⟩)
theorem instY {C : String} {index : Nat} {a : Addr} (G : Go b EL NS p l e R s m args below meth c Z own T h cells slots) (hx : p.tables.exec = Jvm.exec) (hd : decode c.code pc = .ok (.instanceof index, 3)) (w : (Cond.classLink own index C).before a0 Z = true) (I : Ins Z h a C true) (hp : pc + 3 = pc')
    (K : ∀ T', Go b EL NS p l e R s m args below meth c Z own T' h cells slots → Fz b EL p e R s below Z Q (T'.setTop (mkF m pc' Ls (.int (1 : Int32) :: st)))) : Fz b EL p e R s below Z Q (T.setTop (mkF m pc Ls (.ref a :: st))) := by
  subst hp
  obtain ⟨vm0, k0, locs, X, hb, hS, hk, hZ, hown, eT, N, O, HE, CR, HN⟩ := G
  obtain ⟨T', X', e', f⟩ := Jvm.RoadKit.instY X hx hZ hown w eT I (g := mkF m pc Ls (.ref a :: st)) rfl rfl hd
  exact Fz.of f (K T' ⟨vm0, k0, locs, X', hb, hS, hk, hZ, hown, e', N, O, HE, CR, HN⟩)
theorem iinc {k : Nat} {ct : Int} {x v : Int32} {Ls' : Array Slot} (H : At T m c below) (hx : p.tables.exec = Jvm.exec) (hd : decode c.code pc = .ok (.iinc k ct, 3)) (hl : Ls[k]? = some (.val (.int x))) (hv : x + Int32.ofInt ct = v) (hl' : storeLocals Ls k (.int v) = some Ls') (hp : pc + 3 = pc') (K : Fz b EL p e R s below Z Q (T.setTop (mkF m pc' Ls' st))) : Fz b EL p e R s below Z Q (T.setTop (mkF m pc Ls st)) := by
  subst hp; subst hv
  exact Fz.of (fun t k => XS.iinc H hx rfl hd hl hl' k) K
theorem ldcI {index : Nat} {v : Int32} (G : Go b EL NS p l e R s m args below meth c Z own T h cells slots) (hx : p.tables.exec = Jvm.exec) (hd : decode c.code pc = .ok (.ldc index, 2)) (w : (Cond.constant own index v).before a0 Z = true) (hp : pc + 2 = pc') (K : Fz b EL p e R s below Z Q (T.setTop (mkF m pc' Ls (.int v :: st)))) : Fz b EL p e R s below Z Q (T.setTop (mkF m pc Ls st)) := by
  subst hp
  obtain ⟨vm0, k0, locs, X, hb, hS, hk, hZ, hown, eT, N, O, HE, CR, HN⟩ := G
  exact Fz.of (fun t k => X.ldcInt hx hown (mvT hZ w) (g := mkF m pc Ls st) rfl hd t k) K
theorem ldcJ {index : Nat} {v : Int64} (G : Go b EL NS p l e R s m args below meth c Z own T h cells slots) (hx : p.tables.exec = Jvm.exec) (hd : decode c.code pc = .ok (.ldc2_w index, 3)) (w : (Cond.constantLong own index v).before a0 Z = true) (hp : pc + 3 = pc') (K : Fz b EL p e R s below Z Q (T.setTop (mkF m pc' Ls (.long v :: st)))) : Fz b EL p e R s below Z Q (T.setTop (mkF m pc Ls st)) := by
  subst hp
  obtain ⟨vm0, k0, locs, X, hb, hS, hk, hZ, hown, eT, N, O, HE, CR, HN⟩ := G
  exact Fz.of (fun t k => X.ldc2Long hx hown (mvT hZ w) (g := mkF m pc Ls st) rfl hd t k) K
theorem ldcF {index : Nat} {v : UInt32} (G : Go b EL NS p l e R s m args below meth c Z own T h cells slots) (hx : p.tables.exec = Jvm.exec) (hd : decode c.code pc = .ok (.ldc index, 2)) (w : (Cond.constantFloat own index v).before a0 Z = true) (hp : pc + 2 = pc') (K : Fz b EL p e R s below Z Q (T.setTop (mkF m pc' Ls (.float v :: st)))) : Fz b EL p e R s below Z Q (T.setTop (mkF m pc Ls st)) := by
  subst hp
  obtain ⟨vm0, k0, locs, X, hb, hS, hk, hZ, hown, eT, N, O, HE, CR, HN⟩ := G
  exact Fz.of (fun t k => X.ldcFloatC hx hown (mvT hZ w) (g := mkF m pc Ls st) rfl hd t k) K
theorem ldcO {text : String} {index n : Nat} (G : Go b EL NS p l e R s m args below meth c Z own T h cells slots) (hx : p.tables.exec = Jvm.exec) (hd : decode c.code pc = .ok (.ldc index, 2)) (w : (Cond.stringLink own index text).before a0 Z = true) (wS : ∀ a ∈ Bundle.stringAtoms, a.before a0 Z = true) (hn : 4 * text.toList.length ≤ n) (hbig : n ≤ 536870912) (hc : cells + 2 = cells') (hc' : cells' ≤ R.cells) (hs : slots + (n + 4) = slots') (hs' : slots' ≤ R.slots) (hp : pc + 2 = pc')
    (K : ∀ T' h' a, Go b EL NS p l e R s m args below meth c Z own T' h' cells' slots' → Ext h h' → Fz b EL p e R s below Z Q (T'.setTop (mkF m pc' Ls (.ref a :: st)))) : Fz b EL p e R s below Z Q (T.setTop (mkF m pc Ls st)) := by
  subst hp
  obtain ⟨vm0, k0, locs, X, hb, hS, hk, hZ, hown, eT, N, O, HE, CR, HN⟩ := G
  subst hc; subst hs
  obtain ⟨a1, hE⟩ := HE
  have hE2 := EW.any hE a0
  obtain ⟨a, T', h', k1, X', e', E', hS', hk', hZ', hown', C', -, f⟩ := Jvm.RoadKit.ldcOH X hx hZ hown w wS eT hS hk hE2 CR.1 (g := mkF m pc Ls st) rfl hd hn hbig hc' hs'
  exact Fz.of f (K T' h' a ⟨T'.vm, k1, locs, X', hb, hS', hk', hZ', hown', e', N, (Old.ext (n0 := Z.heap.size) ⟨rfl, O⟩ E').2, ⟨a1, hE⟩, CR.trans C', hnC C' HN⟩ E')
theorem ldcH {text : String} {index n : Nat} {vs : List Value} {z : Int32} (G : Go b EL NS p l e R s m args below meth c Z own T h cells slots) (hx : p.tables.exec = Jvm.exec) (hd : decode c.code pc = .ok (.ldc index, 2)) (w : (Cond.stringLink own index text).before a0 Z = true) (wS : ∀ a ∈ Bundle.stringAtoms, a.before a0 Z = true) (hmem : (own, index) ∈ EL) (ht : (∀ c ∈ text.toList, c.toNat < 256) ∧ text.toList.map (fun c => Value.int (Jvm.Lit.byteI c.toNat.toUInt16)) = vs) (hz : ¬ z < 0) (hl : z.toNatClampNeg = vs.length) (hn : 4 * text.toList.length ≤ n) (hbig : n ≤ 536870912) (hc : cells + 2 = cells') (hc' : cells' ≤ R.cells) (hs : slots + (n + 4) = slots') (hs' : slots' ≤ R.slots) (hp : pc + 2 = pc')
    (K : ∀ T' h' a x k, Go b EL NS p l e R s m args below meth c Z own T' h' cells' slots' → Ext h h' → Exa Z h' a "java/lang/String" → Fld Z h' a "java/lang/String" "coder" "B" (.int (0 : Int32)) → Fld Z h' a "java/lang/String" "value" "[B" (.ref x) → Arv Z h' x k .byte z vs (.int (0 : Int32)) → (∀ y ∈ NS, y ≠ a ∧ y ≠ x) → Fz b EL p e R s below Z Q (T'.setTop (mkF m pc' Ls (.ref a :: st)))) : Fz b EL p e R s below Z Q (T.setTop (mkF m pc Ls st)) := by
  subst hp
  obtain ⟨vm0, k0, locs, X, hb, hS, hk, hZ, hown, eT, N, O, HE, CR, HN⟩ := G
  subst hc; subst hs
  obtain ⟨a1, hE⟩ := HE
  have hE2 := EW.any hE a0
  obtain ⟨a, T', h', k1, x, kx, X', e', E', hS', hk', hZ', hown', A1, A2, A3, A4, -, -, C', -, hne, f⟩ := Jvm.RoadKit.ldcCH X hx hZ hown w wS eT hS hk hE2 hmem CR.1 ht hz hl (g := mkF m pc Ls st) rfl hd hn hbig hc' hs'
  have HN' := hnC C' HN
  exact Fz.of f (K T' h' a x kx ⟨T'.vm, k1, locs, X', hb, hS', hk', hZ', hown', e', N, (Old.ext (n0 := Z.heap.size) ⟨rfl, O⟩ E').2, ⟨a1, hE⟩, CR.trans C', HN'⟩ E' A1 A2 A3 A4 (fun y hy => hne y (HN' y hy).2))
theorem initObj {index : Nat} {a : Addr} {W : Nat} (G : Go b EL NS p l e R s m args below meth c Z own T h cells slots) (hx : p.tables.exec = Jvm.exec) (hd : decode c.code pc = .ok (.invokespecial index, 3)) (w1 : (Cond.methodLink own index Lib.objectInit).before a0 Z = true) (w2 : (Cond.instanceMethod Lib.objectInit).before a0 Z = true) (w3 : (Cond.code Lib.objectInit ⟨#[0xb1]⟩ 1 none).before a0 Z = true) (hsize : Ls.size = c.maxLocals) (hf : 1 ≤ R.frames) (hW : 2 * 0 + (st.map fun v => v.category).sum ≤ W) (hl : W + 12 ≤ R.locals) (hp : pc + 3 = pc')
    (K : ∀ T', Go b EL NS p l e R s m args below meth c Z own T' h cells slots → Fz b EL p e R s below Z Q (T'.setTop (mkF m pc' Ls st))) : Fz b EL p e R s below Z Q (T.setTop (mkF m pc Ls (.ref a :: st))) := by
  subst hp
  obtain ⟨vm0, k0, locs, X, hb, hS, hk, hZ, hown, eT, N, O, HE, CR, HN⟩ := G
  obtain ⟨T', X', e', f⟩ := initO X hx hZ hown w1 w2 w3 eT (g := mkF m pc Ls (.ref a :: st)) rfl hsize rfl hd hf hW hl
  exact Fz.of f (K T' ⟨vm0, k0, locs, X', hb, hS, hk, hZ, hown, e', N, O, HE, CR, HN⟩)
theorem leaving (G : Go b EL NS p l e R s m args below meth c Z own T h cells slots) {v : Option Value} (hv : meth.sig.returnType = none → v = none) (hlocks : meth.locks = false) (hc : cells ≤ R.cells) (hs : slots ≤ R.slots) (hq : Q v h) {f : JFrame}
    (K : ∀ (locs : List Loc) (vm0 : Vm), Stand p l e R (s.setVm vm0) m args below meth c T locs cells slots → ∀ fs : List Frame, (∀ (f : JFrame) (acts : List Action), f.method = m → f.locked = none → f.entered = [] → (doReturn e (T.setTop f) acts v).1 = T.setFrames fs) → Steps p.tables e below (T.setTop f) (T.setFrames fs)) : Fz b EL p e R s below Z Q (T.setTop f) := by
  obtain ⟨vm0, k0, locs, X, hb, hS, hk, hZ, hown, eT, N, O, HE, CR, HN⟩ := G
  subst eT
  obtain ⟨a1, hE⟩ := HE
  obtain ⟨fs, hr, hrun, hended, hE2⟩ := X.leaveW hS hk (v := v) hv hlocks
  have CE : CHr Z EL s.vm s.heap T.vm T.heap := CR.trans (CHv.at X hZ hE CR.1)
  exact ⟨_, _, K locs _ X fs hr, hrun, hended, v, locs, rfl, ⟨N, O, hq⟩, CE, ⟨hE2.1, hE2.2.1, hE2.2.2.1, hE2.2.2.2.mono hc hs⟩⟩
theorem ret0 (G : Go b EL NS p l e R s m args below meth c Z own T h cells slots) (hx : p.tables.exec = Jvm.exec) (hd : decode c.code pc = .ok (.return_, 1)) (hret : meth.sig.returnType = none) (hlocks : meth.locks = false) (hc : cells ≤ R.cells) (hs : slots ≤ R.slots) (hq : Q none h) : Fz b EL p e R s below Z Q (T.setTop (mkF m pc Ls [])) :=
  leaving G (fun _ => rfl) hlocks hc hs hq (fun locs vm0 X fs hr => X.returnOut hx hret hd hr)
theorem ret1 {t : FieldType} {i : Instr} {w : Value} (G : Go b EL NS p l e R s m args below meth c Z own T h cells slots) (hx : p.tables.exec = Jvm.exec) (hd : decode c.code pc = .ok (i, 1)) (hret : meth.sig.returnType = some t) (hlocks : meth.locks = false) (hn : narrow t w = w)
    (hi : (i = .ireturn ∧ (t = .int ∨ t = .boolean ∨ t = .byte ∨ t = .char ∨ t = .short) ∧ ∃ z, w = .int z) ∨ (i = .lreturn ∧ t = .long ∧ ∃ z, w = .long z) ∨ (i = .dreturn ∧ t = .double ∧ ∃ z, w = .double z) ∨ (i = .freturn ∧ t = .float ∧ ∃ z, w = .float z) ∨ (i = .areturn ∧ t.isReference = true ∧ w.isRef = true))
    (hc : cells ≤ R.cells) (hs : slots ≤ R.slots) (hq : Q (some w) h) : Fz b EL p e R s below Z Q (T.setTop (mkF m pc Ls (w :: st))) :=
  leaving G (fun q => by rw [hret] at q; cases q) hlocks hc hs hq (fun locs vm0 X fs hr => retOut X hx hret hn hi hd hr)
theorem retI {t : FieldType} {z : Int32} (G : Go b EL NS p l e R s m args below meth c Z own T h cells slots) (hx : p.tables.exec = Jvm.exec) (hd : decode c.code pc = .ok (.ireturn, 1)) (hret : meth.sig.returnType = some t) (hlocks : meth.locks = false) (ht : t = .int ∨ t = .boolean ∨ t = .byte ∨ t = .char ∨ t = .short) (hn : narrow t (.int z) = .int z) (hc : cells ≤ R.cells) (hs : slots ≤ R.slots) (hq : Q (some (.int z)) h) : Fz b EL p e R s below Z Q (T.setTop (mkF m pc Ls (.int z :: st))) :=
  ret1 G hx hd hret hlocks hn (Or.inl ⟨rfl, ht, z, rfl⟩) hc hs hq
theorem retA {t : FieldType} {w : Value} (G : Go b EL NS p l e R s m args below meth c Z own T h cells slots) (hx : p.tables.exec = Jvm.exec) (hd : decode c.code pc = .ok (.areturn, 1)) (hret : meth.sig.returnType = some t) (hlocks : meth.locks = false) (ht : t.isReference = true) (hw : w.isRef = true) (hn : narrow t w = w) (hc : cells ≤ R.cells) (hs : slots ≤ R.slots) (hq : Q (some w) h) : Fz b EL p e R s below Z Q (T.setTop (mkF m pc Ls (w :: st))) :=
  ret1 G hx hd hret hlocks hn (Or.inr (Or.inr (Or.inr (Or.inr ⟨rfl, ht, hw⟩)))) hc hs hq
theorem retL {z : Int64} (G : Go b EL NS p l e R s m args below meth c Z own T h cells slots) (hx : p.tables.exec = Jvm.exec) (hd : decode c.code pc = .ok (.lreturn, 1)) (hret : meth.sig.returnType = some .long) (hlocks : meth.locks = false) (hc : cells ≤ R.cells) (hs : slots ≤ R.slots) (hq : Q (some (.long z)) h) : Fz b EL p e R s below Z Q (T.setTop (mkF m pc Ls (.long z :: st))) :=
  ret1 G hx hd hret hlocks rfl (Or.inr (Or.inl ⟨rfl, rfl, z, rfl⟩)) hc hs hq
theorem callS {index : Nat} {y : MethodName} {bytes : ByteArray} {maxL : Nat} {ret : Option FieldType} {rm : Room} {W : Nat} {argsL : List Value} {stk : List Value}  {Q' : Option Value → Heap → Prop} (G : Go b EL NS p l e R s m args below meth c Z own T h cells slots) (hx : p.tables.exec = Jvm.exec) (hd : decode c.code pc = .ok (.invokestatic index, 3)) (w1 : (Cond.methodLink own index y).before a0 Z = true) (w2 : (Cond.static y).before a0 Z = true) (w3 : (Cond.initialized y.cls).before a0 Z = true) (w4 : (Cond.code y bytes maxL ret).before a0 Z = true) (hy : y.cls ≠ "java/lang/invoke/MethodHandle" ∧ y.cls ≠ "java/lang/invoke/VarHandle") (hM : Met b EL l Z y bytes maxL ret [] rm (argsL).toArray h Q') (hf : rm.frames + 1 ≤ R.frames) (hl : W + (maxL + 11) + rm.locals ≤ R.locals) (hsize : Ls.size = c.maxLocals) (hlen : ∀ sig, parseMethodDescriptor y.desc = some sig → argsL.length = sig.parameters.length) (hst : stk = argsL.reverse ++ st) (hW : 2 * 0 + (st.map fun v => v.category).sum ≤ W) (hc : cells + rm.cells = cells') (hc' : cells' ≤ R.cells) (hs : slots + rm.slots = slots') (hs' : slots' ≤ R.slots) (hp : pc + 3 = pc')
    (K : ∀ (T' : State) (h' : Heap) (v : Option Value), Go b EL NS p l e R s m args below meth c Z own T' h' cells' slots' → Q' v h' → Fz b EL p e R s below Z Q (T'.setTop (mkF m pc' Ls (v.toList ++ st)))) : Fz b EL p e R s below Z Q (T.setTop (mkF m pc Ls stk)) := by
  subst hp; subst hc; subst hs
  obtain ⟨vm0, k0, locs, X, hb, hS, hk, hZ, hown, eT, N, O, HE, CR, HN⟩ := G
  subst hb
  obtain ⟨a1, hE⟩ := HE
  have hZ2 : Z.Warmed39 (s.setVm vm0).vm := hZ
  have hK := backOfSH (s := s) (W := W) (R := R) (p := p) (e := e) (below := below) (args := args) (len := 3) (Q := fun v h L => Fr Z.heap.size L ∧ Ext Z.heap h ∧ Q' v h) hM hZ w4 w3 hf hl (EW.any hE a0) CR.1
  obtain ⟨v, vm₁, ⟨T1, L1, k1, n1⟩, -, X1, hS1, hg1, ⟨Lc, hQ, l1, y1, z1, C1⟩, f⟩ := callSS X hx (y := y) hown (mvT hZ2 w1) (mvT hZ2 w2) (mvT hZ2 w3) (mvT hZ2 w4) hy hK (g := mkF m pc Ls stk) rfl hsize (argsL := argsL) (rest := st) hlen hst hW hd (fun _ _ => ⟨rfl, eT, hc', hs'⟩)
  dsimp only [Pt.U, Pt.locs, Pt.cells, Pt.slots] at X1 hS1 hg1 l1 y1 z1 f hQ C1
  subst l1 y1 z1
  have X3 : Stand p l e R (s.setVm T1.vm) m args below meth c T1 (locs ++ Lc) (cells + rm.cells) (slots + rm.slots) := X1
  exact Fz.of (fun t k => f.trans k) (K T1 T1.heap v ⟨T1.vm, T1.heap.size, _, X3, rfl, hS.trans hS1 (Nat.le_trans hk (by rw [← eT]; exact hg1)), Nat.le_refl _, State.Warmed39.trans (t := s.setVm vm0) hZ hS1.1, (hS1.1.alike.findClass _ _).trans hown, rfl, Fr.app N hQ.1, hQ.2.1, ⟨a1, hE⟩, CR.trans C1, hnC C1 HN⟩ hQ.2.2)
theorem callS1 {index : Nat} {y : MethodName} {bytes : ByteArray} {maxL : Nat} {ret : Option FieldType} {rm : Room} {W : Nat} {argsL : List Value} {stk : List Value}  {q : Value → Heap → Prop} (G : Go b EL NS p l e R s m args below meth c Z own T h cells slots) (hx : p.tables.exec = Jvm.exec) (hd : decode c.code pc = .ok (.invokestatic index, 3)) (w1 : (Cond.methodLink own index y).before a0 Z = true) (w2 : (Cond.static y).before a0 Z = true) (w3 : (Cond.initialized y.cls).before a0 Z = true) (w4 : (Cond.code y bytes maxL ret).before a0 Z = true) (hy : y.cls ≠ "java/lang/invoke/MethodHandle" ∧ y.cls ≠ "java/lang/invoke/VarHandle") (hM : Met1 b EL l Z y bytes maxL ret [] rm (argsL).toArray h q) (hf : rm.frames + 1 ≤ R.frames) (hl : W + (maxL + 11) + rm.locals ≤ R.locals) (hsize : Ls.size = c.maxLocals) (hlen : ∀ sig, parseMethodDescriptor y.desc = some sig → argsL.length = sig.parameters.length) (hst : stk = argsL.reverse ++ st) (hW : 2 * 0 + (st.map fun v => v.category).sum ≤ W) (hc : cells + rm.cells = cells') (hc' : cells' ≤ R.cells) (hs : slots + rm.slots = slots') (hs' : slots' ≤ R.slots) (hp : pc + 3 = pc')
    (K : ∀ (T' : State) (h' : Heap) (w : Value), Go b EL NS p l e R s m args below meth c Z own T' h' cells' slots' → q w h' → Fz b EL p e R s below Z Q (T'.setTop (mkF m pc' Ls (w :: st)))) : Fz b EL p e R s below Z Q (T.setTop (mkF m pc Ls stk)) := 
  callS G hx hd w1 w2 w3 w4 hy hM hf hl hsize hlen hst hW hc hc' hs hs' hp (fun T' h' v G' hq => by
    obtain ⟨w, rfl, hq⟩ := hq
    exact K T' h' w G' hq)
theorem callSP {index : Nat} {y : MethodName} {bytes : ByteArray} {maxL : Nat} {ret : Option FieldType} {rm : Room} {W : Nat} {argsL : List Value} {stk : List Value}  {q : Value → Prop} (G : Go b EL NS p l e R s m args below meth c Z own T h cells slots) (hx : p.tables.exec = Jvm.exec) (hd : decode c.code pc = .ok (.invokestatic index, 3)) (w1 : (Cond.methodLink own index y).before a0 Z = true) (w2 : (Cond.static y).before a0 Z = true) (w3 : (Cond.initialized y.cls).before a0 Z = true) (w4 : (Cond.code y bytes maxL ret).before a0 Z = true) (hy : y.cls ≠ "java/lang/invoke/MethodHandle" ∧ y.cls ≠ "java/lang/invoke/VarHandle") (hM : Met1 b EL l Z y bytes maxL ret [] rm (argsL).toArray h (fun w h' => h' = h ∧ q w)) (hf : rm.frames + 1 ≤ R.frames) (hl : W + (maxL + 11) + rm.locals ≤ R.locals) (hsize : Ls.size = c.maxLocals) (hlen : ∀ sig, parseMethodDescriptor y.desc = some sig → argsL.length = sig.parameters.length) (hst : stk = argsL.reverse ++ st) (hW : 2 * 0 + (st.map fun v => v.category).sum ≤ W) (hc : cells + rm.cells = cells') (hc' : cells' ≤ R.cells) (hs : slots + rm.slots = slots') (hs' : slots' ≤ R.slots) (hp : pc + 3 = pc')
    (K : ∀ (T' : State) (w : Value), Go b EL NS p l e R s m args below meth c Z own T' h cells' slots' → q w → Fz b EL p e R s below Z Q (T'.setTop (mkF m pc' Ls (w :: st)))) : Fz b EL p e R s below Z Q (T.setTop (mkF m pc Ls stk)) := 
  callS G hx hd w1 w2 w3 w4 hy hM hf hl hsize hlen hst hW hc hc' hs hs' hp (fun T' h' v G' hq => by
    obtain ⟨w, rfl, e1, hq⟩ := hq
    subst e1
    exact K T' w G' hq)
theorem callS0 {index : Nat} {y : MethodName} {bytes : ByteArray} {maxL : Nat} {ret : Option FieldType} {rm : Room} {W : Nat} {argsL : List Value} {stk : List Value}  {q : Heap → Prop} (G : Go b EL NS p l e R s m args below meth c Z own T h cells slots) (hx : p.tables.exec = Jvm.exec) (hd : decode c.code pc = .ok (.invokestatic index, 3)) (w1 : (Cond.methodLink own index y).before a0 Z = true) (w2 : (Cond.static y).before a0 Z = true) (w3 : (Cond.initialized y.cls).before a0 Z = true) (w4 : (Cond.code y bytes maxL ret).before a0 Z = true) (hy : y.cls ≠ "java/lang/invoke/MethodHandle" ∧ y.cls ≠ "java/lang/invoke/VarHandle") (hM : Met0 b EL l Z y bytes maxL ret [] rm (argsL).toArray h q) (hf : rm.frames + 1 ≤ R.frames) (hl : W + (maxL + 11) + rm.locals ≤ R.locals) (hsize : Ls.size = c.maxLocals) (hlen : ∀ sig, parseMethodDescriptor y.desc = some sig → argsL.length = sig.parameters.length) (hst : stk = argsL.reverse ++ st) (hW : 2 * 0 + (st.map fun v => v.category).sum ≤ W) (hc : cells + rm.cells = cells') (hc' : cells' ≤ R.cells) (hs : slots + rm.slots = slots') (hs' : slots' ≤ R.slots) (hp : pc + 3 = pc')
    (K : ∀ (T' : State) (h' : Heap) , Go b EL NS p l e R s m args below meth c Z own T' h' cells' slots' → q h' → Fz b EL p e R s below Z Q (T'.setTop (mkF m pc' Ls st))) : Fz b EL p e R s below Z Q (T.setTop (mkF m pc Ls stk)) := 
  callS G hx hd w1 w2 w3 w4 hy hM hf hl hsize hlen hst hW hc hc' hs hs' hp (fun T' h' v G' hq => by
    obtain ⟨rfl, hq⟩ := hq
    exact K T' h' G' hq)
theorem callI {index : Nat} {y : MethodName} {bytes : ByteArray} {maxL : Nat} {rm : Room} {W : Nat} {argsL : List Value} {stk : List Value} {a : Addr} {Q' : Option Value → Heap → Prop} (G : Go b EL NS p l e R s m args below meth c Z own T h cells slots) (hx : p.tables.exec = Jvm.exec) (hd : decode c.code pc = .ok (.invokespecial index, 3)) (hn : y.name = "<init>") (w1 : (Cond.methodLink own index y).before a0 Z = true) (w2 : (Cond.instanceMethod y).before a0 Z = true) (w3 : (Cond.initialized y.cls).before a0 Z = true) (w4 : (Cond.code y bytes maxL none).before a0 Z = true) (hy : y.cls ≠ "java/lang/invoke/MethodHandle" ∧ y.cls ≠ "java/lang/invoke/VarHandle") (hM : Met b EL l Z y bytes maxL none [] rm (.ref a :: argsL).toArray h Q') (hf : rm.frames + 1 ≤ R.frames) (hl : W + (maxL + 11) + rm.locals ≤ R.locals) (hsize : Ls.size = c.maxLocals) (hlen : ∀ sig, parseMethodDescriptor y.desc = some sig → argsL.length = sig.parameters.length) (hst : stk = argsL.reverse ++ .ref a :: st) (hW : 2 * 0 + (st.map fun v => v.category).sum ≤ W) (hc : cells + rm.cells = cells') (hc' : cells' ≤ R.cells) (hs : slots + rm.slots = slots') (hs' : slots' ≤ R.slots) (hp : pc + 3 = pc')
    (K : ∀ (T' : State) (h' : Heap) (v : Option Value), Go b EL NS p l e R s m args below meth c Z own T' h' cells' slots' → Q' v h' → Fz b EL p e R s below Z Q (T'.setTop (mkF m pc' Ls (v.toList ++ st)))) : Fz b EL p e R s below Z Q (T.setTop (mkF m pc Ls stk)) := by
  subst hp; subst hc; subst hs
  obtain ⟨vm0, k0, locs, X, hb, hS, hk, hZ, hown, eT, N, O, HE, CR, HN⟩ := G
  subst hb
  obtain ⟨a1, hE⟩ := HE
  have hZ2 : Z.Warmed39 (s.setVm vm0).vm := hZ
  have hK := backOfSH (s := s) (W := W) (R := R) (p := p) (e := e) (below := below) (args := args) (len := 3) (Q := fun v h L => Fr Z.heap.size L ∧ Ext Z.heap h ∧ Q' v h) hM hZ w4 w3 hf hl (EW.any hE a0) CR.1
  obtain ⟨v, vm₁, ⟨T1, L1, k1, n1⟩, -, X1, hS1, hg1, ⟨Lc, hQ, l1, y1, z1, C1⟩, f⟩ := X.specialBackS hx (y := y) hn hown (mvT hZ2 w1) (mvT hZ2 w2) (mvT hZ2 w4) hy hK (g := mkF m pc Ls stk) rfl hsize (Steps.refl _) (a := a) (argsL := argsL) (rest := st) hlen hst hW hd (fun _ _ => ⟨rfl, eT, hc', hs'⟩)
  dsimp only [Pt.U, Pt.locs, Pt.cells, Pt.slots] at X1 hS1 hg1 l1 y1 z1 f hQ C1
  subst l1 y1 z1
  have X3 : Stand p l e R (s.setVm T1.vm) m args below meth c T1 (locs ++ Lc) (cells + rm.cells) (slots + rm.slots) := X1
  exact Fz.of (fun t k => f.trans k) (K T1 T1.heap v ⟨T1.vm, T1.heap.size, _, X3, rfl, hS.trans hS1 (Nat.le_trans hk (by rw [← eT]; exact hg1)), Nat.le_refl _, State.Warmed39.trans (t := s.setVm vm0) hZ hS1.1, (hS1.1.alike.findClass _ _).trans hown, rfl, Fr.app N hQ.1, hQ.2.1, ⟨a1, hE⟩, CR.trans C1, hnC C1 HN⟩ hQ.2.2)
theorem callI1 {index : Nat} {y : MethodName} {bytes : ByteArray} {maxL : Nat} {rm : Room} {W : Nat} {argsL : List Value} {stk : List Value} {a : Addr} {q : Value → Heap → Prop} (G : Go b EL NS p l e R s m args below meth c Z own T h cells slots) (hx : p.tables.exec = Jvm.exec) (hd : decode c.code pc = .ok (.invokespecial index, 3)) (hn : y.name = "<init>") (w1 : (Cond.methodLink own index y).before a0 Z = true) (w2 : (Cond.instanceMethod y).before a0 Z = true) (w3 : (Cond.initialized y.cls).before a0 Z = true) (w4 : (Cond.code y bytes maxL none).before a0 Z = true) (hy : y.cls ≠ "java/lang/invoke/MethodHandle" ∧ y.cls ≠ "java/lang/invoke/VarHandle") (hM : Met1 b EL l Z y bytes maxL none [] rm (.ref a :: argsL).toArray h q) (hf : rm.frames + 1 ≤ R.frames) (hl : W + (maxL + 11) + rm.locals ≤ R.locals) (hsize : Ls.size = c.maxLocals) (hlen : ∀ sig, parseMethodDescriptor y.desc = some sig → argsL.length = sig.parameters.length) (hst : stk = argsL.reverse ++ .ref a :: st) (hW : 2 * 0 + (st.map fun v => v.category).sum ≤ W) (hc : cells + rm.cells = cells') (hc' : cells' ≤ R.cells) (hs : slots + rm.slots = slots') (hs' : slots' ≤ R.slots) (hp : pc + 3 = pc')
    (K : ∀ (T' : State) (h' : Heap) (w : Value), Go b EL NS p l e R s m args below meth c Z own T' h' cells' slots' → q w h' → Fz b EL p e R s below Z Q (T'.setTop (mkF m pc' Ls (w :: st)))) : Fz b EL p e R s below Z Q (T.setTop (mkF m pc Ls stk)) := 
  callI G hx hd hn w1 w2 w3 w4 hy hM hf hl hsize hlen hst hW hc hc' hs hs' hp (fun T' h' v G' hq => by
    obtain ⟨w, rfl, hq⟩ := hq
    exact K T' h' w G' hq)
theorem callIP {index : Nat} {y : MethodName} {bytes : ByteArray} {maxL : Nat} {rm : Room} {W : Nat} {argsL : List Value} {stk : List Value} {a : Addr} {q : Value → Prop} (G : Go b EL NS p l e R s m args below meth c Z own T h cells slots) (hx : p.tables.exec = Jvm.exec) (hd : decode c.code pc = .ok (.invokespecial index, 3)) (hn : y.name = "<init>") (w1 : (Cond.methodLink own index y).before a0 Z = true) (w2 : (Cond.instanceMethod y).before a0 Z = true) (w3 : (Cond.initialized y.cls).before a0 Z = true) (w4 : (Cond.code y bytes maxL none).before a0 Z = true) (hy : y.cls ≠ "java/lang/invoke/MethodHandle" ∧ y.cls ≠ "java/lang/invoke/VarHandle") (hM : Met1 b EL l Z y bytes maxL none [] rm (.ref a :: argsL).toArray h (fun w h' => h' = h ∧ q w)) (hf : rm.frames + 1 ≤ R.frames) (hl : W + (maxL + 11) + rm.locals ≤ R.locals) (hsize : Ls.size = c.maxLocals) (hlen : ∀ sig, parseMethodDescriptor y.desc = some sig → argsL.length = sig.parameters.length) (hst : stk = argsL.reverse ++ .ref a :: st) (hW : 2 * 0 + (st.map fun v => v.category).sum ≤ W) (hc : cells + rm.cells = cells') (hc' : cells' ≤ R.cells) (hs : slots + rm.slots = slots') (hs' : slots' ≤ R.slots) (hp : pc + 3 = pc')
    (K : ∀ (T' : State) (w : Value), Go b EL NS p l e R s m args below meth c Z own T' h cells' slots' → q w → Fz b EL p e R s below Z Q (T'.setTop (mkF m pc' Ls (w :: st)))) : Fz b EL p e R s below Z Q (T.setTop (mkF m pc Ls stk)) := 
  callI G hx hd hn w1 w2 w3 w4 hy hM hf hl hsize hlen hst hW hc hc' hs hs' hp (fun T' h' v G' hq => by
    obtain ⟨w, rfl, e1, hq⟩ := hq
    subst e1
    exact K T' w G' hq)
theorem callI0 {index : Nat} {y : MethodName} {bytes : ByteArray} {maxL : Nat} {rm : Room} {W : Nat} {argsL : List Value} {stk : List Value} {a : Addr} {q : Heap → Prop} (G : Go b EL NS p l e R s m args below meth c Z own T h cells slots) (hx : p.tables.exec = Jvm.exec) (hd : decode c.code pc = .ok (.invokespecial index, 3)) (hn : y.name = "<init>") (w1 : (Cond.methodLink own index y).before a0 Z = true) (w2 : (Cond.instanceMethod y).before a0 Z = true) (w3 : (Cond.initialized y.cls).before a0 Z = true) (w4 : (Cond.code y bytes maxL none).before a0 Z = true) (hy : y.cls ≠ "java/lang/invoke/MethodHandle" ∧ y.cls ≠ "java/lang/invoke/VarHandle") (hM : Met0 b EL l Z y bytes maxL none [] rm (.ref a :: argsL).toArray h q) (hf : rm.frames + 1 ≤ R.frames) (hl : W + (maxL + 11) + rm.locals ≤ R.locals) (hsize : Ls.size = c.maxLocals) (hlen : ∀ sig, parseMethodDescriptor y.desc = some sig → argsL.length = sig.parameters.length) (hst : stk = argsL.reverse ++ .ref a :: st) (hW : 2 * 0 + (st.map fun v => v.category).sum ≤ W) (hc : cells + rm.cells = cells') (hc' : cells' ≤ R.cells) (hs : slots + rm.slots = slots') (hs' : slots' ≤ R.slots) (hp : pc + 3 = pc')
    (K : ∀ (T' : State) (h' : Heap) , Go b EL NS p l e R s m args below meth c Z own T' h' cells' slots' → q h' → Fz b EL p e R s below Z Q (T'.setTop (mkF m pc' Ls st))) : Fz b EL p e R s below Z Q (T.setTop (mkF m pc Ls stk)) := 
  callI G hx hd hn w1 w2 w3 w4 hy hM hf hl hsize hlen hst hW hc hc' hs hs' hp (fun T' h' v G' hq => by
    obtain ⟨rfl, hq⟩ := hq
    exact K T' h' G' hq)
theorem callV {index : Nat} {y : MethodName} {bytes : ByteArray} {maxL : Nat} {ret : Option FieldType} {rm : Room} {W : Nat} {argsL : List Value} {stk : List Value} {a : Addr} {C : String} {z : MethodName} {Q' : Option Value → Heap → Prop} (G : Go b EL NS p l e R s m args below meth c Z own T h cells slots) (hx : p.tables.exec = Jvm.exec) (hd : decode c.code pc = .ok (.invokevirtual index, 3)) (nf : ∀ s' : State, Z.Warmed39 s'.vm → NotFace s' z) (w1 : (Cond.methodLink own index z).before a0 Z = true) (w2 : (Cond.declares z).before a0 Z = true) (w5 : (Cond.selects C z y).before a0 Z = true) (w6 : (Cond.instanceMethod y).before a0 Z = true) (w3 : (Cond.initialized y.cls).before a0 Z = true) (w4 : (Cond.code y bytes maxL ret).before a0 Z = true) (hy : z.cls ≠ "java/lang/invoke/MethodHandle" ∧ z.cls ≠ "java/lang/invoke/VarHandle") (E : Exa Z h a C) (hM : Met b EL l Z y bytes maxL ret [] rm (.ref a :: argsL).toArray h Q') (hf : rm.frames + 1 ≤ R.frames) (hl : W + (maxL + 11) + rm.locals ≤ R.locals) (hsize : Ls.size = c.maxLocals) (hlen : ∀ sig, parseMethodDescriptor z.desc = some sig → argsL.length = sig.parameters.length) (hst : stk = argsL.reverse ++ .ref a :: st) (hW : 2 * 0 + (st.map fun v => v.category).sum ≤ W) (hc : cells + rm.cells = cells') (hc' : cells' ≤ R.cells) (hs : slots + rm.slots = slots') (hs' : slots' ≤ R.slots) (hp : pc + 3 = pc')
    (K : ∀ (T' : State) (h' : Heap) (v : Option Value), Go b EL NS p l e R s m args below meth c Z own T' h' cells' slots' → Q' v h' → Fz b EL p e R s below Z Q (T'.setTop (mkF m pc' Ls (v.toList ++ st)))) : Fz b EL p e R s below Z Q (T.setTop (mkF m pc Ls stk)) := by
  subst hp; subst hc; subst hs
  obtain ⟨vm0, k0, locs, X, hb, hS, hk, hZ, hown, eT, N, O, HE, CR, HN⟩ := G
  obtain ⟨cq, kq, qa, qb, qc⟩ := isOf (s := s.setVm vm0) (T := T) hZ eT E
  subst hb
  obtain ⟨a1, hE⟩ := HE
  have hZ2 : Z.Warmed39 (s.setVm vm0).vm := hZ
  have hK := backOfSH (s := s) (W := W) (R := R) (p := p) (e := e) (below := below) (args := args) (len := 3) (Q := fun v h L => Fr Z.heap.size L ∧ Ext Z.heap h ∧ Q' v h) hM hZ w4 w3 hf hl (EW.any hE a0) CR.1
  obtain ⟨v, vm₁, ⟨T1, L1, k1, n1⟩, -, X1, hS1, hg1, ⟨Lc, hQ, l1, y1, z1, C1⟩, f⟩ := X.virtualBackS hx (y := z) (z := y) hown (mvT hZ2 w1) (mvT hZ2 w2) (nf _ hZ2) (mvT hZ2 w5) (mvT hZ2 w6) hy hK qa qc (g := mkF m pc Ls stk) rfl hsize (Steps.refl _) (argsL := argsL) (rest := st) hlen hst hW hd (fun _ _ => ⟨rfl, eT, hc', hs'⟩)
  dsimp only [Pt.U, Pt.locs, Pt.cells, Pt.slots] at X1 hS1 hg1 l1 y1 z1 f hQ C1
  subst l1 y1 z1
  have X3 : Stand p l e R (s.setVm T1.vm) m args below meth c T1 (locs ++ Lc) (cells + rm.cells) (slots + rm.slots) := X1
  exact Fz.of (fun t k => f.trans k) (K T1 T1.heap v ⟨T1.vm, T1.heap.size, _, X3, rfl, hS.trans hS1 (Nat.le_trans hk (by rw [← eT]; exact hg1)), Nat.le_refl _, State.Warmed39.trans (t := s.setVm vm0) hZ hS1.1, (hS1.1.alike.findClass _ _).trans hown, rfl, Fr.app N hQ.1, hQ.2.1, ⟨a1, hE⟩, CR.trans C1, hnC C1 HN⟩ hQ.2.2)
theorem callV1 {index : Nat} {y : MethodName} {bytes : ByteArray} {maxL : Nat} {ret : Option FieldType} {rm : Room} {W : Nat} {argsL : List Value} {stk : List Value} {a : Addr} {C : String} {z : MethodName} {q : Value → Heap → Prop} (G : Go b EL NS p l e R s m args below meth c Z own T h cells slots) (hx : p.tables.exec = Jvm.exec) (hd : decode c.code pc = .ok (.invokevirtual index, 3)) (nf : ∀ s' : State, Z.Warmed39 s'.vm → NotFace s' z) (w1 : (Cond.methodLink own index z).before a0 Z = true) (w2 : (Cond.declares z).before a0 Z = true) (w5 : (Cond.selects C z y).before a0 Z = true) (w6 : (Cond.instanceMethod y).before a0 Z = true) (w3 : (Cond.initialized y.cls).before a0 Z = true) (w4 : (Cond.code y bytes maxL ret).before a0 Z = true) (hy : z.cls ≠ "java/lang/invoke/MethodHandle" ∧ z.cls ≠ "java/lang/invoke/VarHandle") (E : Exa Z h a C) (hM : Met1 b EL l Z y bytes maxL ret [] rm (.ref a :: argsL).toArray h q) (hf : rm.frames + 1 ≤ R.frames) (hl : W + (maxL + 11) + rm.locals ≤ R.locals) (hsize : Ls.size = c.maxLocals) (hlen : ∀ sig, parseMethodDescriptor z.desc = some sig → argsL.length = sig.parameters.length) (hst : stk = argsL.reverse ++ .ref a :: st) (hW : 2 * 0 + (st.map fun v => v.category).sum ≤ W) (hc : cells + rm.cells = cells') (hc' : cells' ≤ R.cells) (hs : slots + rm.slots = slots') (hs' : slots' ≤ R.slots) (hp : pc + 3 = pc')
    (K : ∀ (T' : State) (h' : Heap) (w : Value), Go b EL NS p l e R s m args below meth c Z own T' h' cells' slots' → q w h' → Fz b EL p e R s below Z Q (T'.setTop (mkF m pc' Ls (w :: st)))) : Fz b EL p e R s below Z Q (T.setTop (mkF m pc Ls stk)) := 
  callV G hx hd nf w1 w2 w5 w6 w3 w4 hy E hM hf hl hsize hlen hst hW hc hc' hs hs' hp (fun T' h' v G' hq => by
    obtain ⟨w, rfl, hq⟩ := hq
    exact K T' h' w G' hq)
theorem callVP {index : Nat} {y : MethodName} {bytes : ByteArray} {maxL : Nat} {ret : Option FieldType} {rm : Room} {W : Nat} {argsL : List Value} {stk : List Value} {a : Addr} {C : String} {z : MethodName} {q : Value → Prop} (G : Go b EL NS p l e R s m args below meth c Z own T h cells slots) (hx : p.tables.exec = Jvm.exec) (hd : decode c.code pc = .ok (.invokevirtual index, 3)) (nf : ∀ s' : State, Z.Warmed39 s'.vm → NotFace s' z) (w1 : (Cond.methodLink own index z).before a0 Z = true) (w2 : (Cond.declares z).before a0 Z = true) (w5 : (Cond.selects C z y).before a0 Z = true) (w6 : (Cond.instanceMethod y).before a0 Z = true) (w3 : (Cond.initialized y.cls).before a0 Z = true) (w4 : (Cond.code y bytes maxL ret).before a0 Z = true) (hy : z.cls ≠ "java/lang/invoke/MethodHandle" ∧ z.cls ≠ "java/lang/invoke/VarHandle") (E : Exa Z h a C) (hM : Met1 b EL l Z y bytes maxL ret [] rm (.ref a :: argsL).toArray h (fun w h' => h' = h ∧ q w)) (hf : rm.frames + 1 ≤ R.frames) (hl : W + (maxL + 11) + rm.locals ≤ R.locals) (hsize : Ls.size = c.maxLocals) (hlen : ∀ sig, parseMethodDescriptor z.desc = some sig → argsL.length = sig.parameters.length) (hst : stk = argsL.reverse ++ .ref a :: st) (hW : 2 * 0 + (st.map fun v => v.category).sum ≤ W) (hc : cells + rm.cells = cells') (hc' : cells' ≤ R.cells) (hs : slots + rm.slots = slots') (hs' : slots' ≤ R.slots) (hp : pc + 3 = pc')
    (K : ∀ (T' : State) (w : Value), Go b EL NS p l e R s m args below meth c Z own T' h cells' slots' → q w → Fz b EL p e R s below Z Q (T'.setTop (mkF m pc' Ls (w :: st)))) : Fz b EL p e R s below Z Q (T.setTop (mkF m pc Ls stk)) := 
  callV G hx hd nf w1 w2 w5 w6 w3 w4 hy E hM hf hl hsize hlen hst hW hc hc' hs hs' hp (fun T' h' v G' hq => by
    obtain ⟨w, rfl, e1, hq⟩ := hq
    subst e1
    exact K T' w G' hq)
theorem callV0 {index : Nat} {y : MethodName} {bytes : ByteArray} {maxL : Nat} {ret : Option FieldType} {rm : Room} {W : Nat} {argsL : List Value} {stk : List Value} {a : Addr} {C : String} {z : MethodName} {q : Heap → Prop} (G : Go b EL NS p l e R s m args below meth c Z own T h cells slots) (hx : p.tables.exec = Jvm.exec) (hd : decode c.code pc = .ok (.invokevirtual index, 3)) (nf : ∀ s' : State, Z.Warmed39 s'.vm → NotFace s' z) (w1 : (Cond.methodLink own index z).before a0 Z = true) (w2 : (Cond.declares z).before a0 Z = true) (w5 : (Cond.selects C z y).before a0 Z = true) (w6 : (Cond.instanceMethod y).before a0 Z = true) (w3 : (Cond.initialized y.cls).before a0 Z = true) (w4 : (Cond.code y bytes maxL ret).before a0 Z = true) (hy : z.cls ≠ "java/lang/invoke/MethodHandle" ∧ z.cls ≠ "java/lang/invoke/VarHandle") (E : Exa Z h a C) (hM : Met0 b EL l Z y bytes maxL ret [] rm (.ref a :: argsL).toArray h q) (hf : rm.frames + 1 ≤ R.frames) (hl : W + (maxL + 11) + rm.locals ≤ R.locals) (hsize : Ls.size = c.maxLocals) (hlen : ∀ sig, parseMethodDescriptor z.desc = some sig → argsL.length = sig.parameters.length) (hst : stk = argsL.reverse ++ .ref a :: st) (hW : 2 * 0 + (st.map fun v => v.category).sum ≤ W) (hc : cells + rm.cells = cells') (hc' : cells' ≤ R.cells) (hs : slots + rm.slots = slots') (hs' : slots' ≤ R.slots) (hp : pc + 3 = pc')
    (K : ∀ (T' : State) (h' : Heap) , Go b EL NS p l e R s m args below meth c Z own T' h' cells' slots' → q h' → Fz b EL p e R s below Z Q (T'.setTop (mkF m pc' Ls st))) : Fz b EL p e R s below Z Q (T.setTop (mkF m pc Ls stk)) := 
  callV G hx hd nf w1 w2 w5 w6 w3 w4 hy E hM hf hl hsize hlen hst hW hc hc' hs hs' hp (fun T' h' v G' hq => by
    obtain ⟨rfl, hq⟩ := hq
    exact K T' h' G' hq)
theorem callU {index : Nat} {y : MethodName} {bytes : ByteArray} {maxL : Nat} {ret : Option FieldType} {rm : Room} {W : Nat} {argsL : List Value} {stk : List Value} {a : Addr} {C owner : String} {z : MethodName} {Q' : Option Value → Heap → Prop} (G : Go b EL NS p l e R s m args below meth c Z own T h cells slots) (hx : p.tables.exec = Jvm.exec) (hd : decode c.code pc = .ok (.invokevirtual index, 3)) (w1 : (Cond.methodLink own index z).before a0 Z = true) (w2 : (Cond.sameMethod z.cls owner z.name z.desc).before a0 Z = true) (w5 : (Cond.declares ⟨owner, z.name, z.desc⟩).before a0 Z = true) (w6 : (Cond.selects C z y).before a0 Z = true) (w7 : (Cond.instanceMethod y).before a0 Z = true) (w3 : (Cond.initialized y.cls).before a0 Z = true) (w4 : (Cond.code y bytes maxL ret).before a0 Z = true) (hy : owner ≠ "java/lang/invoke/MethodHandle" ∧ owner ≠ "java/lang/invoke/VarHandle") (E : Exa Z h a C) (hM : Met b EL l Z y bytes maxL ret [] rm (.ref a :: argsL).toArray h Q') (hf : rm.frames + 1 ≤ R.frames) (hl : W + (maxL + 11) + rm.locals ≤ R.locals) (hsize : Ls.size = c.maxLocals) (hlen : ∀ sig, parseMethodDescriptor z.desc = some sig → argsL.length = sig.parameters.length) (hst : stk = argsL.reverse ++ .ref a :: st) (hW : 2 * 0 + (st.map fun v => v.category).sum ≤ W) (hc : cells + rm.cells = cells') (hc' : cells' ≤ R.cells) (hs : slots + rm.slots = slots') (hs' : slots' ≤ R.slots) (hp : pc + 3 = pc')
    (K : ∀ (T' : State) (h' : Heap) (v : Option Value), Go b EL NS p l e R s m args below meth c Z own T' h' cells' slots' → Q' v h' → Fz b EL p e R s below Z Q (T'.setTop (mkF m pc' Ls (v.toList ++ st)))) : Fz b EL p e R s below Z Q (T.setTop (mkF m pc Ls stk)) := by
  subst hp; subst hc; subst hs
  obtain ⟨vm0, k0, locs, X, hb, hS, hk, hZ, hown, eT, N, O, HE, CR, HN⟩ := G
  obtain ⟨cq, kq, qa, qb, qc⟩ := isOf (s := s.setVm vm0) (T := T) hZ eT E
  subst hb
  obtain ⟨a1, hE⟩ := HE
  have hZ2 : Z.Warmed39 (s.setVm vm0).vm := hZ
  have hK := backOfSH (s := s) (W := W) (R := R) (p := p) (e := e) (below := below) (args := args) (len := 3) (Q := fun v h L => Fr Z.heap.size L ∧ Ext Z.heap h ∧ Q' v h) hM hZ w4 w3 hf hl (EW.any hE a0) CR.1
  obtain ⟨v, vm₁, ⟨T1, L1, k1, n1⟩, -, X1, hS1, hg1, ⟨Lc, hQ, l1, y1, z1, C1⟩, f⟩ := X.virtualBackUpS hx (x := z) (y := y) hown (mvT hZ2 w1) (mvT hZ2 w2) (mvT hZ2 w5) hy (mvT hZ2 w6) (mvT hZ2 w7) hK qa qc (g := mkF m pc Ls stk) rfl hsize (Steps.refl _) (argsL := argsL) (rest := st) hlen hst hW hd (fun _ _ => ⟨rfl, eT, hc', hs'⟩)
  dsimp only [Pt.U, Pt.locs, Pt.cells, Pt.slots] at X1 hS1 hg1 l1 y1 z1 f hQ C1
  subst l1 y1 z1
  have X3 : Stand p l e R (s.setVm T1.vm) m args below meth c T1 (locs ++ Lc) (cells + rm.cells) (slots + rm.slots) := X1
  exact Fz.of (fun t k => f.trans k) (K T1 T1.heap v ⟨T1.vm, T1.heap.size, _, X3, rfl, hS.trans hS1 (Nat.le_trans hk (by rw [← eT]; exact hg1)), Nat.le_refl _, State.Warmed39.trans (t := s.setVm vm0) hZ hS1.1, (hS1.1.alike.findClass _ _).trans hown, rfl, Fr.app N hQ.1, hQ.2.1, ⟨a1, hE⟩, CR.trans C1, hnC C1 HN⟩ hQ.2.2)
theorem callU1 {index : Nat} {y : MethodName} {bytes : ByteArray} {maxL : Nat} {ret : Option FieldType} {rm : Room} {W : Nat} {argsL : List Value} {stk : List Value} {a : Addr} {C owner : String} {z : MethodName} {q : Value → Heap → Prop} (G : Go b EL NS p l e R s m args below meth c Z own T h cells slots) (hx : p.tables.exec = Jvm.exec) (hd : decode c.code pc = .ok (.invokevirtual index, 3)) (w1 : (Cond.methodLink own index z).before a0 Z = true) (w2 : (Cond.sameMethod z.cls owner z.name z.desc).before a0 Z = true) (w5 : (Cond.declares ⟨owner, z.name, z.desc⟩).before a0 Z = true) (w6 : (Cond.selects C z y).before a0 Z = true) (w7 : (Cond.instanceMethod y).before a0 Z = true) (w3 : (Cond.initialized y.cls).before a0 Z = true) (w4 : (Cond.code y bytes maxL ret).before a0 Z = true) (hy : owner ≠ "java/lang/invoke/MethodHandle" ∧ owner ≠ "java/lang/invoke/VarHandle") (E : Exa Z h a C) (hM : Met1 b EL l Z y bytes maxL ret [] rm (.ref a :: argsL).toArray h q) (hf : rm.frames + 1 ≤ R.frames) (hl : W + (maxL + 11) + rm.locals ≤ R.locals) (hsize : Ls.size = c.maxLocals) (hlen : ∀ sig, parseMethodDescriptor z.desc = some sig → argsL.length = sig.parameters.length) (hst : stk = argsL.reverse ++ .ref a :: st) (hW : 2 * 0 + (st.map fun v => v.category).sum ≤ W) (hc : cells + rm.cells = cells') (hc' : cells' ≤ R.cells) (hs : slots + rm.slots = slots') (hs' : slots' ≤ R.slots) (hp : pc + 3 = pc')
    (K : ∀ (T' : State) (h' : Heap) (w : Value), Go b EL NS p l e R s m args below meth c Z own T' h' cells' slots' → q w h' → Fz b EL p e R s below Z Q (T'.setTop (mkF m pc' Ls (w :: st)))) : Fz b EL p e R s below Z Q (T.setTop (mkF m pc Ls stk)) := 
  callU G hx hd w1 w2 w5 w6 w7 w3 w4 hy E hM hf hl hsize hlen hst hW hc hc' hs hs' hp (fun T' h' v G' hq => by
    obtain ⟨w, rfl, hq⟩ := hq
    exact K T' h' w G' hq)
theorem callUP {index : Nat} {y : MethodName} {bytes : ByteArray} {maxL : Nat} {ret : Option FieldType} {rm : Room} {W : Nat} {argsL : List Value} {stk : List Value} {a : Addr} {C owner : String} {z : MethodName} {q : Value → Prop} (G : Go b EL NS p l e R s m args below meth c Z own T h cells slots) (hx : p.tables.exec = Jvm.exec) (hd : decode c.code pc = .ok (.invokevirtual index, 3)) (w1 : (Cond.methodLink own index z).before a0 Z = true) (w2 : (Cond.sameMethod z.cls owner z.name z.desc).before a0 Z = true) (w5 : (Cond.declares ⟨owner, z.name, z.desc⟩).before a0 Z = true) (w6 : (Cond.selects C z y).before a0 Z = true) (w7 : (Cond.instanceMethod y).before a0 Z = true) (w3 : (Cond.initialized y.cls).before a0 Z = true) (w4 : (Cond.code y bytes maxL ret).before a0 Z = true) (hy : owner ≠ "java/lang/invoke/MethodHandle" ∧ owner ≠ "java/lang/invoke/VarHandle") (E : Exa Z h a C) (hM : Met1 b EL l Z y bytes maxL ret [] rm (.ref a :: argsL).toArray h (fun w h' => h' = h ∧ q w)) (hf : rm.frames + 1 ≤ R.frames) (hl : W + (maxL + 11) + rm.locals ≤ R.locals) (hsize : Ls.size = c.maxLocals) (hlen : ∀ sig, parseMethodDescriptor z.desc = some sig → argsL.length = sig.parameters.length) (hst : stk = argsL.reverse ++ .ref a :: st) (hW : 2 * 0 + (st.map fun v => v.category).sum ≤ W) (hc : cells + rm.cells = cells') (hc' : cells' ≤ R.cells) (hs : slots + rm.slots = slots') (hs' : slots' ≤ R.slots) (hp : pc + 3 = pc')
    (K : ∀ (T' : State) (w : Value), Go b EL NS p l e R s m args below meth c Z own T' h cells' slots' → q w → Fz b EL p e R s below Z Q (T'.setTop (mkF m pc' Ls (w :: st)))) : Fz b EL p e R s below Z Q (T.setTop (mkF m pc Ls stk)) := 
  callU G hx hd w1 w2 w5 w6 w7 w3 w4 hy E hM hf hl hsize hlen hst hW hc hc' hs hs' hp (fun T' h' v G' hq => by
    obtain ⟨w, rfl, e1, hq⟩ := hq
    subst e1
    exact K T' w G' hq)
theorem callU0 {index : Nat} {y : MethodName} {bytes : ByteArray} {maxL : Nat} {ret : Option FieldType} {rm : Room} {W : Nat} {argsL : List Value} {stk : List Value} {a : Addr} {C owner : String} {z : MethodName} {q : Heap → Prop} (G : Go b EL NS p l e R s m args below meth c Z own T h cells slots) (hx : p.tables.exec = Jvm.exec) (hd : decode c.code pc = .ok (.invokevirtual index, 3)) (w1 : (Cond.methodLink own index z).before a0 Z = true) (w2 : (Cond.sameMethod z.cls owner z.name z.desc).before a0 Z = true) (w5 : (Cond.declares ⟨owner, z.name, z.desc⟩).before a0 Z = true) (w6 : (Cond.selects C z y).before a0 Z = true) (w7 : (Cond.instanceMethod y).before a0 Z = true) (w3 : (Cond.initialized y.cls).before a0 Z = true) (w4 : (Cond.code y bytes maxL ret).before a0 Z = true) (hy : owner ≠ "java/lang/invoke/MethodHandle" ∧ owner ≠ "java/lang/invoke/VarHandle") (E : Exa Z h a C) (hM : Met0 b EL l Z y bytes maxL ret [] rm (.ref a :: argsL).toArray h q) (hf : rm.frames + 1 ≤ R.frames) (hl : W + (maxL + 11) + rm.locals ≤ R.locals) (hsize : Ls.size = c.maxLocals) (hlen : ∀ sig, parseMethodDescriptor z.desc = some sig → argsL.length = sig.parameters.length) (hst : stk = argsL.reverse ++ .ref a :: st) (hW : 2 * 0 + (st.map fun v => v.category).sum ≤ W) (hc : cells + rm.cells = cells') (hc' : cells' ≤ R.cells) (hs : slots + rm.slots = slots') (hs' : slots' ≤ R.slots) (hp : pc + 3 = pc')
    (K : ∀ (T' : State) (h' : Heap) , Go b EL NS p l e R s m args below meth c Z own T' h' cells' slots' → q h' → Fz b EL p e R s below Z Q (T'.setTop (mkF m pc' Ls st))) : Fz b EL p e R s below Z Q (T.setTop (mkF m pc Ls stk)) := 
  callU G hx hd w1 w2 w5 w6 w7 w3 w4 hy E hM hf hl hsize hlen hst hW hc hc' hs hs' hp (fun T' h' v G' hq => by
    obtain ⟨rfl, hq⟩ := hq
    exact K T' h' G' hq)
theorem callIN {index : Nat} {y : MethodName} {bytes : ByteArray} {maxL : Nat} {rm : Room} {W : Nat} {argsL : List Value} {stk : List Value} {a : Addr} {host : String} {Q' : Option Value → Heap → Prop} (G : Go b EL NS p l e R s m args below meth c Z own T h cells slots) (hx : p.tables.exec = Jvm.exec) (hd : decode c.code pc = .ok (.invokespecial index, 3)) (hn : y.name = "<init>") (w1 : (Cond.methodLinkNest own index y host).before a0 Z = true) (w2 : (Cond.instanceMethod y).before a0 Z = true) (w3 : (Cond.initialized y.cls).before a0 Z = true) (w4 : (Cond.code y bytes maxL none).before a0 Z = true) (hy : y.cls ≠ "java/lang/invoke/MethodHandle" ∧ y.cls ≠ "java/lang/invoke/VarHandle") (hM : Met b EL l Z y bytes maxL none [] rm (.ref a :: argsL).toArray h Q') (hf : rm.frames + 1 ≤ R.frames) (hl : W + (maxL + 11) + rm.locals ≤ R.locals) (hsize : Ls.size = c.maxLocals) (hlen : ∀ sig, parseMethodDescriptor y.desc = some sig → argsL.length = sig.parameters.length) (hst : stk = argsL.reverse ++ .ref a :: st) (hW : 2 * 0 + (st.map fun v => v.category).sum ≤ W) (hc : cells + rm.cells = cells') (hc' : cells' ≤ R.cells) (hs : slots + rm.slots = slots') (hs' : slots' ≤ R.slots) (hp : pc + 3 = pc')
    (K : ∀ (T' : State) (h' : Heap) (v : Option Value), Go b EL NS p l e R s m args below meth c Z own T' h' cells' slots' → Q' v h' → Fz b EL p e R s below Z Q (T'.setTop (mkF m pc' Ls (v.toList ++ st)))) : Fz b EL p e R s below Z Q (T.setTop (mkF m pc Ls stk)) := by
  subst hp; subst hc; subst hs
  obtain ⟨vm0, k0, locs, X, hb, hS, hk, hZ, hown, eT, N, O, HE, CR, HN⟩ := G
  subst hb
  obtain ⟨a1, hE⟩ := HE
  have hZ2 : Z.Warmed39 (s.setVm vm0).vm := hZ
  have hK := backOfSH (s := s) (W := W) (R := R) (p := p) (e := e) (below := below) (args := args) (len := 3) (Q := fun v h L => Fr Z.heap.size L ∧ Ext Z.heap h ∧ Q' v h) hM hZ w4 w3 hf hl (EW.any hE a0) CR.1
  obtain ⟨v, vm₁, ⟨T1, L1, k1, n1⟩, -, X1, hS1, hg1, ⟨Lc, hQ, l1, y1, z1, C1⟩, f⟩ := X.specialBackNestS hx (y := y) hn hown (Cond.methodLinkNest_wide hZ2 w1 :) (mvT hZ2 w2) (mvT hZ2 w4) hy hK (g := mkF m pc Ls stk) rfl hsize (Steps.refl _) (a := a) (argsL := argsL) (rest := st) hlen hst hW hd (fun _ _ => ⟨rfl, eT, hc', hs'⟩)
  dsimp only [Pt.U, Pt.locs, Pt.cells, Pt.slots] at X1 hS1 hg1 l1 y1 z1 f hQ C1
  subst l1 y1 z1
  have X3 : Stand p l e R (s.setVm T1.vm) m args below meth c T1 (locs ++ Lc) (cells + rm.cells) (slots + rm.slots) := X1
  exact Fz.of (fun t k => f.trans k) (K T1 T1.heap v ⟨T1.vm, T1.heap.size, _, X3, rfl, hS.trans hS1 (Nat.le_trans hk (by rw [← eT]; exact hg1)), Nat.le_refl _, State.Warmed39.trans (t := s.setVm vm0) hZ hS1.1, (hS1.1.alike.findClass _ _).trans hown, rfl, Fr.app N hQ.1, hQ.2.1, ⟨a1, hE⟩, CR.trans C1, hnC C1 HN⟩ hQ.2.2)
theorem callIN1 {index : Nat} {y : MethodName} {bytes : ByteArray} {maxL : Nat} {rm : Room} {W : Nat} {argsL : List Value} {stk : List Value} {a : Addr} {host : String} {q : Value → Heap → Prop} (G : Go b EL NS p l e R s m args below meth c Z own T h cells slots) (hx : p.tables.exec = Jvm.exec) (hd : decode c.code pc = .ok (.invokespecial index, 3)) (hn : y.name = "<init>") (w1 : (Cond.methodLinkNest own index y host).before a0 Z = true) (w2 : (Cond.instanceMethod y).before a0 Z = true) (w3 : (Cond.initialized y.cls).before a0 Z = true) (w4 : (Cond.code y bytes maxL none).before a0 Z = true) (hy : y.cls ≠ "java/lang/invoke/MethodHandle" ∧ y.cls ≠ "java/lang/invoke/VarHandle") (hM : Met1 b EL l Z y bytes maxL none [] rm (.ref a :: argsL).toArray h q) (hf : rm.frames + 1 ≤ R.frames) (hl : W + (maxL + 11) + rm.locals ≤ R.locals) (hsize : Ls.size = c.maxLocals) (hlen : ∀ sig, parseMethodDescriptor y.desc = some sig → argsL.length = sig.parameters.length) (hst : stk = argsL.reverse ++ .ref a :: st) (hW : 2 * 0 + (st.map fun v => v.category).sum ≤ W) (hc : cells + rm.cells = cells') (hc' : cells' ≤ R.cells) (hs : slots + rm.slots = slots') (hs' : slots' ≤ R.slots) (hp : pc + 3 = pc')
    (K : ∀ (T' : State) (h' : Heap) (w : Value), Go b EL NS p l e R s m args below meth c Z own T' h' cells' slots' → q w h' → Fz b EL p e R s below Z Q (T'.setTop (mkF m pc' Ls (w :: st)))) : Fz b EL p e R s below Z Q (T.setTop (mkF m pc Ls stk)) := 
  callIN G hx hd hn w1 w2 w3 w4 hy hM hf hl hsize hlen hst hW hc hc' hs hs' hp (fun T' h' v G' hq => by
    obtain ⟨w, rfl, hq⟩ := hq
    exact K T' h' w G' hq)
theorem callINP {index : Nat} {y : MethodName} {bytes : ByteArray} {maxL : Nat} {rm : Room} {W : Nat} {argsL : List Value} {stk : List Value} {a : Addr} {host : String} {q : Value → Prop} (G : Go b EL NS p l e R s m args below meth c Z own T h cells slots) (hx : p.tables.exec = Jvm.exec) (hd : decode c.code pc = .ok (.invokespecial index, 3)) (hn : y.name = "<init>") (w1 : (Cond.methodLinkNest own index y host).before a0 Z = true) (w2 : (Cond.instanceMethod y).before a0 Z = true) (w3 : (Cond.initialized y.cls).before a0 Z = true) (w4 : (Cond.code y bytes maxL none).before a0 Z = true) (hy : y.cls ≠ "java/lang/invoke/MethodHandle" ∧ y.cls ≠ "java/lang/invoke/VarHandle") (hM : Met1 b EL l Z y bytes maxL none [] rm (.ref a :: argsL).toArray h (fun w h' => h' = h ∧ q w)) (hf : rm.frames + 1 ≤ R.frames) (hl : W + (maxL + 11) + rm.locals ≤ R.locals) (hsize : Ls.size = c.maxLocals) (hlen : ∀ sig, parseMethodDescriptor y.desc = some sig → argsL.length = sig.parameters.length) (hst : stk = argsL.reverse ++ .ref a :: st) (hW : 2 * 0 + (st.map fun v => v.category).sum ≤ W) (hc : cells + rm.cells = cells') (hc' : cells' ≤ R.cells) (hs : slots + rm.slots = slots') (hs' : slots' ≤ R.slots) (hp : pc + 3 = pc')
    (K : ∀ (T' : State) (w : Value), Go b EL NS p l e R s m args below meth c Z own T' h cells' slots' → q w → Fz b EL p e R s below Z Q (T'.setTop (mkF m pc' Ls (w :: st)))) : Fz b EL p e R s below Z Q (T.setTop (mkF m pc Ls stk)) := 
  callIN G hx hd hn w1 w2 w3 w4 hy hM hf hl hsize hlen hst hW hc hc' hs hs' hp (fun T' h' v G' hq => by
    obtain ⟨w, rfl, e1, hq⟩ := hq
    subst e1
    exact K T' w G' hq)
theorem callIN0 {index : Nat} {y : MethodName} {bytes : ByteArray} {maxL : Nat} {rm : Room} {W : Nat} {argsL : List Value} {stk : List Value} {a : Addr} {host : String} {q : Heap → Prop} (G : Go b EL NS p l e R s m args below meth c Z own T h cells slots) (hx : p.tables.exec = Jvm.exec) (hd : decode c.code pc = .ok (.invokespecial index, 3)) (hn : y.name = "<init>") (w1 : (Cond.methodLinkNest own index y host).before a0 Z = true) (w2 : (Cond.instanceMethod y).before a0 Z = true) (w3 : (Cond.initialized y.cls).before a0 Z = true) (w4 : (Cond.code y bytes maxL none).before a0 Z = true) (hy : y.cls ≠ "java/lang/invoke/MethodHandle" ∧ y.cls ≠ "java/lang/invoke/VarHandle") (hM : Met0 b EL l Z y bytes maxL none [] rm (.ref a :: argsL).toArray h q) (hf : rm.frames + 1 ≤ R.frames) (hl : W + (maxL + 11) + rm.locals ≤ R.locals) (hsize : Ls.size = c.maxLocals) (hlen : ∀ sig, parseMethodDescriptor y.desc = some sig → argsL.length = sig.parameters.length) (hst : stk = argsL.reverse ++ .ref a :: st) (hW : 2 * 0 + (st.map fun v => v.category).sum ≤ W) (hc : cells + rm.cells = cells') (hc' : cells' ≤ R.cells) (hs : slots + rm.slots = slots') (hs' : slots' ≤ R.slots) (hp : pc + 3 = pc')
    (K : ∀ (T' : State) (h' : Heap) , Go b EL NS p l e R s m args below meth c Z own T' h' cells' slots' → q h' → Fz b EL p e R s below Z Q (T'.setTop (mkF m pc' Ls st))) : Fz b EL p e R s below Z Q (T.setTop (mkF m pc Ls stk)) := 
  callIN G hx hd hn w1 w2 w3 w4 hy hM hf hl hsize hlen hst hW hc hc' hs hs' hp (fun T' h' v G' hq => by
    obtain ⟨rfl, hq⟩ := hq
    exact K T' h' G' hq)
theorem callSup {index : Nat} {y : MethodName} {bytes : ByteArray} {maxL : Nat} {ret : Option FieldType} {rm : Room} {W : Nat} {argsL : List Value} {stk : List Value} {a : Addr} {K' : String} {Q' : Option Value → Heap → Prop} (G : Go b EL NS p l e R s m args below meth c Z own T h cells slots) (hx : p.tables.exec = Jvm.exec) (hd : decode c.code pc = .ok (.invokespecial index, 3)) (hn : y.name ≠ "<init>") (w1 : (Cond.methodLink own index y).before a0 Z = true) (w2 : (Cond.sameMethod y.cls y.cls y.name y.desc).before a0 Z = true) (w5 : (Cond.instanceMethod y).before a0 Z = true) (w6 : (Cond.superclass own y.cls).before a0 Z = true) (w3 : (Cond.initialized y.cls).before a0 Z = true) (w4 : (Cond.code y bytes maxL ret).before a0 Z = true) (I : Ins Z h a K' true) (hM : Met b EL l Z y bytes maxL ret [] rm (.ref a :: argsL).toArray h Q') (hf : rm.frames + 1 ≤ R.frames) (hl : W + (maxL + 11) + rm.locals ≤ R.locals) (hsize : Ls.size = c.maxLocals) (hlen : ∀ sig, parseMethodDescriptor y.desc = some sig → argsL.length = sig.parameters.length) (hst : stk = argsL.reverse ++ .ref a :: st) (hW : 2 * 0 + (st.map fun v => v.category).sum ≤ W) (hc : cells + rm.cells = cells') (hc' : cells' ≤ R.cells) (hs : slots + rm.slots = slots') (hs' : slots' ≤ R.slots) (hp : pc + 3 = pc')
    (K : ∀ (T' : State) (h' : Heap) (v : Option Value), Go b EL NS p l e R s m args below meth c Z own T' h' cells' slots' → Q' v h' → Fz b EL p e R s below Z Q (T'.setTop (mkF m pc' Ls (v.toList ++ st)))) : Fz b EL p e R s below Z Q (T.setTop (mkF m pc Ls stk)) := by
  subst hp; subst hc; subst hs
  obtain ⟨vm0, k0, locs, X, hb, hS, hk, hZ, hown, eT, N, O, HE, CR, HN⟩ := G
  subst hb
  obtain ⟨a1, hE⟩ := HE
  have hZ2 : Z.Warmed39 (s.setVm vm0).vm := hZ
  have hK := backOfSH (s := s) (W := W) (R := R) (p := p) (e := e) (below := below) (args := args) (len := 3) (Q := fun v h L => Fr Z.heap.size L ∧ Ext Z.heap h ∧ Q' v h) hM hZ w4 w3 hf hl (EW.any hE a0) CR.1
  obtain ⟨v, vm₁, ⟨T1, L1, k1, n1⟩, -, X1, hS1, hg1, ⟨Lc, hQ, l1, y1, z1, C1⟩, f⟩ := superBackS X hx hZ2 hown w1 w2 w5 w6 hn hK eT I (g := mkF m pc Ls stk) rfl hsize w4 (argsL := argsL) (rest := st) hlen hst hW hd (fun _ _ => ⟨rfl, eT, hc', hs'⟩)
  dsimp only [Pt.U, Pt.locs, Pt.cells, Pt.slots] at X1 hS1 hg1 l1 y1 z1 f hQ C1
  subst l1 y1 z1
  have X3 : Stand p l e R (s.setVm T1.vm) m args below meth c T1 (locs ++ Lc) (cells + rm.cells) (slots + rm.slots) := X1
  exact Fz.of (fun t k => f.trans k) (K T1 T1.heap v ⟨T1.vm, T1.heap.size, _, X3, rfl, hS.trans hS1 (Nat.le_trans hk (by rw [← eT]; exact hg1)), Nat.le_refl _, State.Warmed39.trans (t := s.setVm vm0) hZ hS1.1, (hS1.1.alike.findClass _ _).trans hown, rfl, Fr.app N hQ.1, hQ.2.1, ⟨a1, hE⟩, CR.trans C1, hnC C1 HN⟩ hQ.2.2)
theorem callSup1 {index : Nat} {y : MethodName} {bytes : ByteArray} {maxL : Nat} {ret : Option FieldType} {rm : Room} {W : Nat} {argsL : List Value} {stk : List Value} {a : Addr} {K' : String} {q : Value → Heap → Prop} (G : Go b EL NS p l e R s m args below meth c Z own T h cells slots) (hx : p.tables.exec = Jvm.exec) (hd : decode c.code pc = .ok (.invokespecial index, 3)) (hn : y.name ≠ "<init>") (w1 : (Cond.methodLink own index y).before a0 Z = true) (w2 : (Cond.sameMethod y.cls y.cls y.name y.desc).before a0 Z = true) (w5 : (Cond.instanceMethod y).before a0 Z = true) (w6 : (Cond.superclass own y.cls).before a0 Z = true) (w3 : (Cond.initialized y.cls).before a0 Z = true) (w4 : (Cond.code y bytes maxL ret).before a0 Z = true) (I : Ins Z h a K' true) (hM : Met1 b EL l Z y bytes maxL ret [] rm (.ref a :: argsL).toArray h q) (hf : rm.frames + 1 ≤ R.frames) (hl : W + (maxL + 11) + rm.locals ≤ R.locals) (hsize : Ls.size = c.maxLocals) (hlen : ∀ sig, parseMethodDescriptor y.desc = some sig → argsL.length = sig.parameters.length) (hst : stk = argsL.reverse ++ .ref a :: st) (hW : 2 * 0 + (st.map fun v => v.category).sum ≤ W) (hc : cells + rm.cells = cells') (hc' : cells' ≤ R.cells) (hs : slots + rm.slots = slots') (hs' : slots' ≤ R.slots) (hp : pc + 3 = pc')
    (K : ∀ (T' : State) (h' : Heap) (w : Value), Go b EL NS p l e R s m args below meth c Z own T' h' cells' slots' → q w h' → Fz b EL p e R s below Z Q (T'.setTop (mkF m pc' Ls (w :: st)))) : Fz b EL p e R s below Z Q (T.setTop (mkF m pc Ls stk)) := 
  callSup G hx hd hn w1 w2 w5 w6 w3 w4 I hM hf hl hsize hlen hst hW hc hc' hs hs' hp (fun T' h' v G' hq => by
    obtain ⟨w, rfl, hq⟩ := hq
    exact K T' h' w G' hq)
theorem callSupP {index : Nat} {y : MethodName} {bytes : ByteArray} {maxL : Nat} {ret : Option FieldType} {rm : Room} {W : Nat} {argsL : List Value} {stk : List Value} {a : Addr} {K' : String} {q : Value → Prop} (G : Go b EL NS p l e R s m args below meth c Z own T h cells slots) (hx : p.tables.exec = Jvm.exec) (hd : decode c.code pc = .ok (.invokespecial index, 3)) (hn : y.name ≠ "<init>") (w1 : (Cond.methodLink own index y).before a0 Z = true) (w2 : (Cond.sameMethod y.cls y.cls y.name y.desc).before a0 Z = true) (w5 : (Cond.instanceMethod y).before a0 Z = true) (w6 : (Cond.superclass own y.cls).before a0 Z = true) (w3 : (Cond.initialized y.cls).before a0 Z = true) (w4 : (Cond.code y bytes maxL ret).before a0 Z = true) (I : Ins Z h a K' true) (hM : Met1 b EL l Z y bytes maxL ret [] rm (.ref a :: argsL).toArray h (fun w h' => h' = h ∧ q w)) (hf : rm.frames + 1 ≤ R.frames) (hl : W + (maxL + 11) + rm.locals ≤ R.locals) (hsize : Ls.size = c.maxLocals) (hlen : ∀ sig, parseMethodDescriptor y.desc = some sig → argsL.length = sig.parameters.length) (hst : stk = argsL.reverse ++ .ref a :: st) (hW : 2 * 0 + (st.map fun v => v.category).sum ≤ W) (hc : cells + rm.cells = cells') (hc' : cells' ≤ R.cells) (hs : slots + rm.slots = slots') (hs' : slots' ≤ R.slots) (hp : pc + 3 = pc')
    (K : ∀ (T' : State) (w : Value), Go b EL NS p l e R s m args below meth c Z own T' h cells' slots' → q w → Fz b EL p e R s below Z Q (T'.setTop (mkF m pc' Ls (w :: st)))) : Fz b EL p e R s below Z Q (T.setTop (mkF m pc Ls stk)) := 
  callSup G hx hd hn w1 w2 w5 w6 w3 w4 I hM hf hl hsize hlen hst hW hc hc' hs hs' hp (fun T' h' v G' hq => by
    obtain ⟨w, rfl, e1, hq⟩ := hq
    subst e1
    exact K T' w G' hq)
theorem callSup0 {index : Nat} {y : MethodName} {bytes : ByteArray} {maxL : Nat} {ret : Option FieldType} {rm : Room} {W : Nat} {argsL : List Value} {stk : List Value} {a : Addr} {K' : String} {q : Heap → Prop} (G : Go b EL NS p l e R s m args below meth c Z own T h cells slots) (hx : p.tables.exec = Jvm.exec) (hd : decode c.code pc = .ok (.invokespecial index, 3)) (hn : y.name ≠ "<init>") (w1 : (Cond.methodLink own index y).before a0 Z = true) (w2 : (Cond.sameMethod y.cls y.cls y.name y.desc).before a0 Z = true) (w5 : (Cond.instanceMethod y).before a0 Z = true) (w6 : (Cond.superclass own y.cls).before a0 Z = true) (w3 : (Cond.initialized y.cls).before a0 Z = true) (w4 : (Cond.code y bytes maxL ret).before a0 Z = true) (I : Ins Z h a K' true) (hM : Met0 b EL l Z y bytes maxL ret [] rm (.ref a :: argsL).toArray h q) (hf : rm.frames + 1 ≤ R.frames) (hl : W + (maxL + 11) + rm.locals ≤ R.locals) (hsize : Ls.size = c.maxLocals) (hlen : ∀ sig, parseMethodDescriptor y.desc = some sig → argsL.length = sig.parameters.length) (hst : stk = argsL.reverse ++ .ref a :: st) (hW : 2 * 0 + (st.map fun v => v.category).sum ≤ W) (hc : cells + rm.cells = cells') (hc' : cells' ≤ R.cells) (hs : slots + rm.slots = slots') (hs' : slots' ≤ R.slots) (hp : pc + 3 = pc')
    (K : ∀ (T' : State) (h' : Heap) , Go b EL NS p l e R s m args below meth c Z own T' h' cells' slots' → q h' → Fz b EL p e R s below Z Q (T'.setTop (mkF m pc' Ls st))) : Fz b EL p e R s below Z Q (T.setTop (mkF m pc Ls stk)) := 
  callSup G hx hd hn w1 w2 w5 w6 w3 w4 I hM hf hl hsize hlen hst hW hc hc' hs hs' hp (fun T' h' v G' hq => by
    obtain ⟨rfl, hq⟩ := hq
    exact K T' h' G' hq)
theorem getfieldRef {O' n d : String} {index : Nat} {a : Addr} {v : Value} (G : Go b EL NS p l e R s m args below meth c Z own T h cells slots) (hx : p.tables.exec = Jvm.exec) (hd : decode c.code pc = .ok (.getfield index, 3)) (w : (Cond.fieldRef own index O' n d).before a0 Z = true) (F : Fld Z h a O' n d v) (hp : pc + 3 = pc') (K : Fz b EL p e R s below Z Q (T.setTop (mkF m pc' Ls (v :: st)))) : Fz b EL p e R s below Z Q (T.setTop (mkF m pc Ls (.ref a :: st))) := by
  subst hp
  obtain ⟨vm0, k0, locs, X, hb, hS, hk, hZ, hown, eT, N, O, HE, CR, HN⟩ := G
  have hZT : Z.Warmed39 T.vm := wtrans (s := s.setVm vm0) hZ X.warmed
  have q := Cond.fieldRef_warmed39 hZT w
  have hcur : (Z.setVm T.vm).vm.findClass own = some m.cls := (X.warmed.alike.findClass _ _).trans hown
  obtain ⟨c2, k2, i2, f2, e1, hr⟩ := Cond.fieldRef_spec hcur q
  obtain ⟨cell, cf, k, i, f, h1, h2, h3, h4, -, -, h7⟩ := F
  obtain ⟨k', hi, -⟩ := State.fieldFound?_setVm (s := Z) hZT.alike h2
  have e2 := hi.symm.trans e1
  simp only [Option.some.injEq, Prod.mk.injEq] at e2
  obtain ⟨rfl, rfl, rfl, rfl⟩ := e2
  exact Fz.of (fun t k => (X.getfieldR hx (g := mkF m pc Ls (.ref a :: st)) rfl hr h3 rfl (by rw [eT]; exact h1) h4 h7 hd (Steps.refl _)).trans k) K
theorem arraycopy {index : Nat} {k k' : ClassId} {ty : FieldType} {z z' sp dp nn : Int32} {vs vd us : List Value} {dv dd : Value} {a x : Addr} {W : Nat} (G : Go b EL NS p l e R s m args below meth c Z own T h cells slots) (hx : p.tables.exec = Jvm.exec) (hd : decode c.code pc = .ok (.invokestatic index, 3)) (w1 : (Cond.methodLink own index Jvm.Stand.acN).before a0 Z = true) (w2 : (Cond.native Jvm.Stand.acN).before a0 Z = true) (w3 : (Cond.static Jvm.Stand.acN).before a0 Z = true) (w4 : (Cond.initialized "java/lang/System").before a0 Z = true)
    (A : Arv Z h a k ty z vs dv) (B : Arv Z h x k' ty z' vd dd) (hty : refKind ty = false) (h1 : ¬ sp < 0) (h2 : ¬ dp < 0) (h3 : ¬ nn < 0) (h4 : sp.toNatClampNeg + nn.toNatClampNeg ≤ z.toNatClampNeg) (h5 : dp.toNatClampNeg + nn.toNatClampNeg ≤ z'.toNatClampNeg) (hus : us = (List.range nn.toNatClampNeg).map fun i => vs.getD (sp.toNatClampNeg + i) dv) (hl : dp.toNatClampNeg + nn.toNatClampNeg ≤ vd.length) (ga : Z.heap.size ≤ x) (sf : EL = [] ∨ ty ≠ .byte ∨ x ∈ NS ∨ EWL Z a0 EL z'.toNatClampNeg)
    (hsize : Ls.size = c.maxLocals) (hf : 1 ≤ R.frames) (hW : 2 * 0 + (st.map fun v => v.category).sum ≤ W) (hlo : W + (nativeFrameWords "java/lang/System" "arraycopy" 5 + 11) ≤ R.locals) (hp : pc + 3 = pc')
    (K : ∀ T' h', Go b EL NS p l e R s m args below meth c Z own T' h' cells slots → Keep h h' [x] → Arv Z h' x k' ty z' (vd.take dp.toNatClampNeg ++ us ++ vd.drop (dp.toNatClampNeg + nn.toNatClampNeg)) dd → Fz b EL p e R s below Z Q (T'.setTop (mkF m pc' Ls st))) : Fz b EL p e R s below Z Q (T.setTop (mkF m pc Ls (.int nn :: .int dp :: .ref x :: .int sp :: .ref a :: st))) := by
  subst hp
  obtain ⟨vm0, k0, locs, X, hb, hS, hk, hZ, hown, eT, N, O, HE, CR, HN⟩ := G
  obtain ⟨T', h', L, X', e', N', K', V', f⟩ := cpA X hx hZ hown w1 w2 w3 w4 eT A B (Or.inl ⟨rfl, hty⟩) h1 h2 h3 h4 h5 hus hl N ga (g := mkF m pc Ls (.int nn :: .int dp :: .ref x :: .int sp :: .ref a :: st)) rfl hsize rfl hd hf hW hlo
  exact Fz.of f (K T' h' ⟨vm0, k0, L, X', hb, hS, Nat.le_trans hk K'.1, hZ, hown, e', N', (Old.keep (n0 := Z.heap.size) ⟨rfl, O⟩ K' (allS ga all0)).2, HE, CR.trans (CHr.keep K' (fun y hy => by obtain rfl := List.mem_singleton.mp hy; exact safeV sf hZ B HN) CR.1), hnC (CHr.keep K' (fun y hy => by obtain rfl := List.mem_singleton.mp hy; exact safeV sf hZ B HN) CR.1) HN⟩ K' V')
theorem callIB {index : Nat} {y : MethodName} {bytes : ByteArray} {maxL : Nat} {W mc ms : Nat} {argsL : List Value} {stk : List Value} {a : Addr} {Qb : Option Value → Heap → List Loc → Prop} (G : Go b EL NS p l e R s m args below meth c Z own T h cells slots) (hx : p.tables.exec = Jvm.exec) (hd : decode c.code pc = .ok (.invokespecial index, 3)) (hn : y.name = "<init>") (w1 : (Cond.methodLink own index y).before a0 Z = true) (w2 : (Cond.instanceMethod y).before a0 Z = true) (w4 : (Cond.code y bytes maxL none).before a0 Z = true) (hy : y.cls ≠ "java/lang/invoke/MethodHandle" ∧ y.cls ≠ "java/lang/invoke/VarHandle")
    (hB : ∀ s' : State, Z.Warmed39 s'.vm → Back l R p e below s' args y 3 W (fun P a' => a' = (.ref a :: argsL).toArray ∧ P.U.heap = h ∧ P.cells + mc ≤ R.cells ∧ P.slots + ms ≤ R.slots) (fun P _ v B => ∃ L, Qb v B.U.heap L ∧ B.locs = P.locs ++ L ∧ B.cells = P.cells + mc ∧ B.slots = P.slots + ms))
    (sf : a ∈ NS) (hQ : ∀ v h' L, Qb v h' L → v = none ∧ Fr Z.heap.size L ∧ Ext Z.heap h' ∧ h.size ≤ h'.size ∧ Keep h h' [a]) (hsize : Ls.size = c.maxLocals) (hlen : ∀ sig, parseMethodDescriptor y.desc = some sig → argsL.length = sig.parameters.length) (hst : stk = argsL.reverse ++ .ref a :: st) (hW : 2 * 0 + (st.map fun v => v.category).sum ≤ W) (hc : cells + mc = cells') (hc' : cells' ≤ R.cells) (hs : slots + ms = slots') (hs' : slots' ≤ R.slots) (hp : pc + 3 = pc')
    (K : ∀ (T' : State) (h' : Heap), Go b EL NS p l e R s m args below meth c Z own T' h' cells' slots' → (∃ L, Qb none h' L) → Fz b EL p e R s below Z Q (T'.setTop (mkF m pc' Ls st))) : Fz b EL p e R s below Z Q (T.setTop (mkF m pc Ls stk)) := by
  subst hp; subst hc; subst hs
  obtain ⟨vm0, k0, locs, X, hb, hS, hk, hZ, hown, eT, N, O, HE, CR, HN⟩ := G
  have hZ2 : Z.Warmed39 (s.setVm vm0).vm := hZ
  obtain ⟨v, vm₁, ⟨T1, L1, k1, n1⟩, -, X1, ⟨Lc, hQ1, l1, y1, z1⟩, f⟩ := X.specialBack hx (y := y) hn hown (mvT hZ2 w1) (mvT hZ2 w2) (mvT hZ2 w4) hy (hB _ hZ2) (g := mkF m pc Ls stk) rfl hsize (Steps.refl _) (a := a) (argsL := argsL) (rest := st) hlen hst hW hd (fun _ _ => ⟨rfl, eT, hc', hs'⟩)
  dsimp only [Pt.U, Pt.locs, Pt.cells, Pt.slots] at X1 l1 y1 z1 f hQ1
  subst l1 y1 z1
  obtain ⟨e1, N1, O1, hz1, K1⟩ := hQ _ _ _ hQ1
  subst e1
  have kz : k0 ≤ T1.heap.size := Nat.le_trans hk hz1
  exact Fz.of (fun t k => f.trans k) (K T1 T1.heap ⟨vm0, k0, _, X1, hb, hS, kz, hZ, hown, rfl, Fr.app N N1, O1, HE, CR.trans (CHr.keep K1 (fun y hy => by obtain rfl := List.mem_singleton.mp hy; exact (HN _ sf).2) CR.1), hnC (CHr.keep K1 (fun y hy => by obtain rfl := List.mem_singleton.mp hy; exact (HN _ sf).2) CR.1) HN⟩ ⟨Lc, hQ1⟩)
theorem callVB {index : Nat} {y z : MethodName} {C : String} {W : Nat} {argsL : List Value} {stk : List Value} {a : Addr} {Qb : Option Value → Prop} (G : Go b EL NS p l e R s m args below meth c Z own T h cells slots) (hx : p.tables.exec = Jvm.exec) (hd : decode c.code pc = .ok (.invokevirtual index, 3)) (nf : ∀ s' : State, Z.Warmed39 s'.vm → NotFace s' z) (w1 : (Cond.methodLink own index z).before a0 Z = true) (w2 : (Cond.declares z).before a0 Z = true) (w5 : (Cond.selects C z y).before a0 Z = true) (w6 : (Cond.instanceMethod y).before a0 Z = true) (hy : z.cls ≠ "java/lang/invoke/MethodHandle" ∧ z.cls ≠ "java/lang/invoke/VarHandle") (E : Exa Z h a C)
    (hB : ∀ s' : State, Z.Warmed39 s'.vm → Back l R p e below s' args y 3 W (fun P a' => a' = (.ref a :: argsL).toArray ∧ P.U.heap = h ∧ P.cells + 0 ≤ R.cells ∧ P.slots + 0 ≤ R.slots) (fun P _ v B => ∃ L, (Qb v ∧ L = [] ∧ B.U.heap = h) ∧ B.locs = P.locs ++ L ∧ B.cells = P.cells + 0 ∧ B.slots = P.slots + 0))
    (hsize : Ls.size = c.maxLocals) (hlen : ∀ sig, parseMethodDescriptor z.desc = some sig → argsL.length = sig.parameters.length) (hst : stk = argsL.reverse ++ .ref a :: st) (hW : 2 * 0 + (st.map fun v => v.category).sum ≤ W) (hc' : cells + 0 ≤ R.cells) (hs' : slots + 0 ≤ R.slots) (hp : pc + 3 = pc')
    (hQ : ∀ v, Qb v → ∃ w, v = some w) (K : ∀ (T' : State) (w : Value), Go b EL NS p l e R s m args below meth c Z own T' h cells slots → Qb (some w) → Fz b EL p e R s below Z Q (T'.setTop (mkF m pc' Ls (w :: st)))) : Fz b EL p e R s below Z Q (T.setTop (mkF m pc Ls stk)) := by
  subst hp
  obtain ⟨vm0, k0, locs, X, hb, hS, hk, hZ, hown, eT, N, O, HE, CR, HN⟩ := G
  obtain ⟨cq, kq, qa, qb, qc⟩ := isOf (s := s.setVm vm0) (T := T) hZ eT E
  have hZ2 : Z.Warmed39 (s.setVm vm0).vm := hZ
  obtain ⟨v, vm₁, ⟨T1, L1, k1, n1⟩, -, X1, ⟨Lc, ⟨hQ1, rfl, e1⟩, l1, y1, z1⟩, f⟩ := X.virtualBack hx (y := z) (z := y) hown (mvT hZ2 w1) (mvT hZ2 w2) (nf _ hZ2) (mvT hZ2 w5) (mvT hZ2 w6) hy (hB _ hZ2) qa qc (g := mkF m pc Ls stk) rfl hsize (Steps.refl _) (argsL := argsL) (rest := st) hlen hst hW hd (fun _ _ => ⟨rfl, eT, hc', hs'⟩)
  dsimp only [Pt.U, Pt.locs, Pt.cells, Pt.slots] at X1 l1 y1 z1 f hQ1 e1
  subst l1 y1 z1
  rw [List.append_nil] at X1
  obtain ⟨w, rfl⟩ := hQ v hQ1
  exact Fz.of (fun t k => f.trans k) (K T1 w ⟨vm0, k0, _, X1, hb, hS, hk, hZ, hown, e1, N, O, HE, CR, HN⟩ hQ1)
theorem declOf {y : MethodName} {bytes : ByteArray} {maxL : Nat} {ret : Option FieldType} (w1 : (Cond.instanceMethod y).before a0 Z = true) (w2 : (Cond.code y bytes maxL ret).before a0 Z = true) : (Cond.declares y).before a0 Z = true := by
  obtain ⟨mk, methM, hnamed, hmethM, hstM, habM⟩ := Cond.instanceMethod_spec w1
  obtain ⟨m2, cM, q1, -, -, -, -, -, -, hsig⟩ := Cond.code_spec hnamed w2
  cases hmethM.symm.trans q1
  simp [Cond.before, Cond.holds, Cond.value, hnamed, hmethM, hstM, hsig]
theorem nfOf {C : String} {y z : MethodName} (hz : z.cls = y.cls) (w : (Cond.selects C z z).before a0 Z = true) : ∀ s' : State, Z.Warmed39 s'.vm → NotFace s' y := fun s' hZ r0 h0 => by
  obtain ⟨c2, r2, m2, -, -, q3, -, kP, hkP, hkPi⟩ := Cond.selects_spec (mvT (args := #[]) hZ w)
  have hc := findClass_of_methodNamed h0
  have hc2 := findClass_of_methodNamed q3
  rw [hz] at hc2
  have e : m2.cls = r0.cls := Option.some.inj (hc2.symm.trans hc)
  exact ⟨kP, e ▸ hkP, hkPi⟩
theorem sameSelf {C : String} {y z : MethodName} (hz : z.cls = y.cls) (hy : y.cls ≠ "java/lang/invoke/MethodHandle" ∧ y.cls ≠ "java/lang/invoke/VarHandle") (w1 : (Cond.instanceMethod y).before a0 Z = true) (w2 : (Cond.selects C z z).before a0 Z = true) : (Cond.sameMethod y.cls y.cls y.name y.desc).before a0 Z = true := by
  obtain ⟨mk, methM, hnamed, hmethM, hstM, habM⟩ := Cond.instanceMethod_spec w1
  obtain ⟨c2, r2, m2, -, -, q3, -, kP, hkP, hkPi⟩ := Cond.selects_spec w2
  have hc := findClass_of_methodNamed hnamed
  have hc2 := findClass_of_methodNamed q3
  rw [hz] at hc2
  have e : m2.cls = mk.cls := Option.some.inj (hc2.symm.trans hc)
  rw [e] at hkP
  have hf := State.methodFound?_of_named hnamed hy
  have hnm : Z.methodNamed? ⟨y.cls, y.name, y.desc⟩ = some mk := hnamed
  simp [Cond.before, Cond.holds, Cond.value, hc, hf, hnm, hkP, hkPi]
end Base
section Facts
variable {Z : State} {a0 : Array Value} {h h' : Heap} {a b x : Addr} {C n d : String} {v w : Value} {ws : List Addr}
/-- a fresh cell is none of the older ones -/
theorem ne_new (hl : a < h.size) (q : x = h.size) : a ≠ x := fun e => by subst e; subst q; exact absurd hl (Nat.lt_irrefl _)
theorem ne_ge (hl : a < h.size) (q : h.size ≤ x) : a ≠ x := fun e => by subst e; exact absurd hl (Nat.not_lt.mpr q)
theorem ge_new (O : Ext Z.heap h) (q : x = h.size) : Z.heap.size ≤ x := by subst q; exact O.1
theorem Ext.refl (h : Heap) : Ext h h := ⟨Nat.le_refl _, fun _ _ q => q⟩
theorem Ext.keep (E : Ext h h') : Keep h h' ws := (Keep.refl h ws).ext E
theorem nin1 (q : a ≠ b) : a ∉ [b] := ninS q nin0
theorem catI (x : Int32) : (Value.int x).category = 1 := rfl
theorem catJ (x : Int64) : (Value.long x).category = 2 := rfl
theorem catR (x : Addr) : (Value.ref x).category = 1 := rfl
theorem catN : Value.null.category = 1 := rfl
theorem cat1 (q : v.isRef = true) : v.category = 1 := by cases v <;> simp [Value.isRef, Value.category] at q ⊢
theorem fits_R {K : String} (q : v.isRef = true) : fits (.object K) v = true := by cases v <;> simp [Value.isRef, fits] at q ⊢
theorem eq_to {args : Array Value} {s : State} {t u : Term} {y : Value} (q : (Cond.eq t u).value args s none s [] = some true) (hu : u.eval args s none [] s = some y) : t.eval args s none [] s = some y := by
  cases ht : t.eval args s none [] s with
  | none => simp [Cond.value, ht] at q
  | some x => cases x <;> cases y <;> simp [Cond.value, ht, hu] at q ⊢ <;> exact q
theorem fld_of {args : Array Value} {s : State} {t : Term} {y : Value} {K nm dd : String} (ht : t.eval args s none [] s = some (.ref x)) (q : (Term.field t K nm dd).eval args s none [] s = some y) : Fld s s.heap x K nm dd y := Fld.start ((fld_at ht).symm.trans q)
theorem sta_of {args : Array Value} {s : State} {K nm dd : String} {y : Value} (ev : (Term.static K nm dd).eval args s none [] s = some y) (h1 : (Cond.initialized K).before args s = true) (h2 : (Cond.laysStatic K nm dd).before args s = true) : Sta s s.heap K nm dd y := Sta.start ev (Or.inr ⟨h1, h2⟩)
theorem sta_for {args : Array Value} {s : State} {K nm dd : String} {y : Value} (ev : (Term.static K nm dd).eval args s none [] s = some y) (h1 : (Cond.initializedFor K nm dd).before args s = true) : Sta s s.heap K nm dd y := Sta.start ev (Or.inl h1)
theorem arv_len {args : Array Value} {s : State} {t : Term} {z : Int32} {cl : Cell} {ty : FieldType} {dv : Value} (hf : Fit s) (A : Arr s s.heap x cl ty) (ev : t.eval args s none [] s = some (.ref x)) (q : (Cond.eq (.length t) (.int z)).value args s none s [] = some true) (hz : ¬ z < 0) (h0 : z.toNatClampNeg = 0) : Arv s s.heap x cl.cls ty z [] dv := by
  have e1 := eq_to q (Term.int_eval z)
  simp only [Term.eval, ev, Option.bind_eq_bind, Option.bind_some, A.fin (Vm.Alike.refl _)] at e1
  split at e1
  · rename_i hs
    have e2 : cl.slots.size.toInt32 = z := by simpa using e1
    exact Arv.start hf A hs e2 hz h0 trivial
  · cases e1
end Facts
end Jvm.Own
namespace Jvm.Pilot.@@N@@
open Jvm Jvm.ClassFile Sem Op Lib Jvm.Free Jvm.Stand Jvm.LawKit Jvm.RoadKit Bundle Jvm.Own Jvm.Pilot.@@N@@.Jvm.D
theorem own_wS {Z : State} {a0 : Array Value} (hw : ∀ d ∈ tables_1, d.before a0 Z = true) : ∀ a ∈ Bundle.stringAtoms, a.before a0 Z = true := fun d hd => by
  simp only [Bundle.stringAtoms, Bundle.sN, List.mem_cons, List.not_mem_nil, or_false] at hd
  rcases hd with rfl | rfl | rfl | rfl | rfl | rfl | rfl
  · exact (hw _ (List.mem_of_getElem? (i := 5) rfl))
  · exact (hw _ (List.mem_of_getElem? (i := 13) rfl))
  · exact (hw _ (List.mem_of_getElem? (i := 17) rfl))
  · exact (hw _ (List.mem_of_getElem? (i := 26) rfl))
  · exact (hw _ (List.mem_of_getElem? (i := 28) rfl))
  · exact (hw _ (List.mem_of_getElem? (i := 110) rfl))
  · exact (hw _ (List.mem_of_getElem? (i := 111) rfl))
def own_EL : List (String × Nat) := [("com/example/amphion/amphion/BeanDefinition", 98), ("com/example/amphion/amphion/BeanDefinition", 104), ("com/example/amphion/amphion/MakingTakesUnfinishedPinLaw", 27)]
theorem own_EW {Z : State} {a0 : Array Value} (hw : ∀ d ∈ tables_1, d.before a0 Z = true) : EW Z a0 own_EL := (EW.cons (hw _ (List.mem_of_getElem? (i := 173) rfl)) (by decide) (EW.cons (hw _ (List.mem_of_getElem? (i := 174) rfl)) (by decide) (EW.cons (hw _ (List.mem_of_getElem? (i := 184) rfl)) (by decide) EW.nil)))
def q_rm_am (h0 h : Heap) : Prop := Keep h0 h []
theorem d10_0 : decode jdk_71_method_1_code 0 = .ok (.aload_n 0, 1) := by decide +kernel
theorem d10_1 : decode jdk_71_method_1_code 1 = .ok (.invokespecial 1, 3) := by decide +kernel
theorem d10_4 : decode jdk_71_method_1_code 4 = .ok (.return_, 1) := by decide +kernel
theorem ef_rm_am (m : MethodId) (x0 : Addr)  : entryFrame m #[(.ref x0)] 1 = mkF m 0 #[.val (.ref x0)] [] := by first | (simp [entryFrame, mkF, argsToLocals, catI, catR, catJ, catN]; done) | rfl
theorem pn_1 : plainName "java/util/AbstractMap" = true := by first | (simp [plainName, overriddenIn]; done) | decide +kernel
set_option maxRecDepth 65536 in
set_option maxHeartbeats 4000000 in
theorem rm_am (l : Launch) (Z : State) (a0 : Array Value) (hw : ∀ d ∈ tables_1, d.before a0 Z = true) (a : Addr) (h0 : Heap) (O0 : Ext Z.heap h0) :
    Met0 true own_EL l Z (⟨"java/util/AbstractMap", "<init>", "()V"⟩ : MethodName) jdk_71_method_1_code 1 (Option.none : Option Jvm.ClassFile.FieldType) [] ({ frames := 1, cells := 0, slots := 0, locals := 12 } : Room) #[(.ref a)] h0 (q_rm_am h0) := by
  refine met_body (plainFor_of_name pn_1) O0 (own_EW hw) ?_
  intro p e s m below meth ck T0 hx hby hml hret hlk hnm G0
  refine Fz.entry (ef_rm_am m a ) ?_
  have K0 : Keep h0 h0 [] := Keep.refl _ _
  refine Jvm.Own.aloadN G0.here hx (hb hby d10_0) rfl rfl (pc' := 1) rfl ?_
  refine Jvm.Own.initObj G0 hx (hb hby d10_1) (hw _ (List.mem_of_getElem? (i := 61) rfl)) (hw _ (List.mem_of_getElem? (i := 23) rfl)) (hw _ (List.mem_of_getElem? (i := 24) rfl)) (by rw [hml]; rfl) (by decide) (W := 0) (Nat.le_of_eq rfl) (by decide) (pc' := 4) rfl ?_
  intro T1 G1
  exact Jvm.Own.ret0 G1 hx (hb hby d10_4) hret hlk (by decide) (by decide) ⟨rfl, K0⟩
def q_rm_ac (h0 h : Heap) : Prop := Keep h0 h []
theorem d13_0 : decode jdk_22_method_1_code 0 = .ok (.aload_n 0, 1) := by decide +kernel
theorem d13_1 : decode jdk_22_method_1_code 1 = .ok (.invokespecial 1, 3) := by decide +kernel
theorem d13_4 : decode jdk_22_method_1_code 4 = .ok (.return_, 1) := by decide +kernel
theorem ef_rm_ac (m : MethodId) (x0 : Addr)  : entryFrame m #[(.ref x0)] 1 = mkF m 0 #[.val (.ref x0)] [] := by first | (simp [entryFrame, mkF, argsToLocals, catI, catR, catJ, catN]; done) | rfl
theorem pn_2 : plainName "java/util/AbstractCollection" = true := by first | (simp [plainName, overriddenIn]; done) | decide +kernel
set_option maxRecDepth 65536 in
set_option maxHeartbeats 4000000 in
theorem rm_ac (l : Launch) (Z : State) (a0 : Array Value) (hw : ∀ d ∈ tables_1, d.before a0 Z = true) (a : Addr) (h0 : Heap) (O0 : Ext Z.heap h0) :
    Met0 true own_EL l Z (⟨"java/util/AbstractCollection", "<init>", "()V"⟩ : MethodName) jdk_22_method_1_code 1 (Option.none : Option Jvm.ClassFile.FieldType) [] ({ frames := 1, cells := 0, slots := 0, locals := 12 } : Room) #[(.ref a)] h0 (q_rm_ac h0) := by
  refine met_body (plainFor_of_name pn_2) O0 (own_EW hw) ?_
  intro p e s m below meth ck T0 hx hby hml hret hlk hnm G0
  refine Fz.entry (ef_rm_ac m a ) ?_
  have K0 : Keep h0 h0 [] := Keep.refl _ _
  refine Jvm.Own.aloadN G0.here hx (hb hby d13_0) rfl rfl (pc' := 1) rfl ?_
  refine Jvm.Own.initObj G0 hx (hb hby d13_1) (hw _ (List.mem_of_getElem? (i := 91) rfl)) (hw _ (List.mem_of_getElem? (i := 23) rfl)) (hw _ (List.mem_of_getElem? (i := 24) rfl)) (by rw [hml]; rfl) (by decide) (W := 0) (Nat.le_of_eq rfl) (by decide) (pc' := 4) rfl ?_
  intro T1 G1
  exact Jvm.Own.ret0 G1 hx (hb hby d13_4) hret hlk (by decide) (by decide) ⟨rfl, K0⟩
def q_rm_hm (Z : State) (h0 : Heap) (a : Addr) (h : Heap) : Prop := Keep h0 h [a] ∧ Exa Z h a "java/util/LinkedHashMap" ∧ Fld Z h a "java/util/LinkedHashMap" "putMode" "I" (.int (0 : Int32)) ∧ Fld Z h a "java/util/LinkedHashMap" "accessOrder" "Z" (.int (0 : Int32))
theorem d9_0 : decode jdk_69_method_7_code 0 = .ok (.aload_n 0, 1) := by decide +kernel
theorem d9_1 : decode jdk_69_method_7_code 1 = .ok (.invokespecial 43, 3) := by decide +kernel
theorem pd_1 : parseMethodDescriptor "()V" = some ⟨[], none⟩ := by decide +kernel
theorem d9_4 : decode jdk_69_method_7_code 4 = .ok (.aload_n 0, 1) := by decide +kernel
theorem d9_5 : decode jdk_69_method_7_code 5 = .ok (.ldc 92, 2) := by decide +kernel
theorem d9_7 : decode jdk_69_method_7_code 7 = .ok (.putfield 81, 3) := by decide +kernel
theorem d9_10 : decode jdk_69_method_7_code 10 = .ok (.return_, 1) := by decide +kernel
theorem ef_rm_hm (m : MethodId) (x0 : Addr)  : entryFrame m #[(.ref x0)] 1 = mkF m 0 #[.val (.ref x0)] [] := by first | (simp [entryFrame, mkF, argsToLocals, catI, catR, catJ, catN]; done) | rfl
theorem pn_3 : plainName "java/util/HashMap" = true := by first | (simp [plainName, overriddenIn]; done) | decide +kernel
set_option maxRecDepth 65536 in
set_option maxHeartbeats 4000000 in
theorem rm_hm (l : Launch) (Z : State) (a0 : Array Value) (hw : ∀ d ∈ tables_1, d.before a0 Z = true) (a : Addr) (h0 : Heap) (O0 : Ext Z.heap h0) (ga : Z.heap.size ≤ a) (Ea : Exa Z h0 a "java/util/LinkedHashMap") (F_loadFactor : Fld Z h0 a "java/util/HashMap" "loadFactor" "F" (.float 0)) (F_putMode : Fld Z h0 a "java/util/LinkedHashMap" "putMode" "I" (.int (0 : Int32))) (F_accessOrder : Fld Z h0 a "java/util/LinkedHashMap" "accessOrder" "Z" (.int (0 : Int32))) :
    Met0 true own_EL l Z (⟨"java/util/HashMap", "<init>", "()V"⟩ : MethodName) jdk_69_method_7_code 1 (Option.none : Option Jvm.ClassFile.FieldType) [] ({ frames := 2, cells := 0, slots := 0, locals := 24 } : Room) #[(.ref a)] h0 (q_rm_hm Z h0 a) := by
  refine met_body (plainFor_of_name pn_3) O0 (own_EW hw) ?_
  intro p e s m below meth ck T0 hx hby hml hret hlk hnm G0
  refine Fz.entry (ef_rm_hm m a ) ?_
  have K0 : Keep h0 h0 [a] := Keep.refl _ _
  refine Jvm.Own.aloadN G0.here hx (hb hby d9_0) rfl rfl (pc' := 1) rfl ?_
  refine Jvm.Own.callI0 (y := (⟨"java/util/AbstractMap", "<init>", "()V"⟩ : MethodName)) G0 hx (hb hby d9_1) rfl (hw _ (List.mem_of_getElem? (i := 55) rfl)) (hw _ (List.mem_of_getElem? (i := 56) rfl)) (hw _ (List.mem_of_getElem? (i := 59) rfl)) (hw _ (List.mem_of_getElem? (i := 60) rfl)) (by decide) (rm_am l Z a0 hw a h0 G0.old) (by decide) (W := 0) (by decide) (by rw [hml]; rfl) (argsL := []) (lenOf pd_1 rfl) rfl (Nat.le_of_eq rfl) (cells' := 0) rfl (by decide) (slots' := 0) rfl (by decide) (pc' := 4) rfl ?_
  intro T1 h1 G1 Q1
  have K1 := Q1
  have K2 : Keep h0 h1 [a] := K0.trans K1 all0
  refine Jvm.Own.aloadN G1.here hx (hb hby d9_4) rfl rfl (pc' := 5) rfl ?_
  refine Jvm.Own.ldcF G1 hx (hb hby d9_5) (hw _ (List.mem_of_getElem? (i := 62) rfl)) (pc' := 7) rfl ?_
  have E5 := (Ea.keep K1)
  have F6 := (F_loadFactor.keep K1 nin0)
  refine Jvm.Own.putfield G1 hx (hb hby d9_7) (host := "") (Or.inl (hw _ (List.mem_of_getElem? (i := 63) rfl))) Via.refl F6 E5 (Or.inr ⟨(hw _ (List.mem_of_getElem? (i := 64) rfl)), rfl, hnm⟩) (hw _ (List.mem_of_getElem? (i := 44) rfl)) (ty := .float) (by decide) rfl rfl ga (Or.inr (Or.inl ⟨by decide, by decide⟩)) (pc' := 10) rfl ?_
  intro T4 h4 G4 W4
  have F4 := F6.same W4
  have K7 : Keep h0 h4 [a] := K2.wr W4 (Or.inl (List.mem_of_getElem? (i := 0) rfl))
  have E8 := (E5.wr W4)
  have F9 := ((F_putMode.keep K1 nin0).other W4 (Or.inr (slot_ne (Or.inl (hw _ (List.mem_of_getElem? (i := 66) rfl))) (Or.inr (hw _ (List.mem_of_getElem? (i := 64) rfl))) (by decide) (t := .int) (t' := .float) (by decide) (by decide))))
  have F10 := ((F_accessOrder.keep K1 nin0).other W4 (Or.inr (slot_ne (Or.inr (hw _ (List.mem_of_getElem? (i := 68) rfl))) (Or.inr (hw _ (List.mem_of_getElem? (i := 64) rfl))) (by decide) (t := .boolean) (t' := .float) (by decide) (by decide))))
  exact Jvm.Own.ret0 G4 hx (hb hby d9_10) hret hlk (by decide) (by decide) ⟨rfl, ⟨K7, E8, F9, F10⟩⟩
def q_rm_lh (Z : State) (h0 : Heap) (a : Addr) (h : Heap) : Prop := Keep h0 h [a] ∧ Exa Z h a "java/util/LinkedHashMap"
theorem d8_0 : decode jdk_94_method_16_code 0 = .ok (.aload_n 0, 1) := by decide +kernel
theorem d8_1 : decode jdk_94_method_16_code 1 = .ok (.invokespecial 87, 3) := by decide +kernel
theorem d8_4 : decode jdk_94_method_16_code 4 = .ok (.aload_n 0, 1) := by decide +kernel
theorem d8_5 : decode jdk_94_method_16_code 5 = .ok (.iconst 0, 1) := by decide +kernel
theorem d8_6 : decode jdk_94_method_16_code 6 = .ok (.putfield 1, 3) := by decide +kernel
theorem d8_9 : decode jdk_94_method_16_code 9 = .ok (.aload_n 0, 1) := by decide +kernel
theorem d8_10 : decode jdk_94_method_16_code 10 = .ok (.iconst 0, 1) := by decide +kernel
theorem d8_11 : decode jdk_94_method_16_code 11 = .ok (.putfield 64, 3) := by decide +kernel
theorem d8_14 : decode jdk_94_method_16_code 14 = .ok (.return_, 1) := by decide +kernel
theorem ef_rm_lh (m : MethodId) (x0 : Addr)  : entryFrame m #[(.ref x0)] 1 = mkF m 0 #[.val (.ref x0)] [] := by first | (simp [entryFrame, mkF, argsToLocals, catI, catR, catJ, catN]; done) | rfl
theorem pn_4 : plainName "java/util/LinkedHashMap" = true := by first | (simp [plainName, overriddenIn]; done) | decide +kernel
set_option maxRecDepth 65536 in
set_option maxHeartbeats 4000000 in
theorem rm_lh (l : Launch) (Z : State) (a0 : Array Value) (hw : ∀ d ∈ tables_1, d.before a0 Z = true) (a : Addr) (h0 : Heap) (O0 : Ext Z.heap h0) (ga : Z.heap.size ≤ a) (Ea : Exa Z h0 a "java/util/LinkedHashMap") (F_loadFactor : Fld Z h0 a "java/util/HashMap" "loadFactor" "F" (.float 0)) (F_putMode : Fld Z h0 a "java/util/LinkedHashMap" "putMode" "I" (.int (0 : Int32))) (F_accessOrder : Fld Z h0 a "java/util/LinkedHashMap" "accessOrder" "Z" (.int (0 : Int32))) :
    Met0 true own_EL l Z (⟨"java/util/LinkedHashMap", "<init>", "()V"⟩ : MethodName) jdk_94_method_16_code 1 (Option.none : Option Jvm.ClassFile.FieldType) [] ({ frames := 3, cells := 0, slots := 0, locals := 36 } : Room) #[(.ref a)] h0 (q_rm_lh Z h0 a) := by
  refine met_body (plainFor_of_name pn_4) O0 (own_EW hw) ?_
  intro p e s m below meth ck T0 hx hby hml hret hlk hnm G0
  refine Fz.entry (ef_rm_lh m a ) ?_
  have K0 : Keep h0 h0 [a] := Keep.refl _ _
  refine Jvm.Own.aloadN G0.here hx (hb hby d8_0) rfl rfl (pc' := 1) rfl ?_
  refine Jvm.Own.callI0 (y := (⟨"java/util/HashMap", "<init>", "()V"⟩ : MethodName)) G0 hx (hb hby d8_1) rfl (hw _ (List.mem_of_getElem? (i := 49) rfl)) (hw _ (List.mem_of_getElem? (i := 50) rfl)) (hw _ (List.mem_of_getElem? (i := 53) rfl)) (hw _ (List.mem_of_getElem? (i := 54) rfl)) (by decide) (rm_hm l Z a0 hw a h0 G0.old ga Ea F_loadFactor F_putMode F_accessOrder) (by decide) (W := 0) (by decide) (by rw [hml]; rfl) (argsL := []) (lenOf pd_1 rfl) rfl (Nat.le_of_eq rfl) (cells' := 0) rfl (by decide) (slots' := 0) rfl (by decide) (pc' := 4) rfl ?_
  intro T1 h1 G1 Q1
  obtain ⟨K1, E1, Fp1, Fa1⟩ := Q1
  have K2 : Keep h0 h1 [a] := K0.trans K1 (allS (Or.inl (List.mem_of_getElem? (i := 0) rfl)) all0)
  refine Jvm.Own.aloadN G1.here hx (hb hby d8_4) rfl rfl (pc' := 5) rfl ?_
  refine Jvm.Own.iconst G1.here hx (hb hby d8_5) (v := (0 : Int32)) rfl (pc' := 6) rfl ?_
  refine Jvm.Own.putfield G1 hx (hb hby d8_6) (host := "") (Or.inl (hw _ (List.mem_of_getElem? (i := 65) rfl))) Via.refl Fp1 E1 (Or.inl (hw _ (List.mem_of_getElem? (i := 66) rfl))) (hw _ (List.mem_of_getElem? (i := 44) rfl)) (ty := .int) (by decide) rfl rfl ga (Or.inr (Or.inl ⟨by decide, by decide⟩)) (pc' := 9) rfl ?_
  intro T3 h3 G3 W3
  have F3 := Fp1.same W3
  have K4 : Keep h0 h3 [a] := K2.wr W3 (Or.inl (List.mem_of_getElem? (i := 0) rfl))
  refine Jvm.Own.aloadN G3.here hx (hb hby d8_9) rfl rfl (pc' := 10) rfl ?_
  refine Jvm.Own.iconst G3.here hx (hb hby d8_10) (v := (0 : Int32)) rfl (pc' := 11) rfl ?_
  have E6 := (E1.wr W3)
  have F7 := (Fa1.other W3 (Or.inr (slot_ne (Or.inr (hw _ (List.mem_of_getElem? (i := 68) rfl))) (Or.inl (hw _ (List.mem_of_getElem? (i := 66) rfl))) (by decide) (t := .boolean) (t' := .int) (by decide) (by decide))))
  refine Jvm.Own.putfieldN G3 hx (hb hby d8_11) (hw _ (List.mem_of_getElem? (i := 67) rfl)) Via.refl F7 E6 (Or.inr ⟨(hw _ (List.mem_of_getElem? (i := 68) rfl)), rfl, hnm⟩) (hw _ (List.mem_of_getElem? (i := 44) rfl)) (ty := .boolean) (by decide) (v' := (.int (0 : Int32))) rfl rfl ga (Or.inr (Or.inl ⟨by decide, by decide⟩)) (pc' := 14) rfl ?_
  intro T5 h5 G5 W5
  have F5 := F7.same W5
  have K8 : Keep h0 h5 [a] := K4.wr W5 (Or.inl (List.mem_of_getElem? (i := 0) rfl))
  have E9 := (E6.wr W5)
  exact Jvm.Own.ret0 G5 hx (hb hby d8_14) hret hlk (by decide) (by decide) ⟨rfl, ⟨K8, E9⟩⟩
def q_rm_mp (Z : State) (h0 : Heap) (a : Addr) (h : Heap) : Prop := Keep h0 h [a] ∧ Exa Z h a "com/example/amphion/amphion/MutablePropertyValues"
theorem d7_0 : decode prog_60_method_1_code 0 = .ok (.aload_n 0, 1) := by decide +kernel
theorem d7_1 : decode prog_60_method_1_code 1 = .ok (.invokespecial 1, 3) := by decide +kernel
theorem d7_4 : decode prog_60_method_1_code 4 = .ok (.aload_n 0, 1) := by decide +kernel
theorem d7_5 : decode prog_60_method_1_code 5 = .ok (.new 7, 3) := by decide +kernel
theorem d7_8 : decode prog_60_method_1_code 8 = .ok (.dup, 1) := by decide +kernel
theorem d7_9 : decode prog_60_method_1_code 9 = .ok (.invokespecial 9, 3) := by decide +kernel
theorem d7_12 : decode prog_60_method_1_code 12 = .ok (.putfield 10, 3) := by decide +kernel
theorem d7_15 : decode prog_60_method_1_code 15 = .ok (.return_, 1) := by decide +kernel
theorem ef_rm_mp (m : MethodId) (x0 : Addr)  : entryFrame m #[(.ref x0)] 1 = mkF m 0 #[.val (.ref x0)] [] := by first | (simp [entryFrame, mkF, argsToLocals, catI, catR, catJ, catN]; done) | rfl
theorem pn_5 : plainName "com/example/amphion/amphion/MutablePropertyValues" = true := by first | (simp [plainName, overriddenIn]; done) | decide +kernel
set_option maxRecDepth 65536 in
set_option maxHeartbeats 4000000 in
theorem rm_mp (l : Launch) (Z : State) (a0 : Array Value) (hw : ∀ d ∈ tables_1, d.before a0 Z = true) (a : Addr) (h0 : Heap) (O0 : Ext Z.heap h0) (ga : Z.heap.size ≤ a) (Ea : Exa Z h0 a "com/example/amphion/amphion/MutablePropertyValues") (F_values : Fld Z h0 a "com/example/amphion/amphion/MutablePropertyValues" "values" "Ljava/util/Map;" .null) :
    Met0 true own_EL l Z (⟨"com/example/amphion/amphion/MutablePropertyValues", "<init>", "()V"⟩ : MethodName) prog_60_method_1_code 1 (Option.none : Option Jvm.ClassFile.FieldType) [] ({ frames := 4, cells := 1, slots := 12, locals := 50 } : Room) #[(.ref a)] h0 (q_rm_mp Z h0 a) := by
  refine met_body (plainFor_of_name pn_5) O0 (own_EW hw) ?_
  intro p e s m below meth ck T0 hx hby hml hret hlk hnm G0
  refine Fz.entry (ef_rm_mp m a ) ?_
  have K0 : Keep h0 h0 [a] := Keep.refl _ _
  refine Jvm.Own.aloadN G0.here hx (hb hby d7_0) rfl rfl (pc' := 1) rfl ?_
  refine Jvm.Own.initObj G0 hx (hb hby d7_1) (hw _ (List.mem_of_getElem? (i := 42) rfl)) (hw _ (List.mem_of_getElem? (i := 23) rfl)) (hw _ (List.mem_of_getElem? (i := 24) rfl)) (by rw [hml]; rfl) (by decide) (W := 0) (Nat.le_of_eq rfl) (by decide) (pc' := 4) rfl ?_
  intro T1 G1
  refine Jvm.Own.aloadN G1.here hx (hb hby d7_4) rfl rfl (pc' := 5) rfl ?_
  refine Jvm.Own.new G1 hx (hb hby d7_5) (hw _ (List.mem_of_getElem? (i := 43) rfl)) (hw _ (List.mem_of_getElem? (i := 44) rfl)) (hw _ (List.mem_of_getElem? (i := 45) rfl)) (cells' := 1) rfl (by decide) (slots' := 12) rfl (by decide) (pc' := 8) rfl ?_
  intro T2 h2 b2 z2 G2 X2 E2 D2
  have ga_b2 : Z.heap.size ≤ b2 := ge_new G1.old z2
  have sz_b2 : h0.size ≤ b2 := by rw [z2]; exact K0.1
  have ne3 : a ≠ b2 := ne_new (Ea).lt z2
  have K4 : Keep h0 h2 [a] := K0.ext X2
  have F5 : Fld Z h2 b2 "java/util/HashMap" "loadFactor" "F" (.float 0) := D2 (Or.inr (hw _ (List.mem_of_getElem? (i := 64) rfl))) (ty := .float) (by decide)
  have F6 : Fld Z h2 b2 "java/util/LinkedHashMap" "putMode" "I" (.int (0 : Int32)) := D2 (Or.inl (hw _ (List.mem_of_getElem? (i := 66) rfl))) (ty := .int) (by decide)
  have F7 : Fld Z h2 b2 "java/util/LinkedHashMap" "accessOrder" "Z" (.int (0 : Int32)) := D2 (Or.inr (hw _ (List.mem_of_getElem? (i := 68) rfl))) (ty := .boolean) (by decide)
  refine Jvm.Own.dup G2.here hx (hb hby d7_8) rfl (pc' := 9) rfl ?_
  refine Jvm.Own.callI0 (y := (⟨"java/util/LinkedHashMap", "<init>", "()V"⟩ : MethodName)) G2 hx (hb hby d7_9) rfl (hw _ (List.mem_of_getElem? (i := 46) rfl)) (hw _ (List.mem_of_getElem? (i := 47) rfl)) (hw _ (List.mem_of_getElem? (i := 45) rfl)) (hw _ (List.mem_of_getElem? (i := 48) rfl)) (by decide) (rm_lh l Z a0 hw b2 h2 G2.old ga_b2 E2 F5 F6 F7) (by decide) (W := 2) (by decide) (by rw [hml]; rfl) (argsL := []) (lenOf pd_1 rfl) rfl (Nat.le_of_eq rfl) (cells' := 1) rfl (by decide) (slots' := 12) rfl (by decide) (pc' := 12) rfl ?_
  intro T8 h8 G8 Q8
  obtain ⟨K8, E8⟩ := Q8
  have K9 : Keep h0 h8 [a] := K4.trans K8 (allS (Or.inr sz_b2) all0)
  have E11 := ((Ea.ext X2).keep K8)
  have F12 := ((F_values.ext X2).keep K8 (ninS ne3 nin0))
  refine Jvm.Own.putfield G8 hx (hb hby d7_12) (host := "") (Or.inl (hw _ (List.mem_of_getElem? (i := 69) rfl))) Via.refl F12 E11 (Or.inr ⟨(hw _ (List.mem_of_getElem? (i := 70) rfl)), rfl, hnm⟩) (hw _ (List.mem_of_getElem? (i := 37) rfl)) (ty := (.object "java/util/Map")) (by decide) rfl rfl ga (Or.inr (Or.inl ⟨by decide, by decide⟩)) (pc' := 15) rfl ?_
  intro T10 h10 G10 W10
  have F10 := F12.same W10
  have K13 : Keep h0 h10 [a] := K9.wr W10 (Or.inl (List.mem_of_getElem? (i := 0) rfl))
  have E14 := (E11.wr W10)
  exact Jvm.Own.ret0 G10 hx (hb hby d7_15) hret hlk (by decide) (by decide) ⟨rfl, ⟨K13, E14⟩⟩
def q_rm_ab (Z : State) (h0 : Heap) (a : Addr) (h : Heap) : Prop := Keep h0 h [a] ∧ Exa Z h a "java/util/ArrayList" ∧ Fld Z h a "java/util/ArrayList" "elementData" "[Ljava/lang/Object;" .null
theorem d12_0 : decode jdk_39_method_1_code 0 = .ok (.aload_n 0, 1) := by decide +kernel
theorem d12_1 : decode jdk_39_method_1_code 1 = .ok (.invokespecial 1, 3) := by decide +kernel
theorem d12_4 : decode jdk_39_method_1_code 4 = .ok (.aload_n 0, 1) := by decide +kernel
theorem d12_5 : decode jdk_39_method_1_code 5 = .ok (.iconst 0, 1) := by decide +kernel
theorem d12_6 : decode jdk_39_method_1_code 6 = .ok (.putfield 7, 3) := by decide +kernel
theorem d12_9 : decode jdk_39_method_1_code 9 = .ok (.return_, 1) := by decide +kernel
theorem ef_rm_ab (m : MethodId) (x0 : Addr)  : entryFrame m #[(.ref x0)] 1 = mkF m 0 #[.val (.ref x0)] [] := by first | (simp [entryFrame, mkF, argsToLocals, catI, catR, catJ, catN]; done) | rfl
theorem pn_6 : plainName "java/util/AbstractList" = true := by first | (simp [plainName, overriddenIn]; done) | decide +kernel
set_option maxRecDepth 65536 in
set_option maxHeartbeats 4000000 in
theorem rm_ab (l : Launch) (Z : State) (a0 : Array Value) (hw : ∀ d ∈ tables_1, d.before a0 Z = true) (a : Addr) (h0 : Heap) (O0 : Ext Z.heap h0) (ga : Z.heap.size ≤ a) (Ea : Exa Z h0 a "java/util/ArrayList") (F_modCount : Fld Z h0 a "java/util/AbstractList" "modCount" "I" (.int (0 : Int32))) (F_elementData : Fld Z h0 a "java/util/ArrayList" "elementData" "[Ljava/lang/Object;" .null) :
    Met0 true own_EL l Z (⟨"java/util/AbstractList", "<init>", "()V"⟩ : MethodName) jdk_39_method_1_code 1 (Option.none : Option Jvm.ClassFile.FieldType) [] ({ frames := 2, cells := 0, slots := 0, locals := 24 } : Room) #[(.ref a)] h0 (q_rm_ab Z h0 a) := by
  refine met_body (plainFor_of_name pn_6) O0 (own_EW hw) ?_
  intro p e s m below meth ck T0 hx hby hml hret hlk hnm G0
  refine Fz.entry (ef_rm_ab m a ) ?_
  have K0 : Keep h0 h0 [a] := Keep.refl _ _
  refine Jvm.Own.aloadN G0.here hx (hb hby d12_0) rfl rfl (pc' := 1) rfl ?_
  refine Jvm.Own.callI0 (y := (⟨"java/util/AbstractCollection", "<init>", "()V"⟩ : MethodName)) G0 hx (hb hby d12_1) rfl (hw _ (List.mem_of_getElem? (i := 85) rfl)) (hw _ (List.mem_of_getElem? (i := 86) rfl)) (hw _ (List.mem_of_getElem? (i := 89) rfl)) (hw _ (List.mem_of_getElem? (i := 90) rfl)) (by decide) (rm_ac l Z a0 hw a h0 G0.old) (by decide) (W := 0) (by decide) (by rw [hml]; rfl) (argsL := []) (lenOf pd_1 rfl) rfl (Nat.le_of_eq rfl) (cells' := 0) rfl (by decide) (slots' := 0) rfl (by decide) (pc' := 4) rfl ?_
  intro T1 h1 G1 Q1
  have K1 := Q1
  have K2 : Keep h0 h1 [a] := K0.trans K1 all0
  refine Jvm.Own.aloadN G1.here hx (hb hby d12_4) rfl rfl (pc' := 5) rfl ?_
  refine Jvm.Own.iconst G1.here hx (hb hby d12_5) (v := (0 : Int32)) rfl (pc' := 6) rfl ?_
  have E4 := (Ea.keep K1)
  have F5 := (F_modCount.keep K1 nin0)
  refine Jvm.Own.putfield G1 hx (hb hby d12_6) (host := "") (Or.inl (hw _ (List.mem_of_getElem? (i := 92) rfl))) Via.refl F5 E4 (Or.inl (hw _ (List.mem_of_getElem? (i := 93) rfl))) (hw _ (List.mem_of_getElem? (i := 74) rfl)) (ty := .int) (by decide) rfl rfl ga (Or.inr (Or.inl ⟨by decide, by decide⟩)) (pc' := 9) rfl ?_
  intro T3 h3 G3 W3
  have F3 := F5.same W3
  have K6 : Keep h0 h3 [a] := K2.wr W3 (Or.inl (List.mem_of_getElem? (i := 0) rfl))
  have E7 := (E4.wr W3)
  have F8 := ((F_elementData.keep K1 nin0).other W3 (Or.inr (slot_ne (Or.inl (hw _ (List.mem_of_getElem? (i := 96) rfl))) (Or.inl (hw _ (List.mem_of_getElem? (i := 93) rfl))) (by decide) (t := (.array (.object "java/lang/Object"))) (t' := .int) (by decide) (by decide))))
  exact Jvm.Own.ret0 G3 hx (hb hby d12_9) hret hlk (by decide) (by decide) ⟨rfl, ⟨K6, E7, F8⟩⟩
def q_rm_al (Z : State) (h0 : Heap) (a : Addr) (w_dc : Addr) (w_el : Addr) (h : Heap) : Prop := Keep h0 h [a] ∧ Exa Z h a "java/util/ArrayList"
theorem d11_0 : decode jdk_38_method_2_code 0 = .ok (.aload_n 0, 1) := by decide +kernel
theorem d11_1 : decode jdk_38_method_2_code 1 = .ok (.invokespecial 1, 3) := by decide +kernel
theorem d11_4 : decode jdk_38_method_2_code 4 = .ok (.aload_n 0, 1) := by decide +kernel
theorem d11_5 : decode jdk_38_method_2_code 5 = .ok (.getstatic 39, 3) := by decide +kernel
theorem d11_8 : decode jdk_38_method_2_code 8 = .ok (.putfield 9, 3) := by decide +kernel
theorem d11_11 : decode jdk_38_method_2_code 11 = .ok (.return_, 1) := by decide +kernel
theorem ef_rm_al (m : MethodId) (x0 : Addr)  : entryFrame m #[(.ref x0)] 1 = mkF m 0 #[.val (.ref x0)] [] := by first | (simp [entryFrame, mkF, argsToLocals, catI, catR, catJ, catN]; done) | rfl
theorem pn_7 : plainName "java/util/ArrayList" = true := by first | (simp [plainName, overriddenIn]; done) | decide +kernel
set_option maxRecDepth 65536 in
set_option maxHeartbeats 4000000 in
theorem rm_al (l : Launch) (Z : State) (a0 : Array Value) (hw : ∀ d ∈ tables_1, d.before a0 Z = true) (a : Addr) (w_dc w_el : Addr) (h0 : Heap) (O0 : Ext Z.heap h0) (ga : Z.heap.size ≤ a) (Ea : Exa Z h0 a "java/util/ArrayList") (F_modCount : Fld Z h0 a "java/util/AbstractList" "modCount" "I" (.int (0 : Int32))) (F_elementData : Fld Z h0 a "java/util/ArrayList" "elementData" "[Ljava/lang/Object;" .null) (S_dc : Sta Z Z.heap "java/util/ArrayList" "DEFAULTCAPACITY_EMPTY_ELEMENTDATA" "[Ljava/lang/Object;" (.ref w_dc)) (S_el : Sta Z Z.heap "java/util/ImmutableCollections" "EMPTY_LIST" "Ljava/util/ImmutableCollections$ListN;" (.ref w_el)) :
    Met0 true own_EL l Z (⟨"java/util/ArrayList", "<init>", "()V"⟩ : MethodName) jdk_38_method_2_code 1 (Option.none : Option Jvm.ClassFile.FieldType) [] ({ frames := 3, cells := 0, slots := 0, locals := 36 } : Room) #[(.ref a)] h0 (q_rm_al Z h0 a w_dc w_el) := by
  refine met_body (plainFor_of_name pn_7) O0 (own_EW hw) ?_
  intro p e s m below meth ck T0 hx hby hml hret hlk hnm G0
  refine Fz.entry (ef_rm_al m a ) ?_
  have K0 : Keep h0 h0 [a] := Keep.refl _ _
  refine Jvm.Own.aloadN G0.here hx (hb hby d11_0) rfl rfl (pc' := 1) rfl ?_
  refine Jvm.Own.callI0 (y := (⟨"java/util/AbstractList", "<init>", "()V"⟩ : MethodName)) G0 hx (hb hby d11_1) rfl (hw _ (List.mem_of_getElem? (i := 79) rfl)) (hw _ (List.mem_of_getElem? (i := 80) rfl)) (hw _ (List.mem_of_getElem? (i := 83) rfl)) (hw _ (List.mem_of_getElem? (i := 84) rfl)) (by decide) (rm_ab l Z a0 hw a h0 G0.old ga Ea F_modCount F_elementData) (by decide) (W := 0) (by decide) (by rw [hml]; rfl) (argsL := []) (lenOf pd_1 rfl) rfl (Nat.le_of_eq rfl) (cells' := 0) rfl (by decide) (slots' := 0) rfl (by decide) (pc' := 4) rfl ?_
  intro T1 h1 G1 Q1
  obtain ⟨K1, E1, Fe1⟩ := Q1
  have K2 : Keep h0 h1 [a] := K0.trans K1 (allS (Or.inl (List.mem_of_getElem? (i := 0) rfl)) all0)
  refine Jvm.Own.aloadN G1.here hx (hb hby d11_4) rfl rfl (pc' := 5) rfl ?_
  refine Jvm.Own.getstatic G1 hx (hb hby d11_5) (host := "") (Or.inl (hw _ (List.mem_of_getElem? (i := 94) rfl))) Via.refl S_dc (pc' := 8) rfl ?_
  intro T3 G3
  refine Jvm.Own.putfield G3 hx (hb hby d11_8) (host := "") (Or.inl (hw _ (List.mem_of_getElem? (i := 95) rfl))) Via.refl Fe1 E1 (Or.inl (hw _ (List.mem_of_getElem? (i := 96) rfl))) (hw _ (List.mem_of_getElem? (i := 74) rfl)) (ty := (.array (.object "java/lang/Object"))) (by decide) rfl rfl ga (Or.inr (Or.inl ⟨by decide, by decide⟩)) (pc' := 11) rfl ?_
  intro T4 h4 G4 W4
  have F4 := Fe1.same W4
  have K5 : Keep h0 h4 [a] := K2.wr W4 (Or.inl (List.mem_of_getElem? (i := 0) rfl))
  have E6 := (E1.wr W4)
  exact Jvm.Own.ret0 G4 hx (hb hby d11_11) hret hlk (by decide) (by decide) ⟨rfl, ⟨K5, E6⟩⟩
def q_lo (a : Addr) (w : Value) : Prop := w = .ref a
theorem d14_0 : decode jdk_40_method_36_code 0 = .ok (.getstatic 90, 3) := by decide +kernel
theorem d14_3 : decode jdk_40_method_36_code 3 = .ok (.areturn, 1) := by decide +kernel
theorem ef_rm_lo (m : MethodId)   : entryFrame m #[] 0 = mkF m 0 #[] [] := by first | (simp [entryFrame, mkF, argsToLocals, catI, catR, catJ, catN]; done) | rfl
theorem pn_8 : plainName "java/util/List" = true := by first | (simp [plainName, overriddenIn]; done) | decide +kernel
set_option maxRecDepth 65536 in
set_option maxHeartbeats 4000000 in
theorem rm_lo (l : Launch) (Z : State) (a0 : Array Value) (hw : ∀ d ∈ tables_1, d.before a0 Z = true) (w_dc w_el : Addr) (h0 : Heap) (O0 : Ext Z.heap h0) (S_dc : Sta Z Z.heap "java/util/ArrayList" "DEFAULTCAPACITY_EMPTY_ELEMENTDATA" "[Ljava/lang/Object;" (.ref w_dc)) (S_el : Sta Z Z.heap "java/util/ImmutableCollections" "EMPTY_LIST" "Ljava/util/ImmutableCollections$ListN;" (.ref w_el)) :
    Met1 true own_EL l Z (⟨"java/util/List", "of", "()Ljava/util/List;"⟩ : MethodName) jdk_40_method_36_code 0 (Option.some (Jvm.ClassFile.FieldType.object "java/util/List")) [] ({ frames := 0, cells := 0, slots := 0, locals := 0 } : Room) #[] h0 (fun w h' => h' = h0 ∧ q_lo w_el w) := by
  refine met_body (plainFor_of_name pn_8) O0 (own_EW hw) ?_
  intro p e s m below meth ck T0 hx hby hml hret hlk hnm G0
  refine Fz.entry (ef_rm_lo m  ) ?_
  refine Jvm.Own.getstatic G0 hx (hb hby d14_0) (host := "") (Or.inl (hw _ (List.mem_of_getElem? (i := 105) rfl))) Via.refl S_el (pc' := 3) rfl ?_
  intro T1 G1
  exact Jvm.Own.retA G1 hx (hb hby d14_3) hret hlk rfl rfl rfl (by decide) (by decide) ⟨_, rfl, ⟨rfl, rfl⟩⟩
def q_rm_bd (Z : State) (h0 : Heap) (a : Addr) (w_dc : Addr) (w_el : Addr) (h : Heap) : Prop := Keep h0 h [a] ∧ Exa Z h a "com/example/amphion/amphion/BeanDefinition" ∧ Fld Z h a "com/example/amphion/amphion/BeanDefinition" "scope" "Ljava/lang/String;" .null
theorem d6_0 : decode prog_3_method_1_code 0 = .ok (.aload_n 0, 1) := by decide +kernel
theorem d6_1 : decode prog_3_method_1_code 1 = .ok (.invokespecial 1, 3) := by decide +kernel
theorem d6_4 : decode prog_3_method_1_code 4 = .ok (.aload_n 0, 1) := by decide +kernel
theorem d6_5 : decode prog_3_method_1_code 5 = .ok (.new 7, 3) := by decide +kernel
theorem d6_8 : decode prog_3_method_1_code 8 = .ok (.dup, 1) := by decide +kernel
theorem d6_9 : decode prog_3_method_1_code 9 = .ok (.invokespecial 9, 3) := by decide +kernel
theorem d6_12 : decode prog_3_method_1_code 12 = .ok (.putfield 10, 3) := by decide +kernel
theorem d6_15 : decode prog_3_method_1_code 15 = .ok (.aload_n 0, 1) := by decide +kernel
theorem d6_16 : decode prog_3_method_1_code 16 = .ok (.new 16, 3) := by decide +kernel
theorem d6_19 : decode prog_3_method_1_code 19 = .ok (.dup, 1) := by decide +kernel
theorem d6_20 : decode prog_3_method_1_code 20 = .ok (.invokespecial 18, 3) := by decide +kernel
theorem d6_23 : decode prog_3_method_1_code 23 = .ok (.putfield 19, 3) := by decide +kernel
theorem d6_26 : decode prog_3_method_1_code 26 = .ok (.aload_n 0, 1) := by decide +kernel
theorem d6_27 : decode prog_3_method_1_code 27 = .ok (.new 16, 3) := by decide +kernel
theorem d6_30 : decode prog_3_method_1_code 30 = .ok (.dup, 1) := by decide +kernel
theorem d6_31 : decode prog_3_method_1_code 31 = .ok (.invokespecial 18, 3) := by decide +kernel
theorem d6_34 : decode prog_3_method_1_code 34 = .ok (.putfield 23, 3) := by decide +kernel
theorem d6_37 : decode prog_3_method_1_code 37 = .ok (.aload_n 0, 1) := by decide +kernel
theorem d6_38 : decode prog_3_method_1_code 38 = .ok (.invokestatic 26, 3) := by decide +kernel
theorem pd_2 : parseMethodDescriptor "()Ljava/util/List;" = some ⟨[], some (.object "java/util/List")⟩ := by decide +kernel
theorem d6_41 : decode prog_3_method_1_code 41 = .ok (.putfield 32, 3) := by decide +kernel
theorem d6_44 : decode prog_3_method_1_code 44 = .ok (.aload_n 0, 1) := by decide +kernel
theorem d6_45 : decode prog_3_method_1_code 45 = .ok (.ldc 35, 2) := by decide +kernel
theorem d6_47 : decode prog_3_method_1_code 47 = .ok (.putfield 37, 3) := by decide +kernel
theorem d6_50 : decode prog_3_method_1_code 50 = .ok (.aload_n 0, 1) := by decide +kernel
theorem d6_51 : decode prog_3_method_1_code 51 = .ok (.iconst 1, 1) := by decide +kernel
theorem d6_52 : decode prog_3_method_1_code 52 = .ok (.putfield 41, 3) := by decide +kernel
theorem d6_55 : decode prog_3_method_1_code 55 = .ok (.aload_n 0, 1) := by decide +kernel
theorem d6_56 : decode prog_3_method_1_code 56 = .ok (.aload_n 1, 1) := by decide +kernel
theorem d6_57 : decode prog_3_method_1_code 57 = .ok (.putfield 45, 3) := by decide +kernel
theorem d6_60 : decode prog_3_method_1_code 60 = .ok (.aload_n 0, 1) := by decide +kernel
theorem d6_61 : decode prog_3_method_1_code 61 = .ok (.aload_n 2, 1) := by decide +kernel
theorem d6_62 : decode prog_3_method_1_code 62 = .ok (.putfield 48, 3) := by decide +kernel
theorem d6_65 : decode prog_3_method_1_code 65 = .ok (.aload_n 0, 1) := by decide +kernel
theorem d6_66 : decode prog_3_method_1_code 66 = .ok (.iload_n 3, 1) := by decide +kernel
theorem d6_67 : decode prog_3_method_1_code 67 = .ok (.putfield 51, 3) := by decide +kernel
theorem d6_70 : decode prog_3_method_1_code 70 = .ok (.return_, 1) := by decide +kernel
theorem ef_rm_bd (m : MethodId) (x0 : Addr)  : entryFrame m #[(.ref x0), .null, .null, (.int (-1 : Int32))] 4 = mkF m 0 #[.val (.ref x0), .val .null, .val .null, .val (.int (-1 : Int32))] [] := by first | (simp [entryFrame, mkF, argsToLocals, catI, catR, catJ, catN]; done) | rfl
theorem pn_9 : plainName "com/example/amphion/amphion/BeanDefinition" = true := by first | (simp [plainName, overriddenIn]; done) | decide +kernel
set_option maxRecDepth 65536 in
set_option maxHeartbeats 4000000 in
theorem rm_bd (l : Launch) (Z : State) (a0 : Array Value) (hw : ∀ d ∈ tables_1, d.before a0 Z = true) (a : Addr) (w_dc w_el : Addr) (h0 : Heap) (O0 : Ext Z.heap h0) (ga : Z.heap.size ≤ a) (Ea : Exa Z h0 a "com/example/amphion/amphion/BeanDefinition") (F_propertyValues : Fld Z h0 a "com/example/amphion/amphion/BeanDefinition" "propertyValues" "Lcom/example/amphion/amphion/MutablePropertyValues;" .null) (F_constructorArguments : Fld Z h0 a "com/example/amphion/amphion/BeanDefinition" "constructorArguments" "Ljava/util/List;" .null) (F_qualifiers : Fld Z h0 a "com/example/amphion/amphion/BeanDefinition" "qualifiers" "Ljava/util/List;" .null) (F_dependsOn : Fld Z h0 a "com/example/amphion/amphion/BeanDefinition" "dependsOn" "Ljava/util/List;" .null) (F_autowireMode : Fld Z h0 a "com/example/amphion/amphion/BeanDefinition" "autowireMode" "Ljava/lang/String;" .null) (F_autowireCandidate : Fld Z h0 a "com/example/amphion/amphion/BeanDefinition" "autowireCandidate" "Z" (.int (0 : Int32))) (F_beanClassName : Fld Z h0 a "com/example/amphion/amphion/BeanDefinition" "beanClassName" "Ljava/lang/String;" .null) (F_resource : Fld Z h0 a "com/example/amphion/amphion/BeanDefinition" "resource" "Ljava/lang/String;" .null) (F_lineNumber : Fld Z h0 a "com/example/amphion/amphion/BeanDefinition" "lineNumber" "I" (.int (0 : Int32))) (F_scope : Fld Z h0 a "com/example/amphion/amphion/BeanDefinition" "scope" "Ljava/lang/String;" .null) (S_dc : Sta Z Z.heap "java/util/ArrayList" "DEFAULTCAPACITY_EMPTY_ELEMENTDATA" "[Ljava/lang/Object;" (.ref w_dc)) (S_el : Sta Z Z.heap "java/util/ImmutableCollections" "EMPTY_LIST" "Ljava/util/ImmutableCollections$ListN;" (.ref w_el)) :
    Met0 true own_EL l Z (⟨"com/example/amphion/amphion/BeanDefinition", "<init>", "(Ljava/lang/String;Ljava/lang/String;I)V"⟩ : MethodName) prog_3_method_1_code 4 (Option.none : Option Jvm.ClassFile.FieldType) [] ({ frames := 5, cells := 6, slots := 32, locals := 64 } : Room) #[(.ref a), .null, .null, (.int (-1 : Int32))] h0 (q_rm_bd Z h0 a w_dc w_el) := by
  refine met_body (plainFor_of_name pn_9) O0 (own_EW hw) ?_
  intro p e s m below meth ck T0 hx hby hml hret hlk hnm G0
  refine Fz.entry (ef_rm_bd m a ) ?_
  have K0 : Keep h0 h0 [a] := Keep.refl _ _
  refine Jvm.Own.aloadN G0.here hx (hb hby d6_0) rfl rfl (pc' := 1) rfl ?_
  refine Jvm.Own.initObj G0 hx (hb hby d6_1) (hw _ (List.mem_of_getElem? (i := 35) rfl)) (hw _ (List.mem_of_getElem? (i := 23) rfl)) (hw _ (List.mem_of_getElem? (i := 24) rfl)) (by rw [hml]; rfl) (by decide) (W := 0) (Nat.le_of_eq rfl) (by decide) (pc' := 4) rfl ?_
  intro T1 G1
  refine Jvm.Own.aloadN G1.here hx (hb hby d6_4) rfl rfl (pc' := 5) rfl ?_
  refine Jvm.Own.new G1 hx (hb hby d6_5) (hw _ (List.mem_of_getElem? (i := 36) rfl)) (hw _ (List.mem_of_getElem? (i := 37) rfl)) (hw _ (List.mem_of_getElem? (i := 38) rfl)) (cells' := 1) rfl (by decide) (slots' := 2) rfl (by decide) (pc' := 8) rfl ?_
  intro T2 h2 b2 z2 G2 X2 E2 D2
  have ga_b2 : Z.heap.size ≤ b2 := ge_new G1.old z2
  have sz_b2 : h0.size ≤ b2 := by rw [z2]; exact K0.1
  have ne3 : a ≠ b2 := ne_new (Ea).lt z2
  have K4 : Keep h0 h2 [a] := K0.ext X2
  have F5 : Fld Z h2 b2 "com/example/amphion/amphion/MutablePropertyValues" "values" "Ljava/util/Map;" .null := D2 (Or.inr (hw _ (List.mem_of_getElem? (i := 70) rfl))) (ty := (.object "java/util/Map")) (by decide)
  refine Jvm.Own.dup G2.here hx (hb hby d6_8) rfl (pc' := 9) rfl ?_
  refine Jvm.Own.callI0 (y := (⟨"com/example/amphion/amphion/MutablePropertyValues", "<init>", "()V"⟩ : MethodName)) G2 hx (hb hby d6_9) rfl (hw _ (List.mem_of_getElem? (i := 39) rfl)) (hw _ (List.mem_of_getElem? (i := 40) rfl)) (hw _ (List.mem_of_getElem? (i := 38) rfl)) (hw _ (List.mem_of_getElem? (i := 41) rfl)) (by decide) (rm_mp l Z a0 hw b2 h2 G2.old ga_b2 E2 F5) (by decide) (W := 2) (by decide) (by rw [hml]; rfl) (argsL := []) (lenOf pd_1 rfl) rfl (Nat.le_of_eq rfl) (cells' := 2) rfl (by decide) (slots' := 14) rfl (by decide) (pc' := 12) rfl ?_
  intro T6 h6 G6 Q6
  obtain ⟨K6, E6⟩ := Q6
  have K7 : Keep h0 h6 [a] := K4.trans K6 (allS (Or.inr sz_b2) all0)
  have E9 := ((Ea.ext X2).keep K6)
  have F10 := ((F_propertyValues.ext X2).keep K6 (ninS ne3 nin0))
  refine Jvm.Own.putfield G6 hx (hb hby d6_12) (host := "") (Or.inl (hw _ (List.mem_of_getElem? (i := 71) rfl))) Via.refl F10 E9 (Or.inr ⟨(hw _ (List.mem_of_getElem? (i := 72) rfl)), rfl, hnm⟩) (hw _ (List.mem_of_getElem? (i := 30) rfl)) (ty := (.object "com/example/amphion/amphion/MutablePropertyValues")) (by decide) rfl rfl ga (Or.inr (Or.inl ⟨by decide, by decide⟩)) (pc' := 15) rfl ?_
  intro T8 h8 G8 W8
  have F8 := F10.same W8
  have K11 : Keep h0 h8 [a] := K7.wr W8 (Or.inl (List.mem_of_getElem? (i := 0) rfl))
  refine Jvm.Own.aloadN G8.here hx (hb hby d6_15) rfl rfl (pc' := 16) rfl ?_
  refine Jvm.Own.new G8 hx (hb hby d6_16) (hw _ (List.mem_of_getElem? (i := 73) rfl)) (hw _ (List.mem_of_getElem? (i := 74) rfl)) (hw _ (List.mem_of_getElem? (i := 75) rfl)) (cells' := 3) rfl (by decide) (slots' := 17) rfl (by decide) (pc' := 19) rfl ?_
  intro T12 h12 b12 z12 G12 X12 E12 D12
  have ga_b12 : Z.heap.size ≤ b12 := ge_new G8.old z12
  have sz_b12 : h0.size ≤ b12 := by rw [z12]; exact K11.1
  have E14 := (E9.wr W8)
  have ne13 : a ≠ b12 := ne_new (E14).lt z12
  have E16 := (E6.wr W8)
  have ne15 : b2 ≠ b12 := ne_new (E16).lt z12
  have K17 : Keep h0 h12 [a] := K11.ext X12
  have F18 : Fld Z h12 b12 "java/util/AbstractList" "modCount" "I" (.int (0 : Int32)) := D12 (Or.inl (hw _ (List.mem_of_getElem? (i := 93) rfl))) (ty := .int) (by decide)
  have F19 : Fld Z h12 b12 "java/util/ArrayList" "elementData" "[Ljava/lang/Object;" .null := D12 (Or.inl (hw _ (List.mem_of_getElem? (i := 96) rfl))) (ty := (.array (.object "java/lang/Object"))) (by decide)
  refine Jvm.Own.dup G12.here hx (hb hby d6_19) rfl (pc' := 20) rfl ?_
  refine Jvm.Own.callI0 (y := (⟨"java/util/ArrayList", "<init>", "()V"⟩ : MethodName)) G12 hx (hb hby d6_20) rfl (hw _ (List.mem_of_getElem? (i := 76) rfl)) (hw _ (List.mem_of_getElem? (i := 77) rfl)) (hw _ (List.mem_of_getElem? (i := 75) rfl)) (hw _ (List.mem_of_getElem? (i := 78) rfl)) (by decide) (rm_al l Z a0 hw b12 w_dc w_el h12 G12.old ga_b12 E12 F18 F19 S_dc S_el) (by decide) (W := 2) (by decide) (by rw [hml]; rfl) (argsL := []) (lenOf pd_1 rfl) rfl (Nat.le_of_eq rfl) (cells' := 3) rfl (by decide) (slots' := 17) rfl (by decide) (pc' := 23) rfl ?_
  intro T20 h20 G20 Q20
  obtain ⟨K20, E20⟩ := Q20
  have K21 : Keep h0 h20 [a] := K17.trans K20 (allS (Or.inr sz_b12) all0)
  have E23 := ((E14.ext X12).keep K20)
  have F24 := (((((F_constructorArguments.ext X2).keep K6 (ninS ne3 nin0)).other W8 (Or.inr (slot_ne (Or.inr (hw _ (List.mem_of_getElem? (i := 98) rfl))) (Or.inr (hw _ (List.mem_of_getElem? (i := 72) rfl))) (by decide) (t := (.object "java/util/List")) (t' := (.object "com/example/amphion/amphion/MutablePropertyValues")) (by decide) (by decide)))).ext X12).keep K20 (ninS ne13 nin0))
  refine Jvm.Own.putfield G20 hx (hb hby d6_23) (host := "") (Or.inl (hw _ (List.mem_of_getElem? (i := 97) rfl))) Via.refl F24 E23 (Or.inr ⟨(hw _ (List.mem_of_getElem? (i := 98) rfl)), rfl, hnm⟩) (hw _ (List.mem_of_getElem? (i := 30) rfl)) (ty := (.object "java/util/List")) (by decide) rfl rfl ga (Or.inr (Or.inl ⟨by decide, by decide⟩)) (pc' := 26) rfl ?_
  intro T22 h22 G22 W22
  have F22 := F24.same W22
  have K25 : Keep h0 h22 [a] := K21.wr W22 (Or.inl (List.mem_of_getElem? (i := 0) rfl))
  refine Jvm.Own.aloadN G22.here hx (hb hby d6_26) rfl rfl (pc' := 27) rfl ?_
  refine Jvm.Own.new G22 hx (hb hby d6_27) (hw _ (List.mem_of_getElem? (i := 73) rfl)) (hw _ (List.mem_of_getElem? (i := 74) rfl)) (hw _ (List.mem_of_getElem? (i := 75) rfl)) (cells' := 4) rfl (by decide) (slots' := 20) rfl (by decide) (pc' := 30) rfl ?_
  intro T26 h26 b26 z26 G26 X26 E26 D26
  have ga_b26 : Z.heap.size ≤ b26 := ge_new G22.old z26
  have sz_b26 : h0.size ≤ b26 := by rw [z26]; exact K25.1
  have E28 := (E23.wr W22)
  have ne27 : a ≠ b26 := ne_new (E28).lt z26
  have E30 := (((E16.ext X12).keep K20).wr W22)
  have ne29 : b2 ≠ b26 := ne_new (E30).lt z26
  have E32 := (E20.wr W22)
  have ne31 : b12 ≠ b26 := ne_new (E32).lt z26
  have K33 : Keep h0 h26 [a] := K25.ext X26
  have F34 : Fld Z h26 b26 "java/util/AbstractList" "modCount" "I" (.int (0 : Int32)) := D26 (Or.inl (hw _ (List.mem_of_getElem? (i := 93) rfl))) (ty := .int) (by decide)
  have F35 : Fld Z h26 b26 "java/util/ArrayList" "elementData" "[Ljava/lang/Object;" .null := D26 (Or.inl (hw _ (List.mem_of_getElem? (i := 96) rfl))) (ty := (.array (.object "java/lang/Object"))) (by decide)
  refine Jvm.Own.dup G26.here hx (hb hby d6_30) rfl (pc' := 31) rfl ?_
  refine Jvm.Own.callI0 (y := (⟨"java/util/ArrayList", "<init>", "()V"⟩ : MethodName)) G26 hx (hb hby d6_31) rfl (hw _ (List.mem_of_getElem? (i := 76) rfl)) (hw _ (List.mem_of_getElem? (i := 77) rfl)) (hw _ (List.mem_of_getElem? (i := 75) rfl)) (hw _ (List.mem_of_getElem? (i := 78) rfl)) (by decide) (rm_al l Z a0 hw b26 w_dc w_el h26 G26.old ga_b26 E26 F34 F35 S_dc S_el) (by decide) (W := 2) (by decide) (by rw [hml]; rfl) (argsL := []) (lenOf pd_1 rfl) rfl (Nat.le_of_eq rfl) (cells' := 4) rfl (by decide) (slots' := 20) rfl (by decide) (pc' := 34) rfl ?_
  intro T36 h36 G36 Q36
  obtain ⟨K36, E36⟩ := Q36
  have K37 : Keep h0 h36 [a] := K33.trans K36 (allS (Or.inr sz_b26) all0)
  have E39 := ((E28.ext X26).keep K36)
  have F40 := ((((((((F_qualifiers.ext X2).keep K6 (ninS ne3 nin0)).other W8 (Or.inr (slot_ne (Or.inr (hw _ (List.mem_of_getElem? (i := 100) rfl))) (Or.inr (hw _ (List.mem_of_getElem? (i := 72) rfl))) (by decide) (t := (.object "java/util/List")) (t' := (.object "com/example/amphion/amphion/MutablePropertyValues")) (by decide) (by decide)))).ext X12).keep K20 (ninS ne13 nin0)).other W22 (Or.inr (slot_ne (Or.inr (hw _ (List.mem_of_getElem? (i := 100) rfl))) (Or.inr (hw _ (List.mem_of_getElem? (i := 98) rfl))) (by decide) (t := (.object "java/util/List")) (t' := (.object "java/util/List")) (by decide) (by decide)))).ext X26).keep K36 (ninS ne27 nin0))
  refine Jvm.Own.putfield G36 hx (hb hby d6_34) (host := "") (Or.inl (hw _ (List.mem_of_getElem? (i := 99) rfl))) Via.refl F40 E39 (Or.inr ⟨(hw _ (List.mem_of_getElem? (i := 100) rfl)), rfl, hnm⟩) (hw _ (List.mem_of_getElem? (i := 30) rfl)) (ty := (.object "java/util/List")) (by decide) rfl rfl ga (Or.inr (Or.inl ⟨by decide, by decide⟩)) (pc' := 37) rfl ?_
  intro T38 h38 G38 W38
  have F38 := F40.same W38
  have K41 : Keep h0 h38 [a] := K37.wr W38 (Or.inl (List.mem_of_getElem? (i := 0) rfl))
  refine Jvm.Own.aloadN G38.here hx (hb hby d6_37) rfl rfl (pc' := 38) rfl ?_
  refine Jvm.Own.callSP (y := (⟨"java/util/List", "of", "()Ljava/util/List;"⟩ : MethodName)) G38 hx (hb hby d6_38) (hw _ (List.mem_of_getElem? (i := 101) rfl)) (hw _ (List.mem_of_getElem? (i := 102) rfl)) (hw _ (List.mem_of_getElem? (i := 103) rfl)) (hw _ (List.mem_of_getElem? (i := 104) rfl)) (by decide) (rm_lo l Z a0 hw w_dc w_el h38 G38.old S_dc S_el) (by decide) (W := 1) (by decide) (by rw [hml]; rfl) (argsL := []) (lenOf pd_2 rfl) rfl (Nat.le_of_eq rfl) (cells' := 4) rfl (by decide) (slots' := 20) rfl (by decide) (pc' := 41) rfl ?_
  intro T42 r42 G42 Q42
  obtain rfl : r42 = .ref w_el := Q42
  have E44 := (E39.wr W38)
  have F45 := (((((((((F_dependsOn.ext X2).keep K6 (ninS ne3 nin0)).other W8 (Or.inr (slot_ne (Or.inl (hw _ (List.mem_of_getElem? (i := 108) rfl))) (Or.inr (hw _ (List.mem_of_getElem? (i := 72) rfl))) (by decide) (t := (.object "java/util/List")) (t' := (.object "com/example/amphion/amphion/MutablePropertyValues")) (by decide) (by decide)))).ext X12).keep K20 (ninS ne13 nin0)).other W22 (Or.inr (slot_ne (Or.inl (hw _ (List.mem_of_getElem? (i := 108) rfl))) (Or.inr (hw _ (List.mem_of_getElem? (i := 98) rfl))) (by decide) (t := (.object "java/util/List")) (t' := (.object "java/util/List")) (by decide) (by decide)))).ext X26).keep K36 (ninS ne27 nin0)).other W38 (Or.inr (slot_ne (Or.inl (hw _ (List.mem_of_getElem? (i := 108) rfl))) (Or.inr (hw _ (List.mem_of_getElem? (i := 100) rfl))) (by decide) (t := (.object "java/util/List")) (t' := (.object "java/util/List")) (by decide) (by decide))))
  refine Jvm.Own.putfield G42 hx (hb hby d6_41) (host := "") (Or.inl (hw _ (List.mem_of_getElem? (i := 107) rfl))) Via.refl F45 E44 (Or.inl (hw _ (List.mem_of_getElem? (i := 108) rfl))) (hw _ (List.mem_of_getElem? (i := 30) rfl)) (ty := (.object "java/util/List")) (by decide) rfl rfl ga (Or.inr (Or.inl ⟨by decide, by decide⟩)) (pc' := 44) rfl ?_
  intro T43 h43 G43 W43
  have F43 := F45.same W43
  have K46 : Keep h0 h43 [a] := K41.wr W43 (Or.inl (List.mem_of_getElem? (i := 0) rfl))
  refine Jvm.Own.aloadN G43.here hx (hb hby d6_44) rfl rfl (pc' := 45) rfl ?_
  refine Jvm.Own.ldcO (n := 8) G43 hx (hb hby d6_45) (hw _ (List.mem_of_getElem? (i := 109) rfl)) (own_wS hw) (by decide) (by decide) (cells' := 6) rfl (by decide) (slots' := 32) rfl (by decide) (pc' := 47) rfl ?_
  intro T47 h47 a47 G47 X47
  have K48 : Keep h0 h47 [a] := K46.ext X47
  have E50 := ((E44.wr W43).ext X47)
  have F51 := (((((((((((F_autowireMode.ext X2).keep K6 (ninS ne3 nin0)).other W8 (Or.inr (slot_ne (Or.inl (hw _ (List.mem_of_getElem? (i := 113) rfl))) (Or.inr (hw _ (List.mem_of_getElem? (i := 72) rfl))) (by decide) (t := (.object "java/lang/String")) (t' := (.object "com/example/amphion/amphion/MutablePropertyValues")) (by decide) (by decide)))).ext X12).keep K20 (ninS ne13 nin0)).other W22 (Or.inr (slot_ne (Or.inl (hw _ (List.mem_of_getElem? (i := 113) rfl))) (Or.inr (hw _ (List.mem_of_getElem? (i := 98) rfl))) (by decide) (t := (.object "java/lang/String")) (t' := (.object "java/util/List")) (by decide) (by decide)))).ext X26).keep K36 (ninS ne27 nin0)).other W38 (Or.inr (slot_ne (Or.inl (hw _ (List.mem_of_getElem? (i := 113) rfl))) (Or.inr (hw _ (List.mem_of_getElem? (i := 100) rfl))) (by decide) (t := (.object "java/lang/String")) (t' := (.object "java/util/List")) (by decide) (by decide)))).other W43 (Or.inr (slot_ne (Or.inl (hw _ (List.mem_of_getElem? (i := 113) rfl))) (Or.inl (hw _ (List.mem_of_getElem? (i := 108) rfl))) (by decide) (t := (.object "java/lang/String")) (t' := (.object "java/util/List")) (by decide) (by decide)))).ext X47)
  refine Jvm.Own.putfield G47 hx (hb hby d6_47) (host := "") (Or.inl (hw _ (List.mem_of_getElem? (i := 112) rfl))) Via.refl F51 E50 (Or.inl (hw _ (List.mem_of_getElem? (i := 113) rfl))) (hw _ (List.mem_of_getElem? (i := 30) rfl)) (ty := (.object "java/lang/String")) (by decide) rfl rfl ga (Or.inr (Or.inl ⟨by decide, by decide⟩)) (pc' := 50) rfl ?_
  intro T49 h49 G49 W49
  have F49 := F51.same W49
  have K52 : Keep h0 h49 [a] := K48.wr W49 (Or.inl (List.mem_of_getElem? (i := 0) rfl))
  refine Jvm.Own.aloadN G49.here hx (hb hby d6_50) rfl rfl (pc' := 51) rfl ?_
  refine Jvm.Own.iconst G49.here hx (hb hby d6_51) (v := (1 : Int32)) rfl (pc' := 52) rfl ?_
  have E54 := (E50.wr W49)
  have F55 := ((((((((((((F_autowireCandidate.ext X2).keep K6 (ninS ne3 nin0)).other W8 (Or.inr (slot_ne (Or.inl (hw _ (List.mem_of_getElem? (i := 115) rfl))) (Or.inr (hw _ (List.mem_of_getElem? (i := 72) rfl))) (by decide) (t := .boolean) (t' := (.object "com/example/amphion/amphion/MutablePropertyValues")) (by decide) (by decide)))).ext X12).keep K20 (ninS ne13 nin0)).other W22 (Or.inr (slot_ne (Or.inl (hw _ (List.mem_of_getElem? (i := 115) rfl))) (Or.inr (hw _ (List.mem_of_getElem? (i := 98) rfl))) (by decide) (t := .boolean) (t' := (.object "java/util/List")) (by decide) (by decide)))).ext X26).keep K36 (ninS ne27 nin0)).other W38 (Or.inr (slot_ne (Or.inl (hw _ (List.mem_of_getElem? (i := 115) rfl))) (Or.inr (hw _ (List.mem_of_getElem? (i := 100) rfl))) (by decide) (t := .boolean) (t' := (.object "java/util/List")) (by decide) (by decide)))).other W43 (Or.inr (slot_ne (Or.inl (hw _ (List.mem_of_getElem? (i := 115) rfl))) (Or.inl (hw _ (List.mem_of_getElem? (i := 108) rfl))) (by decide) (t := .boolean) (t' := (.object "java/util/List")) (by decide) (by decide)))).ext X47).other W49 (Or.inr (slot_ne (Or.inl (hw _ (List.mem_of_getElem? (i := 115) rfl))) (Or.inl (hw _ (List.mem_of_getElem? (i := 113) rfl))) (by decide) (t := .boolean) (t' := (.object "java/lang/String")) (by decide) (by decide))))
  refine Jvm.Own.putfieldN G49 hx (hb hby d6_52) (hw _ (List.mem_of_getElem? (i := 114) rfl)) Via.refl F55 E54 (Or.inl (hw _ (List.mem_of_getElem? (i := 115) rfl))) (hw _ (List.mem_of_getElem? (i := 30) rfl)) (ty := .boolean) (by decide) (v' := (.int (1 : Int32))) rfl rfl ga (Or.inr (Or.inl ⟨by decide, by decide⟩)) (pc' := 55) rfl ?_
  intro T53 h53 G53 W53
  have F53 := F55.same W53
  have K56 : Keep h0 h53 [a] := K52.wr W53 (Or.inl (List.mem_of_getElem? (i := 0) rfl))
  refine Jvm.Own.aloadN G53.here hx (hb hby d6_55) rfl rfl (pc' := 56) rfl ?_
  refine Jvm.Own.aloadN G53.here hx (hb hby d6_56) rfl rfl (pc' := 57) rfl ?_
  have E58 := (E54.wr W53)
  have F59 := (((((((((((((F_beanClassName.ext X2).keep K6 (ninS ne3 nin0)).other W8 (Or.inr (slot_ne (Or.inl (hw _ (List.mem_of_getElem? (i := 117) rfl))) (Or.inr (hw _ (List.mem_of_getElem? (i := 72) rfl))) (by decide) (t := (.object "java/lang/String")) (t' := (.object "com/example/amphion/amphion/MutablePropertyValues")) (by decide) (by decide)))).ext X12).keep K20 (ninS ne13 nin0)).other W22 (Or.inr (slot_ne (Or.inl (hw _ (List.mem_of_getElem? (i := 117) rfl))) (Or.inr (hw _ (List.mem_of_getElem? (i := 98) rfl))) (by decide) (t := (.object "java/lang/String")) (t' := (.object "java/util/List")) (by decide) (by decide)))).ext X26).keep K36 (ninS ne27 nin0)).other W38 (Or.inr (slot_ne (Or.inl (hw _ (List.mem_of_getElem? (i := 117) rfl))) (Or.inr (hw _ (List.mem_of_getElem? (i := 100) rfl))) (by decide) (t := (.object "java/lang/String")) (t' := (.object "java/util/List")) (by decide) (by decide)))).other W43 (Or.inr (slot_ne (Or.inl (hw _ (List.mem_of_getElem? (i := 117) rfl))) (Or.inl (hw _ (List.mem_of_getElem? (i := 108) rfl))) (by decide) (t := (.object "java/lang/String")) (t' := (.object "java/util/List")) (by decide) (by decide)))).ext X47).other W49 (Or.inr (slot_ne (Or.inl (hw _ (List.mem_of_getElem? (i := 117) rfl))) (Or.inl (hw _ (List.mem_of_getElem? (i := 113) rfl))) (by decide) (t := (.object "java/lang/String")) (t' := (.object "java/lang/String")) (by decide) (by decide)))).other W53 (Or.inr (slot_ne (Or.inl (hw _ (List.mem_of_getElem? (i := 117) rfl))) (Or.inl (hw _ (List.mem_of_getElem? (i := 115) rfl))) (by decide) (t := (.object "java/lang/String")) (t' := .boolean) (by decide) (by decide))))
  refine Jvm.Own.putfield G53 hx (hb hby d6_57) (host := "") (Or.inl (hw _ (List.mem_of_getElem? (i := 116) rfl))) Via.refl F59 E58 (Or.inl (hw _ (List.mem_of_getElem? (i := 117) rfl))) (hw _ (List.mem_of_getElem? (i := 30) rfl)) (ty := (.object "java/lang/String")) (by decide) rfl rfl ga (Or.inr (Or.inl ⟨by decide, by decide⟩)) (pc' := 60) rfl ?_
  intro T57 h57 G57 W57
  have F57 := F59.same W57
  have K60 : Keep h0 h57 [a] := K56.wr W57 (Or.inl (List.mem_of_getElem? (i := 0) rfl))
  refine Jvm.Own.aloadN G57.here hx (hb hby d6_60) rfl rfl (pc' := 61) rfl ?_
  refine Jvm.Own.aloadN G57.here hx (hb hby d6_61) rfl rfl (pc' := 62) rfl ?_
  have E62 := (E58.wr W57)
  have F63 := ((((((((((((((F_resource.ext X2).keep K6 (ninS ne3 nin0)).other W8 (Or.inr (slot_ne (Or.inr (hw _ (List.mem_of_getElem? (i := 119) rfl))) (Or.inr (hw _ (List.mem_of_getElem? (i := 72) rfl))) (by decide) (t := (.object "java/lang/String")) (t' := (.object "com/example/amphion/amphion/MutablePropertyValues")) (by decide) (by decide)))).ext X12).keep K20 (ninS ne13 nin0)).other W22 (Or.inr (slot_ne (Or.inr (hw _ (List.mem_of_getElem? (i := 119) rfl))) (Or.inr (hw _ (List.mem_of_getElem? (i := 98) rfl))) (by decide) (t := (.object "java/lang/String")) (t' := (.object "java/util/List")) (by decide) (by decide)))).ext X26).keep K36 (ninS ne27 nin0)).other W38 (Or.inr (slot_ne (Or.inr (hw _ (List.mem_of_getElem? (i := 119) rfl))) (Or.inr (hw _ (List.mem_of_getElem? (i := 100) rfl))) (by decide) (t := (.object "java/lang/String")) (t' := (.object "java/util/List")) (by decide) (by decide)))).other W43 (Or.inr (slot_ne (Or.inr (hw _ (List.mem_of_getElem? (i := 119) rfl))) (Or.inl (hw _ (List.mem_of_getElem? (i := 108) rfl))) (by decide) (t := (.object "java/lang/String")) (t' := (.object "java/util/List")) (by decide) (by decide)))).ext X47).other W49 (Or.inr (slot_ne (Or.inr (hw _ (List.mem_of_getElem? (i := 119) rfl))) (Or.inl (hw _ (List.mem_of_getElem? (i := 113) rfl))) (by decide) (t := (.object "java/lang/String")) (t' := (.object "java/lang/String")) (by decide) (by decide)))).other W53 (Or.inr (slot_ne (Or.inr (hw _ (List.mem_of_getElem? (i := 119) rfl))) (Or.inl (hw _ (List.mem_of_getElem? (i := 115) rfl))) (by decide) (t := (.object "java/lang/String")) (t' := .boolean) (by decide) (by decide)))).other W57 (Or.inr (slot_ne (Or.inr (hw _ (List.mem_of_getElem? (i := 119) rfl))) (Or.inl (hw _ (List.mem_of_getElem? (i := 117) rfl))) (by decide) (t := (.object "java/lang/String")) (t' := (.object "java/lang/String")) (by decide) (by decide))))
  refine Jvm.Own.putfield G57 hx (hb hby d6_62) (host := "") (Or.inl (hw _ (List.mem_of_getElem? (i := 118) rfl))) Via.refl F63 E62 (Or.inr ⟨(hw _ (List.mem_of_getElem? (i := 119) rfl)), rfl, hnm⟩) (hw _ (List.mem_of_getElem? (i := 30) rfl)) (ty := (.object "java/lang/String")) (by decide) rfl rfl ga (Or.inr (Or.inl ⟨by decide, by decide⟩)) (pc' := 65) rfl ?_
  intro T61 h61 G61 W61
  have F61 := F63.same W61
  have K64 : Keep h0 h61 [a] := K60.wr W61 (Or.inl (List.mem_of_getElem? (i := 0) rfl))
  refine Jvm.Own.aloadN G61.here hx (hb hby d6_65) rfl rfl (pc' := 66) rfl ?_
  refine Jvm.Own.iloadN G61.here hx (hb hby d6_66) rfl (pc' := 67) rfl ?_
  have E66 := (E62.wr W61)
  have F67 := (((((((((((((((F_lineNumber.ext X2).keep K6 (ninS ne3 nin0)).other W8 (Or.inr (slot_ne (Or.inr (hw _ (List.mem_of_getElem? (i := 121) rfl))) (Or.inr (hw _ (List.mem_of_getElem? (i := 72) rfl))) (by decide) (t := .int) (t' := (.object "com/example/amphion/amphion/MutablePropertyValues")) (by decide) (by decide)))).ext X12).keep K20 (ninS ne13 nin0)).other W22 (Or.inr (slot_ne (Or.inr (hw _ (List.mem_of_getElem? (i := 121) rfl))) (Or.inr (hw _ (List.mem_of_getElem? (i := 98) rfl))) (by decide) (t := .int) (t' := (.object "java/util/List")) (by decide) (by decide)))).ext X26).keep K36 (ninS ne27 nin0)).other W38 (Or.inr (slot_ne (Or.inr (hw _ (List.mem_of_getElem? (i := 121) rfl))) (Or.inr (hw _ (List.mem_of_getElem? (i := 100) rfl))) (by decide) (t := .int) (t' := (.object "java/util/List")) (by decide) (by decide)))).other W43 (Or.inr (slot_ne (Or.inr (hw _ (List.mem_of_getElem? (i := 121) rfl))) (Or.inl (hw _ (List.mem_of_getElem? (i := 108) rfl))) (by decide) (t := .int) (t' := (.object "java/util/List")) (by decide) (by decide)))).ext X47).other W49 (Or.inr (slot_ne (Or.inr (hw _ (List.mem_of_getElem? (i := 121) rfl))) (Or.inl (hw _ (List.mem_of_getElem? (i := 113) rfl))) (by decide) (t := .int) (t' := (.object "java/lang/String")) (by decide) (by decide)))).other W53 (Or.inr (slot_ne (Or.inr (hw _ (List.mem_of_getElem? (i := 121) rfl))) (Or.inl (hw _ (List.mem_of_getElem? (i := 115) rfl))) (by decide) (t := .int) (t' := .boolean) (by decide) (by decide)))).other W57 (Or.inr (slot_ne (Or.inr (hw _ (List.mem_of_getElem? (i := 121) rfl))) (Or.inl (hw _ (List.mem_of_getElem? (i := 117) rfl))) (by decide) (t := .int) (t' := (.object "java/lang/String")) (by decide) (by decide)))).other W61 (Or.inr (slot_ne (Or.inr (hw _ (List.mem_of_getElem? (i := 121) rfl))) (Or.inr (hw _ (List.mem_of_getElem? (i := 119) rfl))) (by decide) (t := .int) (t' := (.object "java/lang/String")) (by decide) (by decide))))
  refine Jvm.Own.putfield G61 hx (hb hby d6_67) (host := "") (Or.inl (hw _ (List.mem_of_getElem? (i := 120) rfl))) Via.refl F67 E66 (Or.inr ⟨(hw _ (List.mem_of_getElem? (i := 121) rfl)), rfl, hnm⟩) (hw _ (List.mem_of_getElem? (i := 30) rfl)) (ty := .int) (by decide) rfl rfl ga (Or.inr (Or.inl ⟨by decide, by decide⟩)) (pc' := 70) rfl ?_
  intro T65 h65 G65 W65
  have F65 := F67.same W65
  have K68 : Keep h0 h65 [a] := K64.wr W65 (Or.inl (List.mem_of_getElem? (i := 0) rfl))
  have E69 := (E66.wr W65)
  have F70 := ((((((((((((((((F_scope.ext X2).keep K6 (ninS ne3 nin0)).other W8 (Or.inr (slot_ne (Or.inl (hw _ (List.mem_of_getElem? (i := 172) rfl))) (Or.inr (hw _ (List.mem_of_getElem? (i := 72) rfl))) (by decide) (t := (.object "java/lang/String")) (t' := (.object "com/example/amphion/amphion/MutablePropertyValues")) (by decide) (by decide)))).ext X12).keep K20 (ninS ne13 nin0)).other W22 (Or.inr (slot_ne (Or.inl (hw _ (List.mem_of_getElem? (i := 172) rfl))) (Or.inr (hw _ (List.mem_of_getElem? (i := 98) rfl))) (by decide) (t := (.object "java/lang/String")) (t' := (.object "java/util/List")) (by decide) (by decide)))).ext X26).keep K36 (ninS ne27 nin0)).other W38 (Or.inr (slot_ne (Or.inl (hw _ (List.mem_of_getElem? (i := 172) rfl))) (Or.inr (hw _ (List.mem_of_getElem? (i := 100) rfl))) (by decide) (t := (.object "java/lang/String")) (t' := (.object "java/util/List")) (by decide) (by decide)))).other W43 (Or.inr (slot_ne (Or.inl (hw _ (List.mem_of_getElem? (i := 172) rfl))) (Or.inl (hw _ (List.mem_of_getElem? (i := 108) rfl))) (by decide) (t := (.object "java/lang/String")) (t' := (.object "java/util/List")) (by decide) (by decide)))).ext X47).other W49 (Or.inr (slot_ne (Or.inl (hw _ (List.mem_of_getElem? (i := 172) rfl))) (Or.inl (hw _ (List.mem_of_getElem? (i := 113) rfl))) (by decide) (t := (.object "java/lang/String")) (t' := (.object "java/lang/String")) (by decide) (by decide)))).other W53 (Or.inr (slot_ne (Or.inl (hw _ (List.mem_of_getElem? (i := 172) rfl))) (Or.inl (hw _ (List.mem_of_getElem? (i := 115) rfl))) (by decide) (t := (.object "java/lang/String")) (t' := .boolean) (by decide) (by decide)))).other W57 (Or.inr (slot_ne (Or.inl (hw _ (List.mem_of_getElem? (i := 172) rfl))) (Or.inl (hw _ (List.mem_of_getElem? (i := 117) rfl))) (by decide) (t := (.object "java/lang/String")) (t' := (.object "java/lang/String")) (by decide) (by decide)))).other W61 (Or.inr (slot_ne (Or.inl (hw _ (List.mem_of_getElem? (i := 172) rfl))) (Or.inr (hw _ (List.mem_of_getElem? (i := 119) rfl))) (by decide) (t := (.object "java/lang/String")) (t' := (.object "java/lang/String")) (by decide) (by decide)))).other W65 (Or.inr (slot_ne (Or.inl (hw _ (List.mem_of_getElem? (i := 172) rfl))) (Or.inr (hw _ (List.mem_of_getElem? (i := 121) rfl))) (by decide) (t := (.object "java/lang/String")) (t' := .int) (by decide) (by decide))))
  exact Jvm.Own.ret0 G65 hx (hb hby d6_70) hret hlk (by decide) (by decide) ⟨rfl, ⟨K68, E69, F70⟩⟩
def q_ce (w : Value) : Prop := w = .int 1
theorem d2_0 : decode jdk_43_method_3_code 0 = .ok (.iload_n 0, 1) := by decide +kernel
theorem d2_1 : decode jdk_43_method_3_code 1 = .ok (.sipush 255, 3) := by decide +kernel
theorem d2_4 : decode jdk_43_method_3_code 4 = .ok (.if_icmp .gt 7, 3) := by decide +kernel
theorem d2_7 : decode jdk_43_method_3_code 7 = .ok (.iconst 1, 1) := by decide +kernel
theorem d2_8 : decode jdk_43_method_3_code 8 = .ok (.goto 4, 3) := by decide +kernel
theorem d2_12 : decode jdk_43_method_3_code 12 = .ok (.ireturn, 1) := by decide +kernel
theorem ef_rm_ce (m : MethodId) (x0 : Int32)  : entryFrame m #[(.int x0)] 1 = mkF m 0 #[.val (.int x0)] [] := by first | (simp [entryFrame, mkF, argsToLocals, catI, catR, catJ, catN]; done) | rfl
theorem pn_10 : plainName "java/lang/StringLatin1" = true := by first | (simp [plainName, overriddenIn]; done) | decide +kernel
set_option maxRecDepth 65536 in
set_option maxHeartbeats 4000000 in
theorem rm_ce (l : Launch) (Z : State) (a0 : Array Value) (hw : ∀ d ∈ tables_1, d.before a0 Z = true) (c : Int32) (h0 : Heap) (O0 : Ext Z.heap h0) (hc : ¬ (255 : Int32) < c) :
    Met1 true own_EL l Z (⟨"java/lang/StringLatin1", "canEncode", "(C)Z"⟩ : MethodName) jdk_43_method_3_code 1 (Option.some Jvm.ClassFile.FieldType.boolean) [] ({ frames := 0, cells := 0, slots := 0, locals := 0 } : Room) #[(.int c)] h0 (fun w h' => h' = h0 ∧ q_ce w) := by
  refine met_body (plainFor_of_name pn_10) O0 (own_EW hw) ?_
  intro p e s m below meth ck T0 hx hby hml hret hlk hnm G0
  refine Fz.entry (ef_rm_ce m c ) ?_
  refine Jvm.Own.iloadN G0.here hx (hb hby d2_0) rfl (pc' := 1) rfl ?_
  refine Jvm.Own.sipush G0.here hx (hb hby d2_1) (v := (255 : Int32)) rfl (pc' := 4) rfl ?_
  refine Jvm.Own.icmpN G0.here hx (hb hby d2_4) (flt (hc : ¬ (255 : Int32) < c)).2.2.1 (pc' := 7) rfl ?_
  refine Jvm.Own.iconst G0.here hx (hb hby d2_7) (v := (1 : Int32)) rfl (pc' := 8) rfl ?_
  refine Jvm.Own.goto G0.here hx (hb hby d2_8) (pc' := 12) (by decide) (by decide) ?_
  exact Jvm.Own.retI G0 hx (hb hby d2_12) hret hlk (by simp) rfl (by decide) (by decide) ⟨_, rfl, ⟨rfl, rfl⟩⟩
def q_tb (h0 : Heap) (w : Value) (h : Heap) : Prop := ∃ b, w = .ref b ∧ h0.size ≤ b ∧ Keep h0 h []
theorem d3_0 : decode jdk_43_method_46_code 0 = .ok (.iconst 1, 1) := by decide +kernel
theorem d3_1 : decode jdk_43_method_46_code 1 = .ok (.newarray .byte, 2) := by decide +kernel
theorem d3_3 : decode jdk_43_method_46_code 3 = .ok (.dup, 1) := by decide +kernel
theorem d3_4 : decode jdk_43_method_46_code 4 = .ok (.iconst 0, 1) := by decide +kernel
theorem d3_5 : decode jdk_43_method_46_code 5 = .ok (.iload_n 0, 1) := by decide +kernel
theorem d3_6 : decode jdk_43_method_46_code 6 = .ok (.i2b, 1) := by decide +kernel
theorem d3_7 : decode jdk_43_method_46_code 7 = .ok (.bastore, 1) := by decide +kernel
theorem d3_8 : decode jdk_43_method_46_code 8 = .ok (.areturn, 1) := by decide +kernel
theorem ef_rm_tb (m : MethodId) (x0 : Int32)  : entryFrame m #[(.int x0)] 1 = mkF m 0 #[.val (.int x0)] [] := by first | (simp [entryFrame, mkF, argsToLocals, catI, catR, catJ, catN]; done) | rfl
set_option maxRecDepth 65536 in
set_option maxHeartbeats 4000000 in
theorem rm_tb (l : Launch) (Z : State) (a0 : Array Value) (hw : ∀ d ∈ tables_1, d.before a0 Z = true) (c : Int32) (h0 : Heap) (O0 : Ext Z.heap h0) :
    Met1 true own_EL l Z (⟨"java/lang/StringLatin1", "toBytes", "(C)[B"⟩ : MethodName) jdk_43_method_46_code 1 (Option.some (Jvm.ClassFile.FieldType.array Jvm.ClassFile.FieldType.byte)) [] ({ frames := 0, cells := 1, slots := 1, locals := 0 } : Room) #[(.int c)] h0 (q_tb h0) := by
  refine met_body (plainFor_of_name pn_10) O0 (own_EW hw) ?_
  intro p e s m below meth ck T0 hx hby hml hret hlk hnm G0
  refine Fz.entry (ef_rm_tb m c ) ?_
  have K0 : Keep h0 h0 [] := Keep.refl _ _
  refine Jvm.Own.iconst G0.here hx (hb hby d3_0) (v := (1 : Int32)) rfl (pc' := 1) rfl ?_
  refine Jvm.Own.newarray G0 hx (hb hby d3_1) (hw _ (List.mem_of_getElem? (i := 17) rfl)) (by decide) (cap := 1) (by decide) (by decide) (cells' := 1) rfl (by decide) (slots' := 1) rfl (by decide) (pc' := 3) rfl ?_
  intro T1 h1 b1 k1 z1 G1 X1 V1
  have ga_b1 : Z.heap.size ≤ b1 := ge_new G0.old z1
  have sz_b1 : h0.size ≤ b1 := by rw [z1]; exact K0.1
  have K2 : Keep h0 h1 [] := K0.ext X1
  have V1p : Arv Z h1 b1 k1 .byte (1 : Int32) [(.int (0 : Int32))] (.int (0 : Int32)) := V1.pad (pad_rep [] (.int (0 : Int32)) 1)
  refine Jvm.Own.dup G1.here hx (hb hby d3_3) rfl (pc' := 4) rfl ?_
  refine Jvm.Own.iconst G1.here hx (hb hby d3_4) (v := (0 : Int32)) rfl (pc' := 5) rfl ?_
  refine Jvm.Own.iloadN G1.here hx (hb hby d3_5) rfl (pc' := 6) rfl ?_
  refine Jvm.Own.i2b G1.here hx (hb hby d3_6) (pc' := 7) rfl ?_
  refine Jvm.Own.bastore (a0 := a0) G1 hx (hb hby d3_7) V1p ⟨by decide, by decide⟩ (i := 0) rfl (Nat.le_of_ble_eq_true rfl) ga_b1 (Or.inr (Or.inr (Or.inl (List.mem_of_getElem? (i := 0) rfl)))) (pc' := 8) rfl ?_
  intro T3 h3 G3 W3 V3
  have K4 : Keep h0 h3 [] := K2.wr W3 (Or.inr sz_b1)
  have V3p : Arv Z h3 b1 k1 .byte (1 : Int32) [(.int (nar .byte c.toInt8.toInt32))] (.int (0 : Int32)) := V3
  exact Jvm.Own.retA G3 hx (hb hby d3_8) hret hlk rfl rfl rfl (by decide) (by decide) ⟨_, rfl, ⟨_, rfl, sz_b1, K4⟩⟩
def q_si (Z : State) (h0 : Heap) (a : Addr) (h : Heap) : Prop := Keep h0 h [a] ∧ Exa Z h a "java/lang/String"
theorem d4_0 : decode jdk_42_method_151_code 0 = .ok (.aload_n 0, 1) := by decide +kernel
theorem d4_1 : decode jdk_42_method_151_code 1 = .ok (.invokespecial 1, 3) := by decide +kernel
theorem d4_4 : decode jdk_42_method_151_code 4 = .ok (.aload_n 0, 1) := by decide +kernel
theorem d4_5 : decode jdk_42_method_151_code 5 = .ok (.aload_n 1, 1) := by decide +kernel
theorem d4_6 : decode jdk_42_method_151_code 6 = .ok (.putfield 9, 3) := by decide +kernel
theorem d4_9 : decode jdk_42_method_151_code 9 = .ok (.aload_n 0, 1) := by decide +kernel
theorem d4_10 : decode jdk_42_method_151_code 10 = .ok (.iload_n 2, 1) := by decide +kernel
theorem d4_11 : decode jdk_42_method_151_code 11 = .ok (.putfield 15, 3) := by decide +kernel
theorem d4_14 : decode jdk_42_method_151_code 14 = .ok (.return_, 1) := by decide +kernel
theorem ef_rm_si (m : MethodId) (x0 : Addr) (x1 : Addr)  : entryFrame m #[(.ref x0), (.ref x1), (.int (0 : Int32))] 3 = mkF m 0 #[.val (.ref x0), .val (.ref x1), .val (.int (0 : Int32))] [] := by first | (simp [entryFrame, mkF, argsToLocals, catI, catR, catJ, catN]; done) | rfl
theorem pn_11 : plainName "java/lang/String" = true := by first | (simp [plainName, overriddenIn]; done) | decide +kernel
set_option maxRecDepth 65536 in
set_option maxHeartbeats 4000000 in
theorem rm_si (l : Launch) (Z : State) (a0 : Array Value) (hw : ∀ d ∈ tables_1, d.before a0 Z = true) (a b : Addr) (h0 : Heap) (O0 : Ext Z.heap h0) (ga : Z.heap.size ≤ a) (Ea : Exa Z h0 a "java/lang/String") (Fv : Fld Z h0 a "java/lang/String" "value" "[B" .null) (Fc : Fld Z h0 a "java/lang/String" "coder" "B" (.int (0 : Int32))) :
    Met0 true own_EL l Z (⟨"java/lang/String", "<init>", "([BB)V"⟩ : MethodName) jdk_42_method_151_code 3 (Option.none : Option Jvm.ClassFile.FieldType) [] ({ frames := 1, cells := 0, slots := 0, locals := 12 } : Room) #[(.ref a), (.ref b), (.int (0 : Int32))] h0 (q_si Z h0 a) := by
  refine met_body (plainFor_of_name pn_11) O0 (own_EW hw) ?_
  intro p e s m below meth ck T0 hx hby hml hret hlk hnm G0
  refine Fz.entry (ef_rm_si m a b ) ?_
  have K0 : Keep h0 h0 [a] := Keep.refl _ _
  have G0n := Go.addNull G0 Ea Fv
  refine Jvm.Own.aloadN G0n.here hx (hb hby d4_0) rfl rfl (pc' := 1) rfl ?_
  refine Jvm.Own.initObj G0n hx (hb hby d4_1) (hw _ (List.mem_of_getElem? (i := 22) rfl)) (hw _ (List.mem_of_getElem? (i := 23) rfl)) (hw _ (List.mem_of_getElem? (i := 24) rfl)) (by rw [hml]; rfl) (by decide) (W := 0) (Nat.le_of_eq rfl) (by decide) (pc' := 4) rfl ?_
  intro T1 G1
  refine Jvm.Own.aloadN G1.here hx (hb hby d4_4) rfl rfl (pc' := 5) rfl ?_
  refine Jvm.Own.aloadN G1.here hx (hb hby d4_5) rfl rfl (pc' := 6) rfl ?_
  refine Jvm.Own.putfield G1 hx (hb hby d4_6) (host := "") (Or.inl (hw _ (List.mem_of_getElem? (i := 25) rfl))) Via.refl Fv Ea (Or.inr ⟨(hw _ (List.mem_of_getElem? (i := 26) rfl)), rfl, hnm⟩) (hw _ (List.mem_of_getElem? (i := 13) rfl)) (ty := (.array .byte)) (by decide) rfl rfl ga (Or.inr (Or.inr (List.mem_of_getElem? (i := 0) rfl))) (pc' := 9) rfl ?_
  intro T2 h2 G2 W2
  have F2 := Fv.same W2
  have K3 : Keep h0 h2 [a] := K0.wr W2 (Or.inl (List.mem_of_getElem? (i := 0) rfl))
  refine Jvm.Own.aloadN G2.here hx (hb hby d4_9) rfl rfl (pc' := 10) rfl ?_
  refine Jvm.Own.iloadN G2.here hx (hb hby d4_10) rfl (pc' := 11) rfl ?_
  have E5 := (Ea.wr W2)
  have F6 := (Fc.other W2 (Or.inr (slot_ne (Or.inr (hw _ (List.mem_of_getElem? (i := 28) rfl))) (Or.inr (hw _ (List.mem_of_getElem? (i := 26) rfl))) (by decide) (t := .byte) (t' := (.array .byte)) (by decide) (by decide))))
  refine Jvm.Own.putfieldN G2 hx (hb hby d4_11) (hw _ (List.mem_of_getElem? (i := 27) rfl)) Via.refl F6 E5 (Or.inr ⟨(hw _ (List.mem_of_getElem? (i := 28) rfl)), rfl, hnm⟩) (hw _ (List.mem_of_getElem? (i := 13) rfl)) (ty := .byte) (by decide) (v' := (.int (0 : Int32))) rfl rfl ga (Or.inr (Or.inr (List.mem_of_getElem? (i := 0) rfl))) (pc' := 14) rfl ?_
  intro T4 h4 G4 W4
  have F4 := F6.same W4
  have K7 : Keep h0 h4 [a] := K3.wr W4 (Or.inl (List.mem_of_getElem? (i := 0) rfl))
  have E8 := (E5.wr W4)
  exact Jvm.Own.ret0 G4 hx (hb hby d4_14) hret hlk (by decide) (by decide) ⟨rfl, ⟨K7, E8⟩⟩
def q_vo (Z : State) (h0 : Heap) (w : Value) (h : Heap) : Prop := ∃ a, w = .ref a ∧ h0.size ≤ a ∧ Keep h0 h [] ∧ Exa Z h a "java/lang/String"
theorem d1_0 : decode jdk_42_method_139_code 0 = .ok (.getstatic 38, 3) := by decide +kernel
theorem d1_3 : decode jdk_42_method_139_code 3 = .ok (.ifCond .eq 23, 3) := by decide +kernel
theorem d1_6 : decode jdk_42_method_139_code 6 = .ok (.iload_n 0, 1) := by decide +kernel
theorem d1_7 : decode jdk_42_method_139_code 7 = .ok (.invokestatic 1015, 3) := by decide +kernel
theorem pd_3 : parseMethodDescriptor "(C)Z" = some ⟨[.char], some .boolean⟩ := by decide +kernel
theorem d1_10 : decode jdk_42_method_139_code 10 = .ok (.ifCond .eq 16, 3) := by decide +kernel
theorem d1_13 : decode jdk_42_method_139_code 13 = .ok (.new 10, 3) := by decide +kernel
theorem d1_16 : decode jdk_42_method_139_code 16 = .ok (.dup, 1) := by decide +kernel
theorem d1_17 : decode jdk_42_method_139_code 17 = .ok (.iload_n 0, 1) := by decide +kernel
theorem d1_18 : decode jdk_42_method_139_code 18 = .ok (.invokestatic 1018, 3) := by decide +kernel
theorem pd_4 : parseMethodDescriptor "(C)[B" = some ⟨[.char], some (.array .byte)⟩ := by decide +kernel
theorem d1_21 : decode jdk_42_method_139_code 21 = .ok (.iconst 0, 1) := by decide +kernel
theorem d1_22 : decode jdk_42_method_139_code 22 = .ok (.invokespecial 209, 3) := by decide +kernel
theorem pd_5 : parseMethodDescriptor "([BB)V" = some ⟨[(.array .byte), .byte], none⟩ := by decide +kernel
theorem d1_25 : decode jdk_42_method_139_code 25 = .ok (.areturn, 1) := by decide +kernel
theorem ef_rm_vo (m : MethodId) (x0 : Int32)  : entryFrame m #[(.int x0)] 1 = mkF m 0 #[.val (.int x0)] [] := by first | (simp [entryFrame, mkF, argsToLocals, catI, catR, catJ, catN]; done) | rfl
set_option maxRecDepth 65536 in
set_option maxHeartbeats 4000000 in
theorem rm_vo (l : Launch) (Z : State) (a0 : Array Value) (hw : ∀ d ∈ tables_1, d.before a0 Z = true) (c cs : Int32) (h0 : Heap) (O0 : Ext Z.heap h0) (hc : ¬ (255 : Int32) < c) (S_cs : Sta Z Z.heap "java/lang/String" "COMPACT_STRINGS" "Z" (.int cs)) (ncs : ¬ cs = (0 : Int32)) :
    Met1 true own_EL l Z (⟨"java/lang/String", "valueOf", "(C)Ljava/lang/String;"⟩ : MethodName) jdk_42_method_139_code 1 (Option.some (Jvm.ClassFile.FieldType.object "java/lang/String")) [] ({ frames := 2, cells := 2, slots := 5, locals := 27 } : Room) #[(.int c)] h0 (q_vo Z h0) := by
  refine met_body (plainFor_of_name pn_11) O0 (own_EW hw) ?_
  intro p e s m below meth ck T0 hx hby hml hret hlk hnm G0
  refine Fz.entry (ef_rm_vo m c ) ?_
  have K0 : Keep h0 h0 [] := Keep.refl _ _
  refine Jvm.Own.getstatic G0 hx (hb hby d1_0) (host := "") (Or.inl (hw _ (List.mem_of_getElem? (i := 7) rfl))) Via.refl S_cs (pc' := 3) rfl ?_
  intro T1 G1
  refine Jvm.Own.ifN G1.here hx (hb hby d1_3) ((if0 _ _).trans (feq (ncs : ¬ cs = (0 : Int32))).1) (pc' := 6) rfl ?_
  refine Jvm.Own.iloadN G1.here hx (hb hby d1_6) rfl (pc' := 7) rfl ?_
  refine Jvm.Own.callSP (y := (⟨"java/lang/StringLatin1", "canEncode", "(C)Z"⟩ : MethodName)) G1 hx (hb hby d1_7) (hw _ (List.mem_of_getElem? (i := 8) rfl)) (hw _ (List.mem_of_getElem? (i := 9) rfl)) (hw _ (List.mem_of_getElem? (i := 10) rfl)) (hw _ (List.mem_of_getElem? (i := 11) rfl)) (by decide) (rm_ce l Z a0 hw c h0 G1.old hc) (by decide) (W := 0) (by decide) (by rw [hml]; rfl) (argsL := [(.int c)]) (lenOf pd_3 rfl) rfl (Nat.le_of_eq rfl) (cells' := 0) rfl (by decide) (slots' := 0) rfl (by decide) (pc' := 10) rfl ?_
  intro T2 r2 G2 Q2
  obtain rfl : r2 = .int (1 : Int32) := Q2
  refine Jvm.Own.ifN G2.here hx (hb hby d1_10) ((if0 _ _).trans (feq (by decide : ¬ (1 : Int32) = (0 : Int32))).1) (pc' := 13) rfl ?_
  refine Jvm.Own.new G2 hx (hb hby d1_13) (hw _ (List.mem_of_getElem? (i := 12) rfl)) (hw _ (List.mem_of_getElem? (i := 13) rfl)) (hw _ (List.mem_of_getElem? (i := 5) rfl)) (cells' := 1) rfl (by decide) (slots' := 4) rfl (by decide) (pc' := 16) rfl ?_
  intro T3 h3 b3 z3 G3 X3 E3 D3
  have ga_b3 : Z.heap.size ≤ b3 := ge_new G2.old z3
  have sz_b3 : h0.size ≤ b3 := by rw [z3]; exact K0.1
  have K4 : Keep h0 h3 [] := K0.ext X3
  have F5 : Fld Z h3 b3 "java/lang/String" "value" "[B" .null := D3 (Or.inr (hw _ (List.mem_of_getElem? (i := 26) rfl))) (ty := (.array .byte)) (by decide)
  have F6 : Fld Z h3 b3 "java/lang/String" "coder" "B" (.int (0 : Int32)) := D3 (Or.inr (hw _ (List.mem_of_getElem? (i := 28) rfl))) (ty := .byte) (by decide)
  refine Jvm.Own.dup G3.here hx (hb hby d1_16) rfl (pc' := 17) rfl ?_
  refine Jvm.Own.iloadN G3.here hx (hb hby d1_17) rfl (pc' := 18) rfl ?_
  refine Jvm.Own.callS1 (y := (⟨"java/lang/StringLatin1", "toBytes", "(C)[B"⟩ : MethodName)) G3 hx (hb hby d1_18) (hw _ (List.mem_of_getElem? (i := 14) rfl)) (hw _ (List.mem_of_getElem? (i := 15) rfl)) (hw _ (List.mem_of_getElem? (i := 10) rfl)) (hw _ (List.mem_of_getElem? (i := 16) rfl)) (by decide) (rm_tb l Z a0 hw c h3 G3.old) (by decide) (W := 2) (by decide) (by rw [hml]; rfl) (argsL := [(.int c)]) (lenOf pd_4 rfl) rfl (Nat.le_of_eq rfl) (cells' := 2) rfl (by decide) (slots' := 5) rfl (by decide) (pc' := 21) rfl ?_
  intro T7 h7 r7 G7 Q7
  obtain ⟨t7, rfl, ge7, K7⟩ := Q7
  have ga_t7 : Z.heap.size ≤ t7 := Nat.le_trans G3.old.1 ge7
  have sz_t7 : h0.size ≤ t7 := Nat.le_trans K4.1 ge7
  have ne8 : b3 ≠ t7 := ne_ge (E3).lt ge7
  have K9 : Keep h0 h7 [] := K4.trans K7 all0
  refine Jvm.Own.iconst G7.here hx (hb hby d1_21) (v := (0 : Int32)) rfl (pc' := 22) rfl ?_
  have E10 := (E3.keep K7)
  have F11 := (F5.keep K7 nin0)
  have F12 := (F6.keep K7 nin0)
  refine Jvm.Own.callI0 (y := (⟨"java/lang/String", "<init>", "([BB)V"⟩ : MethodName)) G7 hx (hb hby d1_22) rfl (hw _ (List.mem_of_getElem? (i := 18) rfl)) (hw _ (List.mem_of_getElem? (i := 19) rfl)) (hw _ (List.mem_of_getElem? (i := 5) rfl)) (hw _ (List.mem_of_getElem? (i := 21) rfl)) (by decide) (rm_si l Z a0 hw b3 t7 h7 G7.old ga_b3 E10 F11 F12) (by decide) (W := 1) (by decide) (by rw [hml]; rfl) (argsL := [(.ref t7), (.int (0 : Int32))]) (lenOf pd_5 rfl) rfl (Nat.le_of_eq rfl) (cells' := 2) rfl (by decide) (slots' := 5) rfl (by decide) (pc' := 25) rfl ?_
  intro T13 h13 G13 Q13
  obtain ⟨K13, E13⟩ := Q13
  have K14 : Keep h0 h13 [] := K9.trans K13 (allS (Or.inr sz_b3) all0)
  exact Jvm.Own.retA G13 hx (hb hby d1_25) hret hlk rfl rfl rfl (by decide) (by decide) ⟨_, rfl, ⟨_, rfl, sz_b3, K14, E13⟩⟩
def q_rm_rec (h0 h : Heap) : Prop := Keep h0 h []
theorem d16_0 : decode jdk_30_method_1_code 0 = .ok (.aload_n 0, 1) := by decide +kernel
theorem d16_1 : decode jdk_30_method_1_code 1 = .ok (.invokespecial 1, 3) := by decide +kernel
theorem d16_4 : decode jdk_30_method_1_code 4 = .ok (.return_, 1) := by decide +kernel
theorem ef_rm_rec (m : MethodId) (x0 : Addr)  : entryFrame m #[(.ref x0)] 1 = mkF m 0 #[.val (.ref x0)] [] := by first | (simp [entryFrame, mkF, argsToLocals, catI, catR, catJ, catN]; done) | rfl
theorem pn_12 : plainName "java/lang/Record" = true := by first | (simp [plainName, overriddenIn]; done) | decide +kernel
set_option maxRecDepth 65536 in
set_option maxHeartbeats 4000000 in
theorem rm_rec (l : Launch) (Z : State) (a0 : Array Value) (hw : ∀ d ∈ tables_1, d.before a0 Z = true) (a : Addr) (h0 : Heap) (O0 : Ext Z.heap h0) :
    Met0 true own_EL l Z (⟨"java/lang/Record", "<init>", "()V"⟩ : MethodName) jdk_30_method_1_code 1 (Option.none : Option Jvm.ClassFile.FieldType) [] ({ frames := 1, cells := 0, slots := 0, locals := 12 } : Room) #[(.ref a)] h0 (q_rm_rec h0) := by
  refine met_body (plainFor_of_name pn_12) O0 (own_EW hw) ?_
  intro p e s m below meth ck T0 hx hby hml hret hlk hnm G0
  refine Fz.entry (ef_rm_rec m a ) ?_
  have K0 : Keep h0 h0 [] := Keep.refl _ _
  refine Jvm.Own.aloadN G0.here hx (hb hby d16_0) rfl rfl (pc' := 1) rfl ?_
  refine Jvm.Own.initObj G0 hx (hb hby d16_1) (hw _ (List.mem_of_getElem? (i := 133) rfl)) (hw _ (List.mem_of_getElem? (i := 23) rfl)) (hw _ (List.mem_of_getElem? (i := 24) rfl)) (by rw [hml]; rfl) (by decide) (W := 0) (Nat.le_of_eq rfl) (by decide) (pc' := 4) rfl ?_
  intro T1 G1
  exact Jvm.Own.ret0 G1 hx (hb hby d16_4) hret hlk (by decide) (by decide) ⟨rfl, K0⟩
theorem own_n01 {k : Int32} (h : k = 0 ∨ k = 1) : narrow .boolean (.int k) = .int k := by rcases h with rfl | rfl <;> rfl
theorem own_f01 {k : Int32} (h : k = 0 ∨ k = 1) : fits .boolean (.int k) = true := by rcases h with rfl | rfl <;> rfl
def q_rm_mk (Z : State) (h0 : Heap) (a : Addr) (nm : Addr) (dfn : Value) (kp : Int32) (pu : Addr) (inn : Value) (h : Heap) : Prop := Keep h0 h [a] ∧ Exa Z h a "com/example/amphion/amphion/Making" ∧ Fld Z h a "com/example/amphion/amphion/Making" "purpose" "Lcom/example/amphion/amphion/Making$Purpose;" (.ref pu) ∧ Fld Z h a "com/example/amphion/amphion/Making" "kept" "Z" (.int kp)
theorem d15_0 : decode prog_50_method_1_code 0 = .ok (.aload_n 0, 1) := by decide +kernel
theorem d15_1 : decode prog_50_method_1_code 1 = .ok (.invokespecial 1, 3) := by decide +kernel
theorem d15_4 : decode prog_50_method_1_code 4 = .ok (.aload_n 0, 1) := by decide +kernel
theorem d15_5 : decode prog_50_method_1_code 5 = .ok (.aload_n 1, 1) := by decide +kernel
theorem d15_6 : decode prog_50_method_1_code 6 = .ok (.putfield 7, 3) := by decide +kernel
theorem d15_9 : decode prog_50_method_1_code 9 = .ok (.aload_n 0, 1) := by decide +kernel
theorem d15_10 : decode prog_50_method_1_code 10 = .ok (.aload_n 2, 1) := by decide +kernel
theorem d15_11 : decode prog_50_method_1_code 11 = .ok (.putfield 13, 3) := by decide +kernel
theorem d15_14 : decode prog_50_method_1_code 14 = .ok (.aload_n 0, 1) := by decide +kernel
theorem d15_15 : decode prog_50_method_1_code 15 = .ok (.iload_n 3, 1) := by decide +kernel
theorem d15_16 : decode prog_50_method_1_code 16 = .ok (.putfield 17, 3) := by decide +kernel
theorem d15_19 : decode prog_50_method_1_code 19 = .ok (.aload_n 0, 1) := by decide +kernel
theorem d15_20 : decode prog_50_method_1_code 20 = .ok (.aload 4, 2) := by decide +kernel
theorem d15_22 : decode prog_50_method_1_code 22 = .ok (.putfield 21, 3) := by decide +kernel
theorem d15_25 : decode prog_50_method_1_code 25 = .ok (.aload_n 0, 1) := by decide +kernel
theorem d15_26 : decode prog_50_method_1_code 26 = .ok (.aload 5, 2) := by decide +kernel
theorem d15_28 : decode prog_50_method_1_code 28 = .ok (.putfield 25, 3) := by decide +kernel
theorem d15_31 : decode prog_50_method_1_code 31 = .ok (.return_, 1) := by decide +kernel
theorem ef_rm_mk (m : MethodId) (x0 : Addr) (x1 : Addr) (x2 : Value) (x3 : Int32) (x4 : Addr) (x5 : Value) (hx2 : x2.category = 1) (hx5 : x5.category = 1) : entryFrame m #[(.ref x0), (.ref x1), x2, (.int x3), (.ref x4), x5] 6 = mkF m 0 #[.val (.ref x0), .val (.ref x1), .val x2, .val (.int x3), .val (.ref x4), .val x5] [] := by first | (simp [entryFrame, mkF, argsToLocals, catI, catR, catJ, catN, hx2, hx5]; done) | rfl
theorem pn_13 : plainName "com/example/amphion/amphion/Making" = true := by first | (simp [plainName, overriddenIn]; done) | decide +kernel
set_option maxRecDepth 65536 in
set_option maxHeartbeats 4000000 in
theorem rm_mk (l : Launch) (Z : State) (a0 : Array Value) (hw : ∀ d ∈ tables_1, d.before a0 Z = true) (a : Addr) (nm : Addr) (dfn : Value) (kp : Int32) (pu : Addr) (inn : Value) (h0 : Heap) (O0 : Ext Z.heap h0) (ga : Z.heap.size ≤ a) (Ea : Exa Z h0 a "com/example/amphion/amphion/Making") (F_name : Fld Z h0 a "com/example/amphion/amphion/Making" "name" "Ljava/lang/String;" .null) (F_definition : Fld Z h0 a "com/example/amphion/amphion/Making" "definition" "Lcom/example/amphion/amphion/BeanDefinition;" .null) (F_kept : Fld Z h0 a "com/example/amphion/amphion/Making" "kept" "Z" (.int (0 : Int32))) (F_purpose : Fld Z h0 a "com/example/amphion/amphion/Making" "purpose" "Lcom/example/amphion/amphion/Making$Purpose;" .null) (F_inner : Fld Z h0 a "com/example/amphion/amphion/Making" "inner" "Lcom/example/amphion/amphion/BeanDefinition;" .null) (hdf : dfn.isRef = true) (hin : inn.isRef = true) (hk1 : narrow .boolean (.int kp) = .int kp) (hk2 : fits .boolean (.int kp) = true) :
    Met0 true own_EL l Z (⟨"com/example/amphion/amphion/Making", "<init>", "(Ljava/lang/String;Lcom/example/amphion/amphion/BeanDefinition;ZLcom/example/amphion/amphion/Making$Purpose;Lcom/example/amphion/amphion/BeanDefinition;)V"⟩ : MethodName) prog_50_method_1_code 6 (Option.none : Option Jvm.ClassFile.FieldType) [] ({ frames := 2, cells := 0, slots := 0, locals := 24 } : Room) #[(.ref a), (.ref nm), dfn, (.int kp), (.ref pu), inn] h0 (q_rm_mk Z h0 a nm dfn kp pu inn) := by
  refine met_body (plainFor_of_name pn_13) O0 (own_EW hw) ?_
  intro p e s m below meth ck T0 hx hby hml hret hlk hnm G0
  refine Fz.entry (ef_rm_mk m a nm dfn kp pu inn (cat1 hdf) (cat1 hin)) ?_
  have K0 : Keep h0 h0 [a] := Keep.refl _ _
  refine Jvm.Own.aloadN G0.here hx (hb hby d15_0) rfl rfl (pc' := 1) rfl ?_
  refine Jvm.Own.callI0 (y := (⟨"java/lang/Record", "<init>", "()V"⟩ : MethodName)) G0 hx (hb hby d15_1) rfl (hw _ (List.mem_of_getElem? (i := 128) rfl)) (hw _ (List.mem_of_getElem? (i := 129) rfl)) (hw _ (List.mem_of_getElem? (i := 131) rfl)) (hw _ (List.mem_of_getElem? (i := 132) rfl)) (by decide) (rm_rec l Z a0 hw a h0 G0.old) (by decide) (W := 0) (by decide) (by rw [hml]; rfl) (argsL := []) (lenOf pd_1 rfl) rfl (Nat.le_of_eq rfl) (cells' := 0) rfl (by decide) (slots' := 0) rfl (by decide) (pc' := 4) rfl ?_
  intro T1 h1 G1 Q1
  have K1 := Q1
  have K2 : Keep h0 h1 [a] := K0.trans K1 all0
  refine Jvm.Own.aloadN G1.here hx (hb hby d15_4) rfl rfl (pc' := 5) rfl ?_
  refine Jvm.Own.aloadN G1.here hx (hb hby d15_5) rfl rfl (pc' := 6) rfl ?_
  have E4 := (Ea.keep K1)
  have F5 := (F_name.keep K1 nin0)
  refine Jvm.Own.putfield G1 hx (hb hby d15_6) (host := "") (Or.inl (hw _ (List.mem_of_getElem? (i := 134) rfl))) Via.refl F5 E4 (Or.inr ⟨(hw _ (List.mem_of_getElem? (i := 135) rfl)), rfl, hnm⟩) (hw _ (List.mem_of_getElem? (i := 123) rfl)) (ty := (.object "java/lang/String")) (by decide) rfl rfl ga (Or.inr (Or.inl ⟨by decide, by decide⟩)) (pc' := 9) rfl ?_
  intro T3 h3 G3 W3
  have F3 := F5.same W3
  have K6 : Keep h0 h3 [a] := K2.wr W3 (Or.inl (List.mem_of_getElem? (i := 0) rfl))
  refine Jvm.Own.aloadN G3.here hx (hb hby d15_9) rfl rfl (pc' := 10) rfl ?_
  refine Jvm.Own.aloadN G3.here hx (hb hby d15_10) rfl hdf (pc' := 11) rfl ?_
  have E8 := (E4.wr W3)
  have F9 := ((F_definition.keep K1 nin0).other W3 (Or.inr (slot_ne (Or.inr (hw _ (List.mem_of_getElem? (i := 137) rfl))) (Or.inr (hw _ (List.mem_of_getElem? (i := 135) rfl))) (by decide) (t := (.object "com/example/amphion/amphion/BeanDefinition")) (t' := (.object "java/lang/String")) (by decide) (by decide))))
  refine Jvm.Own.putfield G3 hx (hb hby d15_11) (host := "") (Or.inl (hw _ (List.mem_of_getElem? (i := 136) rfl))) Via.refl F9 E8 (Or.inr ⟨(hw _ (List.mem_of_getElem? (i := 137) rfl)), rfl, hnm⟩) (hw _ (List.mem_of_getElem? (i := 123) rfl)) (ty := (.object "com/example/amphion/amphion/BeanDefinition")) (by decide) rfl (fits_R hdf) ga (Or.inr (Or.inl ⟨by decide, by decide⟩)) (pc' := 14) rfl ?_
  intro T7 h7 G7 W7
  have F7 := F9.same W7
  have K10 : Keep h0 h7 [a] := K6.wr W7 (Or.inl (List.mem_of_getElem? (i := 0) rfl))
  refine Jvm.Own.aloadN G7.here hx (hb hby d15_14) rfl rfl (pc' := 15) rfl ?_
  refine Jvm.Own.iloadN G7.here hx (hb hby d15_15) rfl (pc' := 16) rfl ?_
  have E12 := (E8.wr W7)
  have F13 := (((F_kept.keep K1 nin0).other W3 (Or.inr (slot_ne (Or.inr (hw _ (List.mem_of_getElem? (i := 139) rfl))) (Or.inr (hw _ (List.mem_of_getElem? (i := 135) rfl))) (by decide) (t := .boolean) (t' := (.object "java/lang/String")) (by decide) (by decide)))).other W7 (Or.inr (slot_ne (Or.inr (hw _ (List.mem_of_getElem? (i := 139) rfl))) (Or.inr (hw _ (List.mem_of_getElem? (i := 137) rfl))) (by decide) (t := .boolean) (t' := (.object "com/example/amphion/amphion/BeanDefinition")) (by decide) (by decide))))
  refine Jvm.Own.putfieldN G7 hx (hb hby d15_16) (hw _ (List.mem_of_getElem? (i := 138) rfl)) Via.refl F13 E12 (Or.inr ⟨(hw _ (List.mem_of_getElem? (i := 139) rfl)), rfl, hnm⟩) (hw _ (List.mem_of_getElem? (i := 123) rfl)) (ty := .boolean) (by decide) (v' := (.int kp)) hk1 hk2 ga (Or.inr (Or.inl ⟨by decide, by decide⟩)) (pc' := 19) rfl ?_
  intro T11 h11 G11 W11
  have F11 := F13.same W11
  have K14 : Keep h0 h11 [a] := K10.wr W11 (Or.inl (List.mem_of_getElem? (i := 0) rfl))
  refine Jvm.Own.aloadN G11.here hx (hb hby d15_19) rfl rfl (pc' := 20) rfl ?_
  refine Jvm.Own.aload G11.here hx (hb hby d15_20) rfl rfl (pc' := 22) rfl ?_
  have E16 := (E12.wr W11)
  have F17 := ((((F_purpose.keep K1 nin0).other W3 (Or.inr (slot_ne (Or.inr (hw _ (List.mem_of_getElem? (i := 141) rfl))) (Or.inr (hw _ (List.mem_of_getElem? (i := 135) rfl))) (by decide) (t := (.object "com/example/amphion/amphion/Making$Purpose")) (t' := (.object "java/lang/String")) (by decide) (by decide)))).other W7 (Or.inr (slot_ne (Or.inr (hw _ (List.mem_of_getElem? (i := 141) rfl))) (Or.inr (hw _ (List.mem_of_getElem? (i := 137) rfl))) (by decide) (t := (.object "com/example/amphion/amphion/Making$Purpose")) (t' := (.object "com/example/amphion/amphion/BeanDefinition")) (by decide) (by decide)))).other W11 (Or.inr (slot_ne (Or.inr (hw _ (List.mem_of_getElem? (i := 141) rfl))) (Or.inr (hw _ (List.mem_of_getElem? (i := 139) rfl))) (by decide) (t := (.object "com/example/amphion/amphion/Making$Purpose")) (t' := .boolean) (by decide) (by decide))))
  refine Jvm.Own.putfield G11 hx (hb hby d15_22) (host := "") (Or.inl (hw _ (List.mem_of_getElem? (i := 140) rfl))) Via.refl F17 E16 (Or.inr ⟨(hw _ (List.mem_of_getElem? (i := 141) rfl)), rfl, hnm⟩) (hw _ (List.mem_of_getElem? (i := 123) rfl)) (ty := (.object "com/example/amphion/amphion/Making$Purpose")) (by decide) rfl rfl ga (Or.inr (Or.inl ⟨by decide, by decide⟩)) (pc' := 25) rfl ?_
  intro T15 h15 G15 W15
  have F15 := F17.same W15
  have K18 : Keep h0 h15 [a] := K14.wr W15 (Or.inl (List.mem_of_getElem? (i := 0) rfl))
  refine Jvm.Own.aloadN G15.here hx (hb hby d15_25) rfl rfl (pc' := 26) rfl ?_
  refine Jvm.Own.aload G15.here hx (hb hby d15_26) rfl hin (pc' := 28) rfl ?_
  have E20 := (E16.wr W15)
  have F21 := (((((F_inner.keep K1 nin0).other W3 (Or.inr (slot_ne (Or.inr (hw _ (List.mem_of_getElem? (i := 143) rfl))) (Or.inr (hw _ (List.mem_of_getElem? (i := 135) rfl))) (by decide) (t := (.object "com/example/amphion/amphion/BeanDefinition")) (t' := (.object "java/lang/String")) (by decide) (by decide)))).other W7 (Or.inr (slot_ne (Or.inr (hw _ (List.mem_of_getElem? (i := 143) rfl))) (Or.inr (hw _ (List.mem_of_getElem? (i := 137) rfl))) (by decide) (t := (.object "com/example/amphion/amphion/BeanDefinition")) (t' := (.object "com/example/amphion/amphion/BeanDefinition")) (by decide) (by decide)))).other W11 (Or.inr (slot_ne (Or.inr (hw _ (List.mem_of_getElem? (i := 143) rfl))) (Or.inr (hw _ (List.mem_of_getElem? (i := 139) rfl))) (by decide) (t := (.object "com/example/amphion/amphion/BeanDefinition")) (t' := .boolean) (by decide) (by decide)))).other W15 (Or.inr (slot_ne (Or.inr (hw _ (List.mem_of_getElem? (i := 143) rfl))) (Or.inr (hw _ (List.mem_of_getElem? (i := 141) rfl))) (by decide) (t := (.object "com/example/amphion/amphion/BeanDefinition")) (t' := (.object "com/example/amphion/amphion/Making$Purpose")) (by decide) (by decide))))
  refine Jvm.Own.putfield G15 hx (hb hby d15_28) (host := "") (Or.inl (hw _ (List.mem_of_getElem? (i := 142) rfl))) Via.refl F21 E20 (Or.inr ⟨(hw _ (List.mem_of_getElem? (i := 143) rfl)), rfl, hnm⟩) (hw _ (List.mem_of_getElem? (i := 123) rfl)) (ty := (.object "com/example/amphion/amphion/BeanDefinition")) (by decide) rfl (fits_R hin) ga (Or.inr (Or.inl ⟨by decide, by decide⟩)) (pc' := 31) rfl ?_
  intro T19 h19 G19 W19
  have F19 := F21.same W19
  have K22 : Keep h0 h19 [a] := K18.wr W19 (Or.inl (List.mem_of_getElem? (i := 0) rfl))
  have E23 := (E20.wr W19)
  have F24 := (F15.other W19 (Or.inr (slot_ne (Or.inr (hw _ (List.mem_of_getElem? (i := 141) rfl))) (Or.inr (hw _ (List.mem_of_getElem? (i := 143) rfl))) (by decide) (t := (.object "com/example/amphion/amphion/Making$Purpose")) (t' := (.object "com/example/amphion/amphion/BeanDefinition")) (by decide) (by decide))))
  have F25 := ((F11.other W15 (Or.inr (slot_ne (Or.inr (hw _ (List.mem_of_getElem? (i := 139) rfl))) (Or.inr (hw _ (List.mem_of_getElem? (i := 141) rfl))) (by decide) (t := .boolean) (t' := (.object "com/example/amphion/amphion/Making$Purpose")) (by decide) (by decide)))).other W19 (Or.inr (slot_ne (Or.inr (hw _ (List.mem_of_getElem? (i := 139) rfl))) (Or.inr (hw _ (List.mem_of_getElem? (i := 143) rfl))) (by decide) (t := .boolean) (t' := (.object "com/example/amphion/amphion/BeanDefinition")) (by decide) (by decide))))
  exact Jvm.Own.ret0 G19 hx (hb hby d15_31) hret hlk (by decide) (by decide) ⟨rfl, ⟨K22, E23, F24, F25⟩⟩
def q_ss (Z : State) (h0 : Heap) (a v : Addr) (h : Heap) : Prop := Keep h0 h [a] ∧ Exa Z h a "com/example/amphion/amphion/BeanDefinition" ∧ Fld Z h a "com/example/amphion/amphion/BeanDefinition" "scope" "Ljava/lang/String;" (.ref v)
theorem d24_0 : decode prog_3_method_11_code 0 = .ok (.aload_n 0, 1) := by decide +kernel
theorem d24_1 : decode prog_3_method_11_code 1 = .ok (.aload_n 1, 1) := by decide +kernel
theorem d24_2 : decode prog_3_method_11_code 2 = .ok (.putfield 95, 3) := by decide +kernel
theorem d24_5 : decode prog_3_method_11_code 5 = .ok (.return_, 1) := by decide +kernel
theorem ef_rm_ss (m : MethodId) (x0 : Addr) (x1 : Addr)  : entryFrame m #[(.ref x0), (.ref x1)] 2 = mkF m 0 #[.val (.ref x0), .val (.ref x1)] [] := by first | (simp [entryFrame, mkF, argsToLocals, catI, catR, catJ, catN]; done) | rfl
set_option maxRecDepth 65536 in
set_option maxHeartbeats 4000000 in
theorem rm_ss (l : Launch) (Z : State) (a0 : Array Value) (hw : ∀ d ∈ tables_1, d.before a0 Z = true) (a v : Addr) (h0 : Heap) (O0 : Ext Z.heap h0) (ga : Z.heap.size ≤ a) (Ea : Exa Z h0 a "com/example/amphion/amphion/BeanDefinition") (Fs : Fld Z h0 a "com/example/amphion/amphion/BeanDefinition" "scope" "Ljava/lang/String;" .null) :
    Met0 true own_EL l Z (⟨"com/example/amphion/amphion/BeanDefinition", "setScope", "(Ljava/lang/String;)V"⟩ : MethodName) prog_3_method_11_code 2 (Option.none : Option Jvm.ClassFile.FieldType) [] ({ frames := 0, cells := 0, slots := 0, locals := 0 } : Room) #[(.ref a), (.ref v)] h0 (q_ss Z h0 a v) := by
  refine met_body (plainFor_of_name pn_9) O0 (own_EW hw) ?_
  intro p e s m below meth ck T0 hx hby hml hret hlk hnm G0
  refine Fz.entry (ef_rm_ss m a v ) ?_
  have K0 : Keep h0 h0 [a] := Keep.refl _ _
  refine Jvm.Own.aloadN G0.here hx (hb hby d24_0) rfl rfl (pc' := 1) rfl ?_
  refine Jvm.Own.aloadN G0.here hx (hb hby d24_1) rfl rfl (pc' := 2) rfl ?_
  refine Jvm.Own.putfield G0 hx (hb hby d24_2) (host := "") (Or.inl (hw _ (List.mem_of_getElem? (i := 171) rfl))) Via.refl Fs Ea (Or.inl (hw _ (List.mem_of_getElem? (i := 172) rfl))) (hw _ (List.mem_of_getElem? (i := 30) rfl)) (ty := (.object "java/lang/String")) (by decide) rfl rfl ga (Or.inr (Or.inl ⟨by decide, by decide⟩)) (pc' := 5) rfl ?_
  intro T1 h1 G1 W1
  have F1 := Fs.same W1
  have K2 : Keep h0 h1 [a] := K0.wr W1 (Or.inl (List.mem_of_getElem? (i := 0) rfl))
  have E3 := (Ea.wr W1)
  exact Jvm.Own.ret0 G1 hx (hb hby d24_5) hret hlk (by decide) (by decide) ⟨rfl, ⟨K2, E3, F1⟩⟩
def q_eq (w : Value) : Prop := w = .int 0 ∨ w = .int 1
def q_gs0 (Z : State) (h0 : Heap) (w : Value) (h : Heap) : Prop := ∃ (s x : Addr) (k : ClassId), w = .ref s ∧ Keep h0 h [] ∧ Exa Z h s "java/lang/String" ∧ Fld Z h s "java/lang/String" "coder" "B" (.int (0 : Int32)) ∧ Fld Z h s "java/lang/String" "value" "[B" (.ref x) ∧ Arv Z h x k .byte (9 : Int32) [(.int (115 : Int32)), (.int (105 : Int32)), (.int (110 : Int32)), (.int (103 : Int32)), (.int (108 : Int32)), (.int (101 : Int32)), (.int (116 : Int32)), (.int (111 : Int32)), (.int (110 : Int32))] (.int (0 : Int32))
def q_gs1 (s : Addr) (w : Value) : Prop := w = .ref s
def q_ip (h0 : Heap) (w : Value) (h : Heap) : Prop := ∃ x : Int32, w = .int x ∧ (x = 0 ∨ x = 1) ∧ Keep h0 h []
theorem d21_0 : decode prog_3_method_10_code 0 = .ok (.aload_n 0, 1) := by decide +kernel
theorem d21_1 : decode prog_3_method_10_code 1 = .ok (.getfield 95, 3) := by decide +kernel
theorem d21_4 : decode prog_3_method_10_code 4 = .ok (.ifnonnull 8, 3) := by decide +kernel
theorem d21_7 : decode prog_3_method_10_code 7 = .ok (.ldc 98, 2) := by decide +kernel
theorem d21_9 : decode prog_3_method_10_code 9 = .ok (.goto 7, 3) := by decide +kernel
theorem d21_16 : decode prog_3_method_10_code 16 = .ok (.areturn, 1) := by decide +kernel
theorem ef_rm_gs0 (m : MethodId) (x0 : Addr)  : entryFrame m #[(.ref x0)] 1 = mkF m 0 #[.val (.ref x0)] [] := by first | (simp [entryFrame, mkF, argsToLocals, catI, catR, catJ, catN]; done) | rfl
set_option maxRecDepth 65536 in
set_option maxHeartbeats 4000000 in
theorem rm_gs0 (l : Launch) (Z : State) (a0 : Array Value) (hw : ∀ d ∈ tables_1, d.before a0 Z = true) (a : Addr) (h0 : Heap) (O0 : Ext Z.heap h0) (Fs : Fld Z h0 a "com/example/amphion/amphion/BeanDefinition" "scope" "Ljava/lang/String;" .null) :
    Met1 true own_EL l Z (⟨"com/example/amphion/amphion/BeanDefinition", "getScope", "()Ljava/lang/String;"⟩ : MethodName) prog_3_method_10_code 1 (Option.some (Jvm.ClassFile.FieldType.object "java/lang/String")) [] ({ frames := 0, cells := 2, slots := 40, locals := 0 } : Room) #[(.ref a)] h0 (q_gs0 Z h0) := by
  refine met_body (plainFor_of_name pn_9) O0 (own_EW hw) ?_
  intro p e s m below meth ck T0 hx hby hml hret hlk hnm G0
  refine Fz.entry (ef_rm_gs0 m a ) ?_
  have K0 : Keep h0 h0 [] := Keep.refl _ _
  refine Jvm.Own.aloadN G0.here hx (hb hby d21_0) rfl rfl (pc' := 1) rfl ?_
  refine Jvm.Own.getfield G0 hx (hb hby d21_1) (host := "") (Or.inl (hw _ (List.mem_of_getElem? (i := 171) rfl))) Via.refl Fs (pc' := 4) rfl ?_
  intro T1 G1
  refine Jvm.Own.ifnonnullN G1.here hx (hb hby d21_4) (pc' := 7) rfl ?_
  refine Jvm.Own.ldcH (n := 36) (vs := [(.int (115 : Int32)), (.int (105 : Int32)), (.int (110 : Int32)), (.int (103 : Int32)), (.int (108 : Int32)), (.int (101 : Int32)), (.int (116 : Int32)), (.int (111 : Int32)), (.int (110 : Int32))]) (z := (9 : Int32)) G1 hx (hb hby d21_7) (hw _ (List.mem_of_getElem? (i := 173) rfl)) (own_wS hw) (List.mem_of_getElem? (i := 0) rfl) ⟨by decide, by rfl⟩ (by decide) (by decide) (by decide) (by decide) (cells' := 2) rfl (by decide) (slots' := 40) rfl (by decide) (pc' := 9) rfl ?_
  intro T2 h2 a2 c2 k2 G2 X2 E2 Fc2 Fv2 V2 N2
  have K4 : Keep h0 h2 [] := K0.ext X2
  refine Jvm.Own.goto G2.here hx (hb hby d21_9) (pc' := 16) (by decide) (by decide) ?_
  exact Jvm.Own.retA G2 hx (hb hby d21_16) hret hlk rfl rfl rfl (by decide) (by decide) ⟨_, rfl, ⟨_, _, _, rfl, K4, E2, Fc2, Fv2, V2⟩⟩
theorem d21_12 : decode prog_3_method_10_code 12 = .ok (.aload_n 0, 1) := by decide +kernel
theorem d21_13 : decode prog_3_method_10_code 13 = .ok (.getfield 95, 3) := by decide +kernel
theorem ef_rm_gs1 (m : MethodId) (x0 : Addr)  : entryFrame m #[(.ref x0)] 1 = mkF m 0 #[.val (.ref x0)] [] := by first | (simp [entryFrame, mkF, argsToLocals, catI, catR, catJ, catN]; done) | rfl
set_option maxRecDepth 65536 in
set_option maxHeartbeats 4000000 in
theorem rm_gs1 (l : Launch) (Z : State) (a0 : Array Value) (hw : ∀ d ∈ tables_1, d.before a0 Z = true) (a sc : Addr) (h0 : Heap) (O0 : Ext Z.heap h0) (Fs : Fld Z h0 a "com/example/amphion/amphion/BeanDefinition" "scope" "Ljava/lang/String;" (.ref sc)) :
    Met1 true own_EL l Z (⟨"com/example/amphion/amphion/BeanDefinition", "getScope", "()Ljava/lang/String;"⟩ : MethodName) prog_3_method_10_code 1 (Option.some (Jvm.ClassFile.FieldType.object "java/lang/String")) [] ({ frames := 0, cells := 0, slots := 0, locals := 0 } : Room) #[(.ref a)] h0 (fun w h' => h' = h0 ∧ q_gs1 sc w) := by
  refine met_body (plainFor_of_name pn_9) O0 (own_EW hw) ?_
  intro p e s m below meth ck T0 hx hby hml hret hlk hnm G0
  refine Fz.entry (ef_rm_gs1 m a ) ?_
  refine Jvm.Own.aloadN G0.here hx (hb hby d21_0) rfl rfl (pc' := 1) rfl ?_
  refine Jvm.Own.getfield G0 hx (hb hby d21_1) (host := "") (Or.inl (hw _ (List.mem_of_getElem? (i := 171) rfl))) Via.refl Fs (pc' := 4) rfl ?_
  intro T1 G1
  refine Jvm.Own.ifnonnullY G1.here hx (hb hby d21_4) (pc' := 12) (by decide) (by decide) ?_
  refine Jvm.Own.aloadN G1.here hx (hb hby d21_12) rfl rfl (pc' := 13) rfl ?_
  refine Jvm.Own.getfield G1 hx (hb hby d21_13) (host := "") (Or.inl (hw _ (List.mem_of_getElem? (i := 171) rfl))) Via.refl Fs (pc' := 16) rfl ?_
  intro T2 G2
  exact Jvm.Own.retA G2 hx (hb hby d21_16) hret hlk rfl rfl rfl (by decide) (by decide) ⟨_, rfl, ⟨rfl, rfl⟩⟩
theorem d20_0 : decode prog_3_method_12_code 0 = .ok (.aload_n 0, 1) := by decide +kernel
theorem d20_1 : decode prog_3_method_12_code 1 = .ok (.invokevirtual 100, 3) := by decide +kernel
theorem pd_6 : parseMethodDescriptor "()Ljava/lang/String;" = some ⟨[], some (.object "java/lang/String")⟩ := by decide +kernel
theorem d20_4 : decode prog_3_method_12_code 4 = .ok (.ldc 104, 2) := by decide +kernel
theorem d20_6 : decode prog_3_method_12_code 6 = .ok (.invokevirtual 106, 3) := by decide +kernel
theorem d23_0 : decode jdk_43_method_13_code 0 = .ok (.aload_n 0, 1) := by decide +kernel
theorem d23_1 : decode jdk_43_method_13_code 1 = .ok (.arraylength, 1) := by decide +kernel
theorem d23_2 : decode jdk_43_method_13_code 2 = .ok (.aload_n 1, 1) := by decide +kernel
theorem d23_3 : decode jdk_43_method_13_code 3 = .ok (.arraylength, 1) := by decide +kernel
theorem d23_4 : decode jdk_43_method_13_code 4 = .ok (.if_icmp .ne 30, 3) := by decide +kernel
theorem d23_7 : decode jdk_43_method_13_code 7 = .ok (.iconst 0, 1) := by decide +kernel
theorem d23_8 : decode jdk_43_method_13_code 8 = .ok (.istore_n 2, 1) := by decide +kernel
theorem d23_9 : decode jdk_43_method_13_code 9 = .ok (.iload_n 2, 1) := by decide +kernel
theorem d23_10 : decode jdk_43_method_13_code 10 = .ok (.aload_n 0, 1) := by decide +kernel
theorem d23_11 : decode jdk_43_method_13_code 11 = .ok (.arraylength, 1) := by decide +kernel
theorem d23_12 : decode jdk_43_method_13_code 12 = .ok (.if_icmp .ge 20, 3) := by decide +kernel
theorem d23_15 : decode jdk_43_method_13_code 15 = .ok (.aload_n 0, 1) := by decide +kernel
theorem d23_16 : decode jdk_43_method_13_code 16 = .ok (.iload_n 2, 1) := by decide +kernel
theorem d23_17 : decode jdk_43_method_13_code 17 = .ok (.baload, 1) := by decide +kernel
theorem d23_18 : decode jdk_43_method_13_code 18 = .ok (.aload_n 1, 1) := by decide +kernel
theorem d23_19 : decode jdk_43_method_13_code 19 = .ok (.iload_n 2, 1) := by decide +kernel
theorem d23_20 : decode jdk_43_method_13_code 20 = .ok (.baload, 1) := by decide +kernel
theorem d23_21 : decode jdk_43_method_13_code 21 = .ok (.if_icmp .eq 5, 3) := by decide +kernel
theorem d23_24 : decode jdk_43_method_13_code 24 = .ok (.iconst 0, 1) := by decide +kernel
theorem d23_25 : decode jdk_43_method_13_code 25 = .ok (.ireturn, 1) := by decide +kernel
theorem ef_rm_le0 (m : MethodId) (x0 : Addr) (x1 : Addr)  : entryFrame m #[(.ref x0), (.ref x1)] 3 = mkF m 0 #[.val (.ref x0), .val (.ref x1), .unset] [] := by first | (simp [entryFrame, mkF, argsToLocals, catI, catR, catJ, catN]; done) | rfl
set_option maxRecDepth 65536 in
set_option maxHeartbeats 4000000 in
theorem rm_le0 (l : Launch) (Z : State) (a0 : Array Value) (hw : ∀ d ∈ tables_1, d.before a0 Z = true) (x z : Addr) (kx kz : ClassId) (h0 : Heap) (O0 : Ext Z.heap h0) (Vx : Arv Z h0 x kx .byte (9 : Int32) [(.int (115 : Int32)), (.int (105 : Int32)), (.int (110 : Int32)), (.int (103 : Int32)), (.int (108 : Int32)), (.int (101 : Int32)), (.int (116 : Int32)), (.int (111 : Int32)), (.int (110 : Int32))] (.int (0 : Int32))) (Vz : Arv Z h0 z kz .byte (9 : Int32) [(.int (112 : Int32)), (.int (114 : Int32)), (.int (111 : Int32)), (.int (116 : Int32)), (.int (111 : Int32)), (.int (116 : Int32)), (.int (121 : Int32)), (.int (112 : Int32)), (.int (101 : Int32))] (.int (0 : Int32))) :
    Met1 true own_EL l Z (⟨"java/lang/StringLatin1", "equals", "([B[B)Z"⟩ : MethodName) jdk_43_method_13_code 3 (Option.some Jvm.ClassFile.FieldType.boolean) [] ({ frames := 0, cells := 0, slots := 0, locals := 0 } : Room) #[(.ref x), (.ref z)] h0 (fun w h' => h' = h0 ∧ w = .int (0 : Int32)) := by
  refine met_body (plainFor_of_name pn_10) O0 (own_EW hw) ?_
  intro p e s m below meth ck T0 hx hby hml hret hlk hnm G0
  refine Fz.entry (ef_rm_le0 m x z ) ?_
  refine Jvm.Own.aloadN G0.here hx (hb hby d23_0) rfl rfl (pc' := 1) rfl ?_
  refine Jvm.Own.arraylength G0 hx (hb hby d23_1) Vx (pc' := 2) rfl ?_
  refine Jvm.Own.aloadN G0.here hx (hb hby d23_2) rfl rfl (pc' := 3) rfl ?_
  refine Jvm.Own.arraylength G0 hx (hb hby d23_3) Vz (pc' := 4) rfl ?_
  refine Jvm.Own.icmpN G0.here hx (hb hby d23_4) (teq (by decide : (9 : Int32) = (9 : Int32))).2 (pc' := 7) rfl ?_
  refine Jvm.Own.iconst G0.here hx (hb hby d23_7) (v := (0 : Int32)) rfl (pc' := 8) rfl ?_
  refine Jvm.Own.istoreN G0.here hx (hb hby d23_8) (Ls' := #[.val (.ref x), .val (.ref z), .val (.int (0 : Int32))]) rfl (pc' := 9) rfl ?_
  refine Jvm.Own.iloadN G0.here hx (hb hby d23_9) rfl (pc' := 10) rfl ?_
  refine Jvm.Own.aloadN G0.here hx (hb hby d23_10) rfl rfl (pc' := 11) rfl ?_
  refine Jvm.Own.arraylength G0 hx (hb hby d23_11) Vx (pc' := 12) rfl ?_
  refine Jvm.Own.icmpN G0.here hx (hb hby d23_12) (tlt (by decide : (0 : Int32) < (9 : Int32))).2.1 (pc' := 15) rfl ?_
  refine Jvm.Own.aloadN G0.here hx (hb hby d23_15) rfl rfl (pc' := 16) rfl ?_
  refine Jvm.Own.iloadN G0.here hx (hb hby d23_16) rfl (pc' := 17) rfl ?_
  refine Jvm.Own.baload G0 hx (hb hby d23_17) Vx ⟨by decide, by decide⟩ (v := (.int (115 : Int32))) rfl (pc' := 18) rfl ?_
  refine Jvm.Own.aloadN G0.here hx (hb hby d23_18) rfl rfl (pc' := 19) rfl ?_
  refine Jvm.Own.iloadN G0.here hx (hb hby d23_19) rfl (pc' := 20) rfl ?_
  refine Jvm.Own.baload G0 hx (hb hby d23_20) Vz ⟨by decide, by decide⟩ (v := (.int (112 : Int32))) rfl (pc' := 21) rfl ?_
  refine Jvm.Own.icmpN G0.here hx (hb hby d23_21) (feq (by decide : ¬ (115 : Int32) = (112 : Int32))).1 (pc' := 24) rfl ?_
  refine Jvm.Own.iconst G0.here hx (hb hby d23_24) (v := (0 : Int32)) rfl (pc' := 25) rfl ?_
  exact Jvm.Own.retI G0 hx (hb hby d23_25) hret hlk (by simp) rfl (by decide) (by decide) ⟨_, rfl, ⟨rfl, rfl⟩⟩
theorem d22_0 : decode jdk_42_method_66_code 0 = .ok (.aload_n 0, 1) := by decide +kernel
theorem d22_1 : decode jdk_42_method_66_code 1 = .ok (.aload_n 1, 1) := by decide +kernel
theorem d22_2 : decode jdk_42_method_66_code 2 = .ok (.if_acmp .ne 5, 3) := by decide +kernel
theorem d22_5 : decode jdk_42_method_66_code 5 = .ok (.iconst 1, 1) := by decide +kernel
theorem d22_6 : decode jdk_42_method_66_code 6 = .ok (.ireturn, 1) := by decide +kernel
theorem d22_7 : decode jdk_42_method_66_code 7 = .ok (.aload_n 1, 1) := by decide +kernel
theorem d22_8 : decode jdk_42_method_66_code 8 = .ok (.instanceof 10, 3) := by decide +kernel
theorem d22_11 : decode jdk_42_method_66_code 11 = .ok (.ifCond .eq 43, 3) := by decide +kernel
theorem d22_14 : decode jdk_42_method_66_code 14 = .ok (.aload_n 1, 1) := by decide +kernel
theorem d22_15 : decode jdk_42_method_66_code 15 = .ok (.checkcast 10, 3) := by decide +kernel
theorem d22_18 : decode jdk_42_method_66_code 18 = .ok (.astore_n 2, 1) := by decide +kernel
theorem d22_19 : decode jdk_42_method_66_code 19 = .ok (.getstatic 38, 3) := by decide +kernel
theorem d22_22 : decode jdk_42_method_66_code 22 = .ok (.ifCond .eq 14, 3) := by decide +kernel
theorem d22_25 : decode jdk_42_method_66_code 25 = .ok (.aload_n 0, 1) := by decide +kernel
theorem d22_26 : decode jdk_42_method_66_code 26 = .ok (.getfield 15, 3) := by decide +kernel
theorem d22_29 : decode jdk_42_method_66_code 29 = .ok (.aload_n 2, 1) := by decide +kernel
theorem d22_30 : decode jdk_42_method_66_code 30 = .ok (.getfield 15, 3) := by decide +kernel
theorem d22_33 : decode jdk_42_method_66_code 33 = .ok (.if_icmp .ne 21, 3) := by decide +kernel
theorem d22_36 : decode jdk_42_method_66_code 36 = .ok (.aload_n 0, 1) := by decide +kernel
theorem d22_37 : decode jdk_42_method_66_code 37 = .ok (.getfield 9, 3) := by decide +kernel
theorem d22_40 : decode jdk_42_method_66_code 40 = .ok (.aload_n 2, 1) := by decide +kernel
theorem d22_41 : decode jdk_42_method_66_code 41 = .ok (.getfield 9, 3) := by decide +kernel
theorem d22_44 : decode jdk_42_method_66_code 44 = .ok (.invokestatic 541, 3) := by decide +kernel
theorem pd_7 : parseMethodDescriptor "([B[B)Z" = some ⟨[(.array .byte), (.array .byte)], some .boolean⟩ := by decide +kernel
theorem d22_47 : decode jdk_42_method_66_code 47 = .ok (.ifCond .eq 7, 3) := by decide +kernel
theorem d22_54 : decode jdk_42_method_66_code 54 = .ok (.iconst 0, 1) := by decide +kernel
theorem d22_55 : decode jdk_42_method_66_code 55 = .ok (.ireturn, 1) := by decide +kernel
theorem ef_rm_eq0 (m : MethodId) (x0 : Addr) (x1 : Addr)  : entryFrame m #[(.ref x0), (.ref x1)] 3 = mkF m 0 #[.val (.ref x0), .val (.ref x1), .unset] [] := by first | (simp [entryFrame, mkF, argsToLocals, catI, catR, catJ, catN]; done) | rfl
set_option maxRecDepth 65536 in
set_option maxHeartbeats 4000000 in
theorem rm_eq0 (l : Launch) (Z : State) (a0 : Array Value) (hw : ∀ d ∈ tables_1, d.before a0 Z = true) (a a_x : Addr) (a_k : ClassId) (b b_x : Addr) (b_k : ClassId) (cs : Int32) (h0 : Heap) (O0 : Ext Z.heap h0) (E_a : Exa Z h0 a "java/lang/String") (Fc_a : Fld Z h0 a "java/lang/String" "coder" "B" (.int (0 : Int32))) (Fv_a : Fld Z h0 a "java/lang/String" "value" "[B" (.ref a_x)) (V_a : Arv Z h0 a_x a_k .byte (9 : Int32) [(.int (115 : Int32)), (.int (105 : Int32)), (.int (110 : Int32)), (.int (103 : Int32)), (.int (108 : Int32)), (.int (101 : Int32)), (.int (116 : Int32)), (.int (111 : Int32)), (.int (110 : Int32))] (.int (0 : Int32))) (E_b : Exa Z h0 b "java/lang/String") (Fc_b : Fld Z h0 b "java/lang/String" "coder" "B" (.int (0 : Int32))) (Fv_b : Fld Z h0 b "java/lang/String" "value" "[B" (.ref b_x)) (V_b : Arv Z h0 b_x b_k .byte (9 : Int32) [(.int (112 : Int32)), (.int (114 : Int32)), (.int (111 : Int32)), (.int (116 : Int32)), (.int (111 : Int32)), (.int (116 : Int32)), (.int (121 : Int32)), (.int (112 : Int32)), (.int (101 : Int32))] (.int (0 : Int32))) (S_cs : Sta Z Z.heap "java/lang/String" "COMPACT_STRINGS" "Z" (.int cs)) (ncs : ¬ cs = (0 : Int32)) :
    Met1 true own_EL l Z (⟨"java/lang/String", "equals", "(Ljava/lang/Object;)Z"⟩ : MethodName) jdk_42_method_66_code 3 (Option.some Jvm.ClassFile.FieldType.boolean) [] ({ frames := 1, cells := 0, slots := 0, locals := 14 } : Room) #[(.ref a), (.ref b)] h0 (fun w h' => h' = h0 ∧ q_eq w) := by
  refine met_body (plainFor_of_name pn_11) O0 (own_EW hw) ?_
  intro p e s m below meth ck T0 hx hby hml hret hlk hnm G0
  refine Fz.entry (ef_rm_eq0 m a b ) ?_
  refine Jvm.Own.aloadN G0.here hx (hb hby d22_0) rfl rfl (pc' := 1) rfl ?_
  refine Jvm.Own.aloadN G0.here hx (hb hby d22_1) rfl rfl (pc' := 2) rfl ?_
  by_cases hc2 : ((.ref a) : Value) = (.ref b)
  · skip
    refine Jvm.Own.acmpN G0.here hx (hb hby d22_2) rfl rfl (by simp [Jvm.Free.XT.acmp, hc2]) (pc' := 5) rfl ?_
    refine Jvm.Own.iconst G0.here hx (hb hby d22_5) (v := (1 : Int32)) rfl (pc' := 6) rfl ?_
    exact Jvm.Own.retI G0 hx (hb hby d22_6) hret hlk (by simp) rfl (by decide) (by decide) ⟨_, rfl, ⟨rfl, Or.inr rfl⟩⟩
  · skip
    refine Jvm.Own.acmpY G0.here hx (hb hby d22_2) rfl rfl (by simp [Jvm.Free.XT.acmp, hc2]) (pc' := 7) (by decide) (by decide) ?_
    refine Jvm.Own.aloadN G0.here hx (hb hby d22_7) rfl rfl (pc' := 8) rfl ?_
    refine Jvm.Own.instY G0 hx (hb hby d22_8) (hw _ (List.mem_of_getElem? (i := 12) rfl)) (Ins.self E_b) (pc' := 11) rfl ?_
    intro T1 G1
    refine Jvm.Own.ifN G1.here hx (hb hby d22_11) ((if0 _ _).trans (feq (by decide : ¬ (1 : Int32) = (0 : Int32))).1) (pc' := 14) rfl ?_
    refine Jvm.Own.aloadN G1.here hx (hb hby d22_14) rfl rfl (pc' := 15) rfl ?_
    refine Jvm.Own.checkcast G1 hx (hb hby d22_15) (hw _ (List.mem_of_getElem? (i := 12) rfl)) (Ins.self E_b) (pc' := 18) rfl ?_
    intro T2 G2
    refine Jvm.Own.astoreN G2.here hx (hb hby d22_18) rfl (Ls' := #[.val (.ref a), .val (.ref b), .val (.ref b)]) rfl (pc' := 19) rfl ?_
    refine Jvm.Own.getstatic G2 hx (hb hby d22_19) (host := "") (Or.inl (hw _ (List.mem_of_getElem? (i := 7) rfl))) Via.refl S_cs (pc' := 22) rfl ?_
    intro T3 G3
    refine Jvm.Own.ifN G3.here hx (hb hby d22_22) ((if0 _ _).trans (feq (ncs : ¬ cs = (0 : Int32))).1) (pc' := 25) rfl ?_
    refine Jvm.Own.aloadN G3.here hx (hb hby d22_25) rfl rfl (pc' := 26) rfl ?_
    refine Jvm.Own.getfield G3 hx (hb hby d22_26) (host := "") (Or.inl (hw _ (List.mem_of_getElem? (i := 27) rfl))) Via.refl Fc_a (pc' := 29) rfl ?_
    intro T4 G4
    refine Jvm.Own.aloadN G4.here hx (hb hby d22_29) rfl rfl (pc' := 30) rfl ?_
    refine Jvm.Own.getfield G4 hx (hb hby d22_30) (host := "") (Or.inl (hw _ (List.mem_of_getElem? (i := 27) rfl))) Via.refl Fc_b (pc' := 33) rfl ?_
    intro T5 G5
    refine Jvm.Own.icmpN G5.here hx (hb hby d22_33) (teq (by decide : (0 : Int32) = (0 : Int32))).2 (pc' := 36) rfl ?_
    refine Jvm.Own.aloadN G5.here hx (hb hby d22_36) rfl rfl (pc' := 37) rfl ?_
    refine Jvm.Own.getfield G5 hx (hb hby d22_37) (host := "") (Or.inl (hw _ (List.mem_of_getElem? (i := 25) rfl))) Via.refl Fv_a (pc' := 40) rfl ?_
    intro T6 G6
    refine Jvm.Own.aloadN G6.here hx (hb hby d22_40) rfl rfl (pc' := 41) rfl ?_
    refine Jvm.Own.getfield G6 hx (hb hby d22_41) (host := "") (Or.inl (hw _ (List.mem_of_getElem? (i := 25) rfl))) Via.refl Fv_b (pc' := 44) rfl ?_
    intro T7 G7
    refine Jvm.Own.callSP (y := (⟨"java/lang/StringLatin1", "equals", "([B[B)Z"⟩ : MethodName)) G7 hx (hb hby d22_44) (hw _ (List.mem_of_getElem? (i := 180) rfl)) (hw _ (List.mem_of_getElem? (i := 181) rfl)) (hw _ (List.mem_of_getElem? (i := 10) rfl)) (hw _ (List.mem_of_getElem? (i := 182) rfl)) (by decide) (rm_le0 l Z a0 hw a_x b_x a_k b_k h0 G7.old V_a V_b) (by decide) (W := 0) (by decide) (by rw [hml]; rfl) (argsL := [(.ref a_x), (.ref b_x)]) (lenOf pd_7 rfl) rfl (Nat.le_of_eq rfl) (cells' := 0) rfl (by decide) (slots' := 0) rfl (by decide) (pc' := 47) rfl ?_
    intro T8 r8 G8 Q8
    obtain rfl : r8 = .int (0 : Int32) := Q8
    refine Jvm.Own.ifY G8.here hx (hb hby d22_47) ((if0 _ _).trans (teq (by decide : (0 : Int32) = (0 : Int32))).1) (pc' := 54) (by decide) (by decide) ?_
    refine Jvm.Own.iconst G8.here hx (hb hby d22_54) (v := (0 : Int32)) rfl (pc' := 55) rfl ?_
    exact Jvm.Own.retI G8 hx (hb hby d22_55) hret hlk (by simp) rfl (by decide) (by decide) ⟨_, rfl, ⟨rfl, Or.inl rfl⟩⟩
theorem pd_8 : parseMethodDescriptor "(Ljava/lang/Object;)Z" = some ⟨[(.object "java/lang/Object")], some .boolean⟩ := by decide +kernel
theorem d20_9 : decode prog_3_method_12_code 9 = .ok (.ireturn, 1) := by decide +kernel
theorem ef_rm_ip0 (m : MethodId) (x0 : Addr)  : entryFrame m #[(.ref x0)] 1 = mkF m 0 #[.val (.ref x0)] [] := by first | (simp [entryFrame, mkF, argsToLocals, catI, catR, catJ, catN]; done) | rfl
set_option maxRecDepth 65536 in
set_option maxHeartbeats 4000000 in
theorem rm_ip0 (l : Launch) (Z : State) (a0 : Array Value) (hw : ∀ d ∈ tables_1, d.before a0 Z = true) (a : Addr) (cs : Int32) (h0 : Heap) (O0 : Ext Z.heap h0) (Ea : Exa Z h0 a "com/example/amphion/amphion/BeanDefinition") (Fs : Fld Z h0 a "com/example/amphion/amphion/BeanDefinition" "scope" "Ljava/lang/String;" .null) (S_cs : Sta Z Z.heap "java/lang/String" "COMPACT_STRINGS" "Z" (.int cs)) (ncs : ¬ cs = (0 : Int32)) :
    Met1 true own_EL l Z (⟨"com/example/amphion/amphion/BeanDefinition", "isPrototype", "()Z"⟩ : MethodName) prog_3_method_12_code 1 (Option.some Jvm.ClassFile.FieldType.boolean) [] ({ frames := 2, cells := 4, slots := 80, locals := 28 } : Room) #[(.ref a)] h0 (q_ip h0) := by
  refine met_body (plainFor_of_name pn_9) O0 (own_EW hw) ?_
  intro p e s m below meth ck T0 hx hby hml hret hlk hnm G0
  refine Fz.entry (ef_rm_ip0 m a ) ?_
  have K0 : Keep h0 h0 [] := Keep.refl _ _
  refine Jvm.Own.aloadN G0.here hx (hb hby d20_0) rfl rfl (pc' := 1) rfl ?_
  refine Jvm.Own.callV1 (y := (⟨"com/example/amphion/amphion/BeanDefinition", "getScope", "()Ljava/lang/String;"⟩ : MethodName)) (z := (⟨"com/example/amphion/amphion/BeanDefinition", "getScope", "()Ljava/lang/String;"⟩ : MethodName)) G0 hx (hb hby d20_1) (nfOf (y := (⟨"com/example/amphion/amphion/BeanDefinition", "getScope", "()Ljava/lang/String;"⟩ : MethodName)) (z := (⟨"com/example/amphion/amphion/BeanDefinition", "isPrototype", "()Z"⟩ : MethodName)) rfl (hw _ (List.mem_of_getElem? (i := 164) rfl))) (hw _ (List.mem_of_getElem? (i := 166) rfl)) (hw _ (List.mem_of_getElem? (i := 167) rfl)) (hw _ (List.mem_of_getElem? (i := 169) rfl)) (hw _ (List.mem_of_getElem? (i := 168) rfl)) (hw _ (List.mem_of_getElem? (i := 31) rfl)) (hw _ (List.mem_of_getElem? (i := 170) rfl)) (by decide) Ea (rm_gs0 l Z a0 hw a h0 G0.old Fs) (by decide) (W := 0) (by decide) (by rw [hml]; rfl) (argsL := []) (lenOf pd_6 rfl) rfl (Nat.le_of_eq rfl) (cells' := 2) rfl (by decide) (slots' := 40) rfl (by decide) (pc' := 4) rfl ?_
  intro T1 h1 r1 G1 Q1
  obtain ⟨s1, x1, k1, rfl, K1, E1, Fc1, Fv1, V1⟩ := Q1
  have K2 : Keep h0 h1 [] := K0.trans K1 all0
  refine Jvm.Own.ldcH (n := 36) (vs := [(.int (112 : Int32)), (.int (114 : Int32)), (.int (111 : Int32)), (.int (116 : Int32)), (.int (111 : Int32)), (.int (116 : Int32)), (.int (121 : Int32)), (.int (112 : Int32)), (.int (101 : Int32))]) (z := (9 : Int32)) G1 hx (hb hby d20_4) (hw _ (List.mem_of_getElem? (i := 174) rfl)) (own_wS hw) (List.mem_of_getElem? (i := 1) rfl) ⟨by decide, by rfl⟩ (by decide) (by decide) (by decide) (by decide) (cells' := 4) rfl (by decide) (slots' := 80) rfl (by decide) (pc' := 6) rfl ?_
  intro T3 h3 a3 c3 k3 G3 X3 E3 Fc3 Fv3 V3 N3
  have K5 : Keep h0 h3 [] := K2.ext X3
  have E6 := (E1.ext X3)
  have F7 := (Fc1.ext X3)
  have F8 := (Fv1.ext X3)
  have V9 := (V1.ext X3)
  refine Jvm.Own.callVP (y := (⟨"java/lang/String", "equals", "(Ljava/lang/Object;)Z"⟩ : MethodName)) (z := (⟨"java/lang/String", "equals", "(Ljava/lang/Object;)Z"⟩ : MethodName)) G3 hx (hb hby d20_6) (nfOf (y := (⟨"java/lang/String", "equals", "(Ljava/lang/Object;)Z"⟩ : MethodName)) (z := (⟨"java/lang/String", "equals", "(Ljava/lang/Object;)Z"⟩ : MethodName)) rfl (hw _ (List.mem_of_getElem? (i := 178) rfl))) (hw _ (List.mem_of_getElem? (i := 175) rfl)) (hw _ (List.mem_of_getElem? (i := 176) rfl)) (hw _ (List.mem_of_getElem? (i := 178) rfl)) (hw _ (List.mem_of_getElem? (i := 177) rfl)) (hw _ (List.mem_of_getElem? (i := 5) rfl)) (hw _ (List.mem_of_getElem? (i := 179) rfl)) (by decide) E6 (rm_eq0 l Z a0 hw s1 x1 k1 a3 c3 k3 cs h3 G3.old E6 F7 F8 V9 E3 Fc3 Fv3 V3 S_cs ncs) (by decide) (W := 0) (by decide) (by rw [hml]; rfl) (argsL := [(.ref a3)]) (lenOf pd_8 rfl) rfl (Nat.le_of_eq rfl) (cells' := 4) rfl (by decide) (slots' := 80) rfl (by decide) (pc' := 9) rfl ?_
  intro T10 r10 G10 Q10
  obtain ⟨z10, rfl, hz10⟩ : ∃ z : Int32, r10 = .int z ∧ (z = 0 ∨ z = 1) := by
    rcases Q10 with e | e
    · exact ⟨0, e, Or.inl rfl⟩
    · exact ⟨1, e, Or.inr rfl⟩
  exact Jvm.Own.retI G10 hx (hb hby d20_9) hret hlk (by simp) (own_n01 hz10) (by decide) (by decide) ⟨_, rfl, ⟨_, rfl, hz10, K5⟩⟩
theorem d23_26 : decode jdk_43_method_13_code 26 = .ok (.iinc 2 1, 3) := by decide +kernel
theorem d23_29 : decode jdk_43_method_13_code 29 = .ok (.goto (-20), 3) := by decide +kernel
theorem d23_32 : decode jdk_43_method_13_code 32 = .ok (.iconst 1, 1) := by decide +kernel
theorem d23_33 : decode jdk_43_method_13_code 33 = .ok (.ireturn, 1) := by decide +kernel
theorem ef_rm_le1 (m : MethodId) (x0 : Addr) (x1 : Addr)  : entryFrame m #[(.ref x0), (.ref x1)] 3 = mkF m 0 #[.val (.ref x0), .val (.ref x1), .unset] [] := by first | (simp [entryFrame, mkF, argsToLocals, catI, catR, catJ, catN]; done) | rfl
set_option maxRecDepth 65536 in
set_option maxHeartbeats 4000000 in
theorem rm_le1 (l : Launch) (Z : State) (a0 : Array Value) (hw : ∀ d ∈ tables_1, d.before a0 Z = true) (x z : Addr) (kx kz : ClassId) (h0 : Heap) (O0 : Ext Z.heap h0) (Vx : Arv Z h0 x kx .byte (9 : Int32) [(.int (112 : Int32)), (.int (114 : Int32)), (.int (111 : Int32)), (.int (116 : Int32)), (.int (111 : Int32)), (.int (116 : Int32)), (.int (121 : Int32)), (.int (112 : Int32)), (.int (101 : Int32))] (.int (0 : Int32))) (Vz : Arv Z h0 z kz .byte (9 : Int32) [(.int (112 : Int32)), (.int (114 : Int32)), (.int (111 : Int32)), (.int (116 : Int32)), (.int (111 : Int32)), (.int (116 : Int32)), (.int (121 : Int32)), (.int (112 : Int32)), (.int (101 : Int32))] (.int (0 : Int32))) :
    Met1 true own_EL l Z (⟨"java/lang/StringLatin1", "equals", "([B[B)Z"⟩ : MethodName) jdk_43_method_13_code 3 (Option.some Jvm.ClassFile.FieldType.boolean) [] ({ frames := 0, cells := 0, slots := 0, locals := 0 } : Room) #[(.ref x), (.ref z)] h0 (fun w h' => h' = h0 ∧ w = .int (1 : Int32)) := by
  refine met_body (plainFor_of_name pn_10) O0 (own_EW hw) ?_
  intro p e s m below meth ck T0 hx hby hml hret hlk hnm G0
  refine Fz.entry (ef_rm_le1 m x z ) ?_
  refine Jvm.Own.aloadN G0.here hx (hb hby d23_0) rfl rfl (pc' := 1) rfl ?_
  refine Jvm.Own.arraylength G0 hx (hb hby d23_1) Vx (pc' := 2) rfl ?_
  refine Jvm.Own.aloadN G0.here hx (hb hby d23_2) rfl rfl (pc' := 3) rfl ?_
  refine Jvm.Own.arraylength G0 hx (hb hby d23_3) Vz (pc' := 4) rfl ?_
  refine Jvm.Own.icmpN G0.here hx (hb hby d23_4) (teq (by decide : (9 : Int32) = (9 : Int32))).2 (pc' := 7) rfl ?_
  refine Jvm.Own.iconst G0.here hx (hb hby d23_7) (v := (0 : Int32)) rfl (pc' := 8) rfl ?_
  refine Jvm.Own.istoreN G0.here hx (hb hby d23_8) (Ls' := #[.val (.ref x), .val (.ref z), .val (.int (0 : Int32))]) rfl (pc' := 9) rfl ?_
  refine Jvm.Own.iloadN G0.here hx (hb hby d23_9) rfl (pc' := 10) rfl ?_
  refine Jvm.Own.aloadN G0.here hx (hb hby d23_10) rfl rfl (pc' := 11) rfl ?_
  refine Jvm.Own.arraylength G0 hx (hb hby d23_11) Vx (pc' := 12) rfl ?_
  refine Jvm.Own.icmpN G0.here hx (hb hby d23_12) (tlt (by decide : (0 : Int32) < (9 : Int32))).2.1 (pc' := 15) rfl ?_
  refine Jvm.Own.aloadN G0.here hx (hb hby d23_15) rfl rfl (pc' := 16) rfl ?_
  refine Jvm.Own.iloadN G0.here hx (hb hby d23_16) rfl (pc' := 17) rfl ?_
  refine Jvm.Own.baload G0 hx (hb hby d23_17) Vx ⟨by decide, by decide⟩ (v := (.int (112 : Int32))) rfl (pc' := 18) rfl ?_
  refine Jvm.Own.aloadN G0.here hx (hb hby d23_18) rfl rfl (pc' := 19) rfl ?_
  refine Jvm.Own.iloadN G0.here hx (hb hby d23_19) rfl (pc' := 20) rfl ?_
  refine Jvm.Own.baload G0 hx (hb hby d23_20) Vz ⟨by decide, by decide⟩ (v := (.int (112 : Int32))) rfl (pc' := 21) rfl ?_
  refine Jvm.Own.icmpY G0.here hx (hb hby d23_21) (teq (by decide : (112 : Int32) = (112 : Int32))).1 (pc' := 26) (by decide) (by decide) ?_
  refine Jvm.Own.iinc G0.here hx (hb hby d23_26) rfl (v := (1 : Int32)) (by decide) (Ls' := #[.val (.ref x), .val (.ref z), .val (.int (1 : Int32))]) rfl (pc' := 29) rfl ?_
  refine Jvm.Own.goto G0.here hx (hb hby d23_29) (pc' := 9) (by decide) (by decide) ?_
  refine Jvm.Own.iloadN G0.here hx (hb hby d23_9) rfl (pc' := 10) rfl ?_
  refine Jvm.Own.aloadN G0.here hx (hb hby d23_10) rfl rfl (pc' := 11) rfl ?_
  refine Jvm.Own.arraylength G0 hx (hb hby d23_11) Vx (pc' := 12) rfl ?_
  refine Jvm.Own.icmpN G0.here hx (hb hby d23_12) (tlt (by decide : (1 : Int32) < (9 : Int32))).2.1 (pc' := 15) rfl ?_
  refine Jvm.Own.aloadN G0.here hx (hb hby d23_15) rfl rfl (pc' := 16) rfl ?_
  refine Jvm.Own.iloadN G0.here hx (hb hby d23_16) rfl (pc' := 17) rfl ?_
  refine Jvm.Own.baload G0 hx (hb hby d23_17) Vx ⟨by decide, by decide⟩ (v := (.int (114 : Int32))) rfl (pc' := 18) rfl ?_
  refine Jvm.Own.aloadN G0.here hx (hb hby d23_18) rfl rfl (pc' := 19) rfl ?_
  refine Jvm.Own.iloadN G0.here hx (hb hby d23_19) rfl (pc' := 20) rfl ?_
  refine Jvm.Own.baload G0 hx (hb hby d23_20) Vz ⟨by decide, by decide⟩ (v := (.int (114 : Int32))) rfl (pc' := 21) rfl ?_
  refine Jvm.Own.icmpY G0.here hx (hb hby d23_21) (teq (by decide : (114 : Int32) = (114 : Int32))).1 (pc' := 26) (by decide) (by decide) ?_
  refine Jvm.Own.iinc G0.here hx (hb hby d23_26) rfl (v := (2 : Int32)) (by decide) (Ls' := #[.val (.ref x), .val (.ref z), .val (.int (2 : Int32))]) rfl (pc' := 29) rfl ?_
  refine Jvm.Own.goto G0.here hx (hb hby d23_29) (pc' := 9) (by decide) (by decide) ?_
  refine Jvm.Own.iloadN G0.here hx (hb hby d23_9) rfl (pc' := 10) rfl ?_
  refine Jvm.Own.aloadN G0.here hx (hb hby d23_10) rfl rfl (pc' := 11) rfl ?_
  refine Jvm.Own.arraylength G0 hx (hb hby d23_11) Vx (pc' := 12) rfl ?_
  refine Jvm.Own.icmpN G0.here hx (hb hby d23_12) (tlt (by decide : (2 : Int32) < (9 : Int32))).2.1 (pc' := 15) rfl ?_
  refine Jvm.Own.aloadN G0.here hx (hb hby d23_15) rfl rfl (pc' := 16) rfl ?_
  refine Jvm.Own.iloadN G0.here hx (hb hby d23_16) rfl (pc' := 17) rfl ?_
  refine Jvm.Own.baload G0 hx (hb hby d23_17) Vx ⟨by decide, by decide⟩ (v := (.int (111 : Int32))) rfl (pc' := 18) rfl ?_
  refine Jvm.Own.aloadN G0.here hx (hb hby d23_18) rfl rfl (pc' := 19) rfl ?_
  refine Jvm.Own.iloadN G0.here hx (hb hby d23_19) rfl (pc' := 20) rfl ?_
  refine Jvm.Own.baload G0 hx (hb hby d23_20) Vz ⟨by decide, by decide⟩ (v := (.int (111 : Int32))) rfl (pc' := 21) rfl ?_
  refine Jvm.Own.icmpY G0.here hx (hb hby d23_21) (teq (by decide : (111 : Int32) = (111 : Int32))).1 (pc' := 26) (by decide) (by decide) ?_
  refine Jvm.Own.iinc G0.here hx (hb hby d23_26) rfl (v := (3 : Int32)) (by decide) (Ls' := #[.val (.ref x), .val (.ref z), .val (.int (3 : Int32))]) rfl (pc' := 29) rfl ?_
  refine Jvm.Own.goto G0.here hx (hb hby d23_29) (pc' := 9) (by decide) (by decide) ?_
  refine Jvm.Own.iloadN G0.here hx (hb hby d23_9) rfl (pc' := 10) rfl ?_
  refine Jvm.Own.aloadN G0.here hx (hb hby d23_10) rfl rfl (pc' := 11) rfl ?_
  refine Jvm.Own.arraylength G0 hx (hb hby d23_11) Vx (pc' := 12) rfl ?_
  refine Jvm.Own.icmpN G0.here hx (hb hby d23_12) (tlt (by decide : (3 : Int32) < (9 : Int32))).2.1 (pc' := 15) rfl ?_
  refine Jvm.Own.aloadN G0.here hx (hb hby d23_15) rfl rfl (pc' := 16) rfl ?_
  refine Jvm.Own.iloadN G0.here hx (hb hby d23_16) rfl (pc' := 17) rfl ?_
  refine Jvm.Own.baload G0 hx (hb hby d23_17) Vx ⟨by decide, by decide⟩ (v := (.int (116 : Int32))) rfl (pc' := 18) rfl ?_
  refine Jvm.Own.aloadN G0.here hx (hb hby d23_18) rfl rfl (pc' := 19) rfl ?_
  refine Jvm.Own.iloadN G0.here hx (hb hby d23_19) rfl (pc' := 20) rfl ?_
  refine Jvm.Own.baload G0 hx (hb hby d23_20) Vz ⟨by decide, by decide⟩ (v := (.int (116 : Int32))) rfl (pc' := 21) rfl ?_
  refine Jvm.Own.icmpY G0.here hx (hb hby d23_21) (teq (by decide : (116 : Int32) = (116 : Int32))).1 (pc' := 26) (by decide) (by decide) ?_
  refine Jvm.Own.iinc G0.here hx (hb hby d23_26) rfl (v := (4 : Int32)) (by decide) (Ls' := #[.val (.ref x), .val (.ref z), .val (.int (4 : Int32))]) rfl (pc' := 29) rfl ?_
  refine Jvm.Own.goto G0.here hx (hb hby d23_29) (pc' := 9) (by decide) (by decide) ?_
  refine Jvm.Own.iloadN G0.here hx (hb hby d23_9) rfl (pc' := 10) rfl ?_
  refine Jvm.Own.aloadN G0.here hx (hb hby d23_10) rfl rfl (pc' := 11) rfl ?_
  refine Jvm.Own.arraylength G0 hx (hb hby d23_11) Vx (pc' := 12) rfl ?_
  refine Jvm.Own.icmpN G0.here hx (hb hby d23_12) (tlt (by decide : (4 : Int32) < (9 : Int32))).2.1 (pc' := 15) rfl ?_
  refine Jvm.Own.aloadN G0.here hx (hb hby d23_15) rfl rfl (pc' := 16) rfl ?_
  refine Jvm.Own.iloadN G0.here hx (hb hby d23_16) rfl (pc' := 17) rfl ?_
  refine Jvm.Own.baload G0 hx (hb hby d23_17) Vx ⟨by decide, by decide⟩ (v := (.int (111 : Int32))) rfl (pc' := 18) rfl ?_
  refine Jvm.Own.aloadN G0.here hx (hb hby d23_18) rfl rfl (pc' := 19) rfl ?_
  refine Jvm.Own.iloadN G0.here hx (hb hby d23_19) rfl (pc' := 20) rfl ?_
  refine Jvm.Own.baload G0 hx (hb hby d23_20) Vz ⟨by decide, by decide⟩ (v := (.int (111 : Int32))) rfl (pc' := 21) rfl ?_
  refine Jvm.Own.icmpY G0.here hx (hb hby d23_21) (teq (by decide : (111 : Int32) = (111 : Int32))).1 (pc' := 26) (by decide) (by decide) ?_
  refine Jvm.Own.iinc G0.here hx (hb hby d23_26) rfl (v := (5 : Int32)) (by decide) (Ls' := #[.val (.ref x), .val (.ref z), .val (.int (5 : Int32))]) rfl (pc' := 29) rfl ?_
  refine Jvm.Own.goto G0.here hx (hb hby d23_29) (pc' := 9) (by decide) (by decide) ?_
  refine Jvm.Own.iloadN G0.here hx (hb hby d23_9) rfl (pc' := 10) rfl ?_
  refine Jvm.Own.aloadN G0.here hx (hb hby d23_10) rfl rfl (pc' := 11) rfl ?_
  refine Jvm.Own.arraylength G0 hx (hb hby d23_11) Vx (pc' := 12) rfl ?_
  refine Jvm.Own.icmpN G0.here hx (hb hby d23_12) (tlt (by decide : (5 : Int32) < (9 : Int32))).2.1 (pc' := 15) rfl ?_
  refine Jvm.Own.aloadN G0.here hx (hb hby d23_15) rfl rfl (pc' := 16) rfl ?_
  refine Jvm.Own.iloadN G0.here hx (hb hby d23_16) rfl (pc' := 17) rfl ?_
  refine Jvm.Own.baload G0 hx (hb hby d23_17) Vx ⟨by decide, by decide⟩ (v := (.int (116 : Int32))) rfl (pc' := 18) rfl ?_
  refine Jvm.Own.aloadN G0.here hx (hb hby d23_18) rfl rfl (pc' := 19) rfl ?_
  refine Jvm.Own.iloadN G0.here hx (hb hby d23_19) rfl (pc' := 20) rfl ?_
  refine Jvm.Own.baload G0 hx (hb hby d23_20) Vz ⟨by decide, by decide⟩ (v := (.int (116 : Int32))) rfl (pc' := 21) rfl ?_
  refine Jvm.Own.icmpY G0.here hx (hb hby d23_21) (teq (by decide : (116 : Int32) = (116 : Int32))).1 (pc' := 26) (by decide) (by decide) ?_
  refine Jvm.Own.iinc G0.here hx (hb hby d23_26) rfl (v := (6 : Int32)) (by decide) (Ls' := #[.val (.ref x), .val (.ref z), .val (.int (6 : Int32))]) rfl (pc' := 29) rfl ?_
  refine Jvm.Own.goto G0.here hx (hb hby d23_29) (pc' := 9) (by decide) (by decide) ?_
  refine Jvm.Own.iloadN G0.here hx (hb hby d23_9) rfl (pc' := 10) rfl ?_
  refine Jvm.Own.aloadN G0.here hx (hb hby d23_10) rfl rfl (pc' := 11) rfl ?_
  refine Jvm.Own.arraylength G0 hx (hb hby d23_11) Vx (pc' := 12) rfl ?_
  refine Jvm.Own.icmpN G0.here hx (hb hby d23_12) (tlt (by decide : (6 : Int32) < (9 : Int32))).2.1 (pc' := 15) rfl ?_
  refine Jvm.Own.aloadN G0.here hx (hb hby d23_15) rfl rfl (pc' := 16) rfl ?_
  refine Jvm.Own.iloadN G0.here hx (hb hby d23_16) rfl (pc' := 17) rfl ?_
  refine Jvm.Own.baload G0 hx (hb hby d23_17) Vx ⟨by decide, by decide⟩ (v := (.int (121 : Int32))) rfl (pc' := 18) rfl ?_
  refine Jvm.Own.aloadN G0.here hx (hb hby d23_18) rfl rfl (pc' := 19) rfl ?_
  refine Jvm.Own.iloadN G0.here hx (hb hby d23_19) rfl (pc' := 20) rfl ?_
  refine Jvm.Own.baload G0 hx (hb hby d23_20) Vz ⟨by decide, by decide⟩ (v := (.int (121 : Int32))) rfl (pc' := 21) rfl ?_
  refine Jvm.Own.icmpY G0.here hx (hb hby d23_21) (teq (by decide : (121 : Int32) = (121 : Int32))).1 (pc' := 26) (by decide) (by decide) ?_
  refine Jvm.Own.iinc G0.here hx (hb hby d23_26) rfl (v := (7 : Int32)) (by decide) (Ls' := #[.val (.ref x), .val (.ref z), .val (.int (7 : Int32))]) rfl (pc' := 29) rfl ?_
  refine Jvm.Own.goto G0.here hx (hb hby d23_29) (pc' := 9) (by decide) (by decide) ?_
  refine Jvm.Own.iloadN G0.here hx (hb hby d23_9) rfl (pc' := 10) rfl ?_
  refine Jvm.Own.aloadN G0.here hx (hb hby d23_10) rfl rfl (pc' := 11) rfl ?_
  refine Jvm.Own.arraylength G0 hx (hb hby d23_11) Vx (pc' := 12) rfl ?_
  refine Jvm.Own.icmpN G0.here hx (hb hby d23_12) (tlt (by decide : (7 : Int32) < (9 : Int32))).2.1 (pc' := 15) rfl ?_
  refine Jvm.Own.aloadN G0.here hx (hb hby d23_15) rfl rfl (pc' := 16) rfl ?_
  refine Jvm.Own.iloadN G0.here hx (hb hby d23_16) rfl (pc' := 17) rfl ?_
  refine Jvm.Own.baload G0 hx (hb hby d23_17) Vx ⟨by decide, by decide⟩ (v := (.int (112 : Int32))) rfl (pc' := 18) rfl ?_
  refine Jvm.Own.aloadN G0.here hx (hb hby d23_18) rfl rfl (pc' := 19) rfl ?_
  refine Jvm.Own.iloadN G0.here hx (hb hby d23_19) rfl (pc' := 20) rfl ?_
  refine Jvm.Own.baload G0 hx (hb hby d23_20) Vz ⟨by decide, by decide⟩ (v := (.int (112 : Int32))) rfl (pc' := 21) rfl ?_
  refine Jvm.Own.icmpY G0.here hx (hb hby d23_21) (teq (by decide : (112 : Int32) = (112 : Int32))).1 (pc' := 26) (by decide) (by decide) ?_
  refine Jvm.Own.iinc G0.here hx (hb hby d23_26) rfl (v := (8 : Int32)) (by decide) (Ls' := #[.val (.ref x), .val (.ref z), .val (.int (8 : Int32))]) rfl (pc' := 29) rfl ?_
  refine Jvm.Own.goto G0.here hx (hb hby d23_29) (pc' := 9) (by decide) (by decide) ?_
  refine Jvm.Own.iloadN G0.here hx (hb hby d23_9) rfl (pc' := 10) rfl ?_
  refine Jvm.Own.aloadN G0.here hx (hb hby d23_10) rfl rfl (pc' := 11) rfl ?_
  refine Jvm.Own.arraylength G0 hx (hb hby d23_11) Vx (pc' := 12) rfl ?_
  refine Jvm.Own.icmpN G0.here hx (hb hby d23_12) (tlt (by decide : (8 : Int32) < (9 : Int32))).2.1 (pc' := 15) rfl ?_
  refine Jvm.Own.aloadN G0.here hx (hb hby d23_15) rfl rfl (pc' := 16) rfl ?_
  refine Jvm.Own.iloadN G0.here hx (hb hby d23_16) rfl (pc' := 17) rfl ?_
  refine Jvm.Own.baload G0 hx (hb hby d23_17) Vx ⟨by decide, by decide⟩ (v := (.int (101 : Int32))) rfl (pc' := 18) rfl ?_
  refine Jvm.Own.aloadN G0.here hx (hb hby d23_18) rfl rfl (pc' := 19) rfl ?_
  refine Jvm.Own.iloadN G0.here hx (hb hby d23_19) rfl (pc' := 20) rfl ?_
  refine Jvm.Own.baload G0 hx (hb hby d23_20) Vz ⟨by decide, by decide⟩ (v := (.int (101 : Int32))) rfl (pc' := 21) rfl ?_
  refine Jvm.Own.icmpY G0.here hx (hb hby d23_21) (teq (by decide : (101 : Int32) = (101 : Int32))).1 (pc' := 26) (by decide) (by decide) ?_
  refine Jvm.Own.iinc G0.here hx (hb hby d23_26) rfl (v := (9 : Int32)) (by decide) (Ls' := #[.val (.ref x), .val (.ref z), .val (.int (9 : Int32))]) rfl (pc' := 29) rfl ?_
  refine Jvm.Own.goto G0.here hx (hb hby d23_29) (pc' := 9) (by decide) (by decide) ?_
  refine Jvm.Own.iloadN G0.here hx (hb hby d23_9) rfl (pc' := 10) rfl ?_
  refine Jvm.Own.aloadN G0.here hx (hb hby d23_10) rfl rfl (pc' := 11) rfl ?_
  refine Jvm.Own.arraylength G0 hx (hb hby d23_11) Vx (pc' := 12) rfl ?_
  refine Jvm.Own.icmpY G0.here hx (hb hby d23_12) (flt (by decide : ¬ (9 : Int32) < (9 : Int32))).2.1 (pc' := 32) (by decide) (by decide) ?_
  refine Jvm.Own.iconst G0.here hx (hb hby d23_32) (v := (1 : Int32)) rfl (pc' := 33) rfl ?_
  exact Jvm.Own.retI G0 hx (hb hby d23_33) hret hlk (by simp) rfl (by decide) (by decide) ⟨_, rfl, ⟨rfl, rfl⟩⟩
theorem d22_50 : decode jdk_42_method_66_code 50 = .ok (.iconst 1, 1) := by decide +kernel
theorem d22_51 : decode jdk_42_method_66_code 51 = .ok (.goto 4, 3) := by decide +kernel
theorem ef_rm_eq1 (m : MethodId) (x0 : Addr) (x1 : Addr)  : entryFrame m #[(.ref x0), (.ref x1)] 3 = mkF m 0 #[.val (.ref x0), .val (.ref x1), .unset] [] := by first | (simp [entryFrame, mkF, argsToLocals, catI, catR, catJ, catN]; done) | rfl
set_option maxRecDepth 65536 in
set_option maxHeartbeats 4000000 in
theorem rm_eq1 (l : Launch) (Z : State) (a0 : Array Value) (hw : ∀ d ∈ tables_1, d.before a0 Z = true) (a a_x : Addr) (a_k : ClassId) (b b_x : Addr) (b_k : ClassId) (cs : Int32) (h0 : Heap) (O0 : Ext Z.heap h0) (E_a : Exa Z h0 a "java/lang/String") (Fc_a : Fld Z h0 a "java/lang/String" "coder" "B" (.int (0 : Int32))) (Fv_a : Fld Z h0 a "java/lang/String" "value" "[B" (.ref a_x)) (V_a : Arv Z h0 a_x a_k .byte (9 : Int32) [(.int (112 : Int32)), (.int (114 : Int32)), (.int (111 : Int32)), (.int (116 : Int32)), (.int (111 : Int32)), (.int (116 : Int32)), (.int (121 : Int32)), (.int (112 : Int32)), (.int (101 : Int32))] (.int (0 : Int32))) (E_b : Exa Z h0 b "java/lang/String") (Fc_b : Fld Z h0 b "java/lang/String" "coder" "B" (.int (0 : Int32))) (Fv_b : Fld Z h0 b "java/lang/String" "value" "[B" (.ref b_x)) (V_b : Arv Z h0 b_x b_k .byte (9 : Int32) [(.int (112 : Int32)), (.int (114 : Int32)), (.int (111 : Int32)), (.int (116 : Int32)), (.int (111 : Int32)), (.int (116 : Int32)), (.int (121 : Int32)), (.int (112 : Int32)), (.int (101 : Int32))] (.int (0 : Int32))) (S_cs : Sta Z Z.heap "java/lang/String" "COMPACT_STRINGS" "Z" (.int cs)) (ncs : ¬ cs = (0 : Int32)) :
    Met1 true own_EL l Z (⟨"java/lang/String", "equals", "(Ljava/lang/Object;)Z"⟩ : MethodName) jdk_42_method_66_code 3 (Option.some Jvm.ClassFile.FieldType.boolean) [] ({ frames := 1, cells := 0, slots := 0, locals := 14 } : Room) #[(.ref a), (.ref b)] h0 (fun w h' => h' = h0 ∧ q_eq w) := by
  refine met_body (plainFor_of_name pn_11) O0 (own_EW hw) ?_
  intro p e s m below meth ck T0 hx hby hml hret hlk hnm G0
  refine Fz.entry (ef_rm_eq1 m a b ) ?_
  refine Jvm.Own.aloadN G0.here hx (hb hby d22_0) rfl rfl (pc' := 1) rfl ?_
  refine Jvm.Own.aloadN G0.here hx (hb hby d22_1) rfl rfl (pc' := 2) rfl ?_
  by_cases hc2 : ((.ref a) : Value) = (.ref b)
  · skip
    refine Jvm.Own.acmpN G0.here hx (hb hby d22_2) rfl rfl (by simp [Jvm.Free.XT.acmp, hc2]) (pc' := 5) rfl ?_
    refine Jvm.Own.iconst G0.here hx (hb hby d22_5) (v := (1 : Int32)) rfl (pc' := 6) rfl ?_
    exact Jvm.Own.retI G0 hx (hb hby d22_6) hret hlk (by simp) rfl (by decide) (by decide) ⟨_, rfl, ⟨rfl, Or.inr rfl⟩⟩
  · skip
    refine Jvm.Own.acmpY G0.here hx (hb hby d22_2) rfl rfl (by simp [Jvm.Free.XT.acmp, hc2]) (pc' := 7) (by decide) (by decide) ?_
    refine Jvm.Own.aloadN G0.here hx (hb hby d22_7) rfl rfl (pc' := 8) rfl ?_
    refine Jvm.Own.instY G0 hx (hb hby d22_8) (hw _ (List.mem_of_getElem? (i := 12) rfl)) (Ins.self E_b) (pc' := 11) rfl ?_
    intro T1 G1
    refine Jvm.Own.ifN G1.here hx (hb hby d22_11) ((if0 _ _).trans (feq (by decide : ¬ (1 : Int32) = (0 : Int32))).1) (pc' := 14) rfl ?_
    refine Jvm.Own.aloadN G1.here hx (hb hby d22_14) rfl rfl (pc' := 15) rfl ?_
    refine Jvm.Own.checkcast G1 hx (hb hby d22_15) (hw _ (List.mem_of_getElem? (i := 12) rfl)) (Ins.self E_b) (pc' := 18) rfl ?_
    intro T2 G2
    refine Jvm.Own.astoreN G2.here hx (hb hby d22_18) rfl (Ls' := #[.val (.ref a), .val (.ref b), .val (.ref b)]) rfl (pc' := 19) rfl ?_
    refine Jvm.Own.getstatic G2 hx (hb hby d22_19) (host := "") (Or.inl (hw _ (List.mem_of_getElem? (i := 7) rfl))) Via.refl S_cs (pc' := 22) rfl ?_
    intro T3 G3
    refine Jvm.Own.ifN G3.here hx (hb hby d22_22) ((if0 _ _).trans (feq (ncs : ¬ cs = (0 : Int32))).1) (pc' := 25) rfl ?_
    refine Jvm.Own.aloadN G3.here hx (hb hby d22_25) rfl rfl (pc' := 26) rfl ?_
    refine Jvm.Own.getfield G3 hx (hb hby d22_26) (host := "") (Or.inl (hw _ (List.mem_of_getElem? (i := 27) rfl))) Via.refl Fc_a (pc' := 29) rfl ?_
    intro T4 G4
    refine Jvm.Own.aloadN G4.here hx (hb hby d22_29) rfl rfl (pc' := 30) rfl ?_
    refine Jvm.Own.getfield G4 hx (hb hby d22_30) (host := "") (Or.inl (hw _ (List.mem_of_getElem? (i := 27) rfl))) Via.refl Fc_b (pc' := 33) rfl ?_
    intro T5 G5
    refine Jvm.Own.icmpN G5.here hx (hb hby d22_33) (teq (by decide : (0 : Int32) = (0 : Int32))).2 (pc' := 36) rfl ?_
    refine Jvm.Own.aloadN G5.here hx (hb hby d22_36) rfl rfl (pc' := 37) rfl ?_
    refine Jvm.Own.getfield G5 hx (hb hby d22_37) (host := "") (Or.inl (hw _ (List.mem_of_getElem? (i := 25) rfl))) Via.refl Fv_a (pc' := 40) rfl ?_
    intro T6 G6
    refine Jvm.Own.aloadN G6.here hx (hb hby d22_40) rfl rfl (pc' := 41) rfl ?_
    refine Jvm.Own.getfield G6 hx (hb hby d22_41) (host := "") (Or.inl (hw _ (List.mem_of_getElem? (i := 25) rfl))) Via.refl Fv_b (pc' := 44) rfl ?_
    intro T7 G7
    refine Jvm.Own.callSP (y := (⟨"java/lang/StringLatin1", "equals", "([B[B)Z"⟩ : MethodName)) G7 hx (hb hby d22_44) (hw _ (List.mem_of_getElem? (i := 180) rfl)) (hw _ (List.mem_of_getElem? (i := 181) rfl)) (hw _ (List.mem_of_getElem? (i := 10) rfl)) (hw _ (List.mem_of_getElem? (i := 182) rfl)) (by decide) (rm_le1 l Z a0 hw a_x b_x a_k b_k h0 G7.old V_a V_b) (by decide) (W := 0) (by decide) (by rw [hml]; rfl) (argsL := [(.ref a_x), (.ref b_x)]) (lenOf pd_7 rfl) rfl (Nat.le_of_eq rfl) (cells' := 0) rfl (by decide) (slots' := 0) rfl (by decide) (pc' := 47) rfl ?_
    intro T8 r8 G8 Q8
    obtain rfl : r8 = .int (1 : Int32) := Q8
    refine Jvm.Own.ifN G8.here hx (hb hby d22_47) ((if0 _ _).trans (feq (by decide : ¬ (1 : Int32) = (0 : Int32))).1) (pc' := 50) rfl ?_
    refine Jvm.Own.iconst G8.here hx (hb hby d22_50) (v := (1 : Int32)) rfl (pc' := 51) rfl ?_
    refine Jvm.Own.goto G8.here hx (hb hby d22_51) (pc' := 55) (by decide) (by decide) ?_
    exact Jvm.Own.retI G8 hx (hb hby d22_55) hret hlk (by simp) rfl (by decide) (by decide) ⟨_, rfl, ⟨rfl, Or.inr rfl⟩⟩
theorem ef_rm_ip1 (m : MethodId) (x0 : Addr)  : entryFrame m #[(.ref x0)] 1 = mkF m 0 #[.val (.ref x0)] [] := by first | (simp [entryFrame, mkF, argsToLocals, catI, catR, catJ, catN]; done) | rfl
set_option maxRecDepth 65536 in
set_option maxHeartbeats 4000000 in
theorem rm_ip1 (l : Launch) (Z : State) (a0 : Array Value) (hw : ∀ d ∈ tables_1, d.before a0 Z = true) (a : Addr) (sc sc_x : Addr) (sc_k : ClassId) (cs : Int32) (h0 : Heap) (O0 : Ext Z.heap h0) (Ea : Exa Z h0 a "com/example/amphion/amphion/BeanDefinition") (Fs : Fld Z h0 a "com/example/amphion/amphion/BeanDefinition" "scope" "Ljava/lang/String;" (.ref sc)) (E_sc : Exa Z h0 sc "java/lang/String") (Fc_sc : Fld Z h0 sc "java/lang/String" "coder" "B" (.int (0 : Int32))) (Fv_sc : Fld Z h0 sc "java/lang/String" "value" "[B" (.ref sc_x)) (V_sc : Arv Z h0 sc_x sc_k .byte (9 : Int32) [(.int (112 : Int32)), (.int (114 : Int32)), (.int (111 : Int32)), (.int (116 : Int32)), (.int (111 : Int32)), (.int (116 : Int32)), (.int (121 : Int32)), (.int (112 : Int32)), (.int (101 : Int32))] (.int (0 : Int32))) (S_cs : Sta Z Z.heap "java/lang/String" "COMPACT_STRINGS" "Z" (.int cs)) (ncs : ¬ cs = (0 : Int32)) :
    Met1 true own_EL l Z (⟨"com/example/amphion/amphion/BeanDefinition", "isPrototype", "()Z"⟩ : MethodName) prog_3_method_12_code 1 (Option.some Jvm.ClassFile.FieldType.boolean) [] ({ frames := 2, cells := 2, slots := 40, locals := 28 } : Room) #[(.ref a)] h0 (q_ip h0) := by
  refine met_body (plainFor_of_name pn_9) O0 (own_EW hw) ?_
  intro p e s m below meth ck T0 hx hby hml hret hlk hnm G0
  refine Fz.entry (ef_rm_ip1 m a ) ?_
  have K0 : Keep h0 h0 [] := Keep.refl _ _
  refine Jvm.Own.aloadN G0.here hx (hb hby d20_0) rfl rfl (pc' := 1) rfl ?_
  refine Jvm.Own.callVP (y := (⟨"com/example/amphion/amphion/BeanDefinition", "getScope", "()Ljava/lang/String;"⟩ : MethodName)) (z := (⟨"com/example/amphion/amphion/BeanDefinition", "getScope", "()Ljava/lang/String;"⟩ : MethodName)) G0 hx (hb hby d20_1) (nfOf (y := (⟨"com/example/amphion/amphion/BeanDefinition", "getScope", "()Ljava/lang/String;"⟩ : MethodName)) (z := (⟨"com/example/amphion/amphion/BeanDefinition", "isPrototype", "()Z"⟩ : MethodName)) rfl (hw _ (List.mem_of_getElem? (i := 164) rfl))) (hw _ (List.mem_of_getElem? (i := 166) rfl)) (hw _ (List.mem_of_getElem? (i := 167) rfl)) (hw _ (List.mem_of_getElem? (i := 169) rfl)) (hw _ (List.mem_of_getElem? (i := 168) rfl)) (hw _ (List.mem_of_getElem? (i := 31) rfl)) (hw _ (List.mem_of_getElem? (i := 170) rfl)) (by decide) Ea (rm_gs1 l Z a0 hw a sc h0 G0.old Fs) (by decide) (W := 0) (by decide) (by rw [hml]; rfl) (argsL := []) (lenOf pd_6 rfl) rfl (Nat.le_of_eq rfl) (cells' := 0) rfl (by decide) (slots' := 0) rfl (by decide) (pc' := 4) rfl ?_
  intro T1 r1 G1 Q1
  obtain rfl : r1 = .ref sc := Q1
  refine Jvm.Own.ldcH (n := 36) (vs := [(.int (112 : Int32)), (.int (114 : Int32)), (.int (111 : Int32)), (.int (116 : Int32)), (.int (111 : Int32)), (.int (116 : Int32)), (.int (121 : Int32)), (.int (112 : Int32)), (.int (101 : Int32))]) (z := (9 : Int32)) G1 hx (hb hby d20_4) (hw _ (List.mem_of_getElem? (i := 174) rfl)) (own_wS hw) (List.mem_of_getElem? (i := 1) rfl) ⟨by decide, by rfl⟩ (by decide) (by decide) (by decide) (by decide) (cells' := 2) rfl (by decide) (slots' := 40) rfl (by decide) (pc' := 6) rfl ?_
  intro T2 h2 a2 c2 k2 G2 X2 E2 Fc2 Fv2 V2 N2
  have K4 : Keep h0 h2 [] := K0.ext X2
  have E5 := (E_sc.ext X2)
  have F6 := (Fc_sc.ext X2)
  have F7 := (Fv_sc.ext X2)
  have V8 := (V_sc.ext X2)
  refine Jvm.Own.callVP (y := (⟨"java/lang/String", "equals", "(Ljava/lang/Object;)Z"⟩ : MethodName)) (z := (⟨"java/lang/String", "equals", "(Ljava/lang/Object;)Z"⟩ : MethodName)) G2 hx (hb hby d20_6) (nfOf (y := (⟨"java/lang/String", "equals", "(Ljava/lang/Object;)Z"⟩ : MethodName)) (z := (⟨"java/lang/String", "equals", "(Ljava/lang/Object;)Z"⟩ : MethodName)) rfl (hw _ (List.mem_of_getElem? (i := 178) rfl))) (hw _ (List.mem_of_getElem? (i := 175) rfl)) (hw _ (List.mem_of_getElem? (i := 176) rfl)) (hw _ (List.mem_of_getElem? (i := 178) rfl)) (hw _ (List.mem_of_getElem? (i := 177) rfl)) (hw _ (List.mem_of_getElem? (i := 5) rfl)) (hw _ (List.mem_of_getElem? (i := 179) rfl)) (by decide) E5 (rm_eq1 l Z a0 hw sc sc_x sc_k a2 c2 k2 cs h2 G2.old E5 F6 F7 V8 E2 Fc2 Fv2 V2 S_cs ncs) (by decide) (W := 0) (by decide) (by rw [hml]; rfl) (argsL := [(.ref a2)]) (lenOf pd_8 rfl) rfl (Nat.le_of_eq rfl) (cells' := 2) rfl (by decide) (slots' := 40) rfl (by decide) (pc' := 9) rfl ?_
  intro T9 r9 G9 Q9
  obtain ⟨z9, rfl, hz9⟩ : ∃ z : Int32, r9 = .int z ∧ (z = 0 ∨ z = 1) := by
    rcases Q9 with e | e
    · exact ⟨0, e, Or.inl rfl⟩
    · exact ⟨1, e, Or.inr rfl⟩
  exact Jvm.Own.retI G9 hx (hb hby d20_9) hret hlk (by simp) (own_n01 hz9) (by decide) (by decide) ⟨_, rfl, ⟨_, rfl, hz9, K4⟩⟩
def q_mr (Z : State) (h0 : Heap) (pu : Addr) (w : Value) (h : Heap) : Prop := ∃ x, w = .ref x ∧ h0.size ≤ x ∧ Keep h0 h [] ∧ Exa Z h x "com/example/amphion/amphion/Making" ∧ Fld Z h x "com/example/amphion/amphion/Making" "purpose" "Lcom/example/amphion/amphion/Making$Purpose;" (.ref pu)
theorem d18_0 : decode prog_50_method_5_code 0 = .ok (.new 8, 3) := by decide +kernel
theorem d18_3 : decode prog_50_method_5_code 3 = .ok (.dup, 1) := by decide +kernel
theorem d18_4 : decode prog_50_method_5_code 4 = .ok (.aload_n 1, 1) := by decide +kernel
theorem d18_5 : decode prog_50_method_5_code 5 = .ok (.aload_n 3, 1) := by decide +kernel
theorem d18_6 : decode prog_50_method_5_code 6 = .ok (.aload_n 0, 1) := by decide +kernel
theorem d18_7 : decode prog_50_method_5_code 7 = .ok (.getfield 17, 3) := by decide +kernel
theorem d18_10 : decode prog_50_method_5_code 10 = .ok (.ifCond .eq 14, 3) := by decide +kernel
theorem d18_24 : decode prog_50_method_5_code 24 = .ok (.iconst 0, 1) := by decide +kernel
theorem d18_25 : decode prog_50_method_5_code 25 = .ok (.aload_n 0, 1) := by decide +kernel
theorem d18_26 : decode prog_50_method_5_code 26 = .ok (.getfield 21, 3) := by decide +kernel
theorem d18_29 : decode prog_50_method_5_code 29 = .ok (.aload_n 2, 1) := by decide +kernel
theorem d18_30 : decode prog_50_method_5_code 30 = .ok (.invokespecial 39, 3) := by decide +kernel
theorem pd_9 : parseMethodDescriptor "(Ljava/lang/String;Lcom/example/amphion/amphion/BeanDefinition;ZLcom/example/amphion/amphion/Making$Purpose;Lcom/example/amphion/amphion/BeanDefinition;)V" = some ⟨[(.object "java/lang/String"), (.object "com/example/amphion/amphion/BeanDefinition"), .boolean, (.object "com/example/amphion/amphion/Making$Purpose"), (.object "com/example/amphion/amphion/BeanDefinition")], none⟩ := by decide +kernel
theorem d18_33 : decode prog_50_method_5_code 33 = .ok (.areturn, 1) := by decide +kernel
theorem d18_13 : decode prog_50_method_5_code 13 = .ok (.aload_n 3, 1) := by decide +kernel
theorem d18_14 : decode prog_50_method_5_code 14 = .ok (.invokevirtual 28, 3) := by decide +kernel
theorem pd_10 : parseMethodDescriptor "()Z" = some ⟨[], some .boolean⟩ := by decide +kernel
theorem d18_17 : decode prog_50_method_5_code 17 = .ok (.ifCond .ne 7, 3) := by decide +kernel
theorem d18_20 : decode prog_50_method_5_code 20 = .ok (.iconst 1, 1) := by decide +kernel
theorem d18_21 : decode prog_50_method_5_code 21 = .ok (.goto 4, 3) := by decide +kernel
theorem ef_rm_in0 (m : MethodId) (x0 : Addr) (x1 : Addr) (x2 : Addr) (x3 : Addr)  : entryFrame m #[(.ref x0), (.ref x1), (.ref x2), (.ref x3)] 4 = mkF m 0 #[.val (.ref x0), .val (.ref x1), .val (.ref x2), .val (.ref x3)] [] := by first | (simp [entryFrame, mkF, argsToLocals, catI, catR, catJ, catN]; done) | rfl
set_option maxRecDepth 65536 in
set_option maxHeartbeats 4000000 in
theorem rm_in0 (l : Launch) (Z : State) (a0 : Array Value) (hw : ∀ d ∈ tables_1, d.before a0 Z = true) (a nm df ot pu : Addr) (kp : Int32) (cs : Int32) (h0 : Heap) (O0 : Ext Z.heap h0) (Fk : Fld Z h0 a "com/example/amphion/amphion/Making" "kept" "Z" (.int kp)) (Fp : Fld Z h0 a "com/example/amphion/amphion/Making" "purpose" "Lcom/example/amphion/amphion/Making$Purpose;" (.ref pu)) (Eo : Exa Z h0 ot "com/example/amphion/amphion/BeanDefinition") (Fs : Fld Z h0 ot "com/example/amphion/amphion/BeanDefinition" "scope" "Ljava/lang/String;" .null) (S_cs : Sta Z Z.heap "java/lang/String" "COMPACT_STRINGS" "Z" (.int cs)) (ncs : ¬ cs = (0 : Int32)) :
    Met1 true own_EL l Z (⟨"com/example/amphion/amphion/Making", "inner", "(Ljava/lang/String;Lcom/example/amphion/amphion/BeanDefinition;Lcom/example/amphion/amphion/BeanDefinition;)Lcom/example/amphion/amphion/Making;"⟩ : MethodName) prog_50_method_5_code 4 (Option.some (Jvm.ClassFile.FieldType.object "com/example/amphion/amphion/Making")) [] ({ frames := 3, cells := 5, slots := 85, locals := 44 } : Room) #[(.ref a), (.ref nm), (.ref df), (.ref ot)] h0 (q_mr Z h0 pu) := by
  refine met_body (plainFor_of_name pn_13) O0 (own_EW hw) ?_
  intro p e s m below meth ck T0 hx hby hml hret hlk hnm G0
  refine Fz.entry (ef_rm_in0 m a nm df ot ) ?_
  have K0 : Keep h0 h0 [] := Keep.refl _ _
  refine Jvm.Own.new G0 hx (hb hby d18_0) (hw _ (List.mem_of_getElem? (i := 156) rfl)) (hw _ (List.mem_of_getElem? (i := 123) rfl)) (hw _ (List.mem_of_getElem? (i := 124) rfl)) (cells' := 1) rfl (by decide) (slots' := 5) rfl (by decide) (pc' := 3) rfl ?_
  intro T1 h1 b1 z1 G1 X1 E1 D1
  have ga_b1 : Z.heap.size ≤ b1 := ge_new G0.old z1
  have sz_b1 : h0.size ≤ b1 := by rw [z1]; exact K0.1
  have K2 : Keep h0 h1 [] := K0.ext X1
  have F3 : Fld Z h1 b1 "com/example/amphion/amphion/Making" "name" "Ljava/lang/String;" .null := D1 (Or.inr (hw _ (List.mem_of_getElem? (i := 135) rfl))) (ty := (.object "java/lang/String")) (by decide)
  have F4 : Fld Z h1 b1 "com/example/amphion/amphion/Making" "definition" "Lcom/example/amphion/amphion/BeanDefinition;" .null := D1 (Or.inr (hw _ (List.mem_of_getElem? (i := 137) rfl))) (ty := (.object "com/example/amphion/amphion/BeanDefinition")) (by decide)
  have F5 : Fld Z h1 b1 "com/example/amphion/amphion/Making" "kept" "Z" (.int (0 : Int32)) := D1 (Or.inr (hw _ (List.mem_of_getElem? (i := 139) rfl))) (ty := .boolean) (by decide)
  have F6 : Fld Z h1 b1 "com/example/amphion/amphion/Making" "purpose" "Lcom/example/amphion/amphion/Making$Purpose;" .null := D1 (Or.inr (hw _ (List.mem_of_getElem? (i := 141) rfl))) (ty := (.object "com/example/amphion/amphion/Making$Purpose")) (by decide)
  have F7 : Fld Z h1 b1 "com/example/amphion/amphion/Making" "inner" "Lcom/example/amphion/amphion/BeanDefinition;" .null := D1 (Or.inr (hw _ (List.mem_of_getElem? (i := 143) rfl))) (ty := (.object "com/example/amphion/amphion/BeanDefinition")) (by decide)
  refine Jvm.Own.dup G1.here hx (hb hby d18_3) rfl (pc' := 4) rfl ?_
  refine Jvm.Own.aloadN G1.here hx (hb hby d18_4) rfl rfl (pc' := 5) rfl ?_
  refine Jvm.Own.aloadN G1.here hx (hb hby d18_5) rfl rfl (pc' := 6) rfl ?_
  refine Jvm.Own.aloadN G1.here hx (hb hby d18_6) rfl rfl (pc' := 7) rfl ?_
  have F8 := (Fk.ext X1)
  refine Jvm.Own.getfield G1 hx (hb hby d18_7) (host := "") (Or.inl (hw _ (List.mem_of_getElem? (i := 138) rfl))) Via.refl F8 (pc' := 10) rfl ?_
  intro T9 G9
  by_cases hc10 : kp = (0 : Int32)
  · skip
    refine Jvm.Own.ifY G9.here hx (hb hby d18_10) ((if0 _ _).trans (teq hc10).1) (pc' := 24) (by decide) (by decide) ?_
    refine Jvm.Own.iconst G9.here hx (hb hby d18_24) (v := (0 : Int32)) rfl (pc' := 25) rfl ?_
    refine Jvm.Own.aloadN G9.here hx (hb hby d18_25) rfl rfl (pc' := 26) rfl ?_
    have F10 := (Fp.ext X1)
    refine Jvm.Own.getfield G9 hx (hb hby d18_26) (host := "") (Or.inl (hw _ (List.mem_of_getElem? (i := 140) rfl))) Via.refl F10 (pc' := 29) rfl ?_
    intro T11 G11
    refine Jvm.Own.aloadN G11.here hx (hb hby d18_29) rfl rfl (pc' := 30) rfl ?_
    refine Jvm.Own.callI0 (y := (⟨"com/example/amphion/amphion/Making", "<init>", "(Ljava/lang/String;Lcom/example/amphion/amphion/BeanDefinition;ZLcom/example/amphion/amphion/Making$Purpose;Lcom/example/amphion/amphion/BeanDefinition;)V"⟩ : MethodName)) G11 hx (hb hby d18_30) rfl (hw _ (List.mem_of_getElem? (i := 157) rfl)) (hw _ (List.mem_of_getElem? (i := 126) rfl)) (hw _ (List.mem_of_getElem? (i := 124) rfl)) (hw _ (List.mem_of_getElem? (i := 127) rfl)) (by decide) (rm_mk l Z a0 hw b1 nm (.ref ot) (0 : Int32) pu (.ref df) h1 G11.old ga_b1 E1 F3 F4 F5 F6 F7 rfl rfl (own_n01 (by decide)) (own_f01 (by decide))) (by decide) (W := 1) (by decide) (by rw [hml]; rfl) (argsL := [(.ref nm), (.ref ot), (.int (0 : Int32)), (.ref pu), (.ref df)]) (lenOf pd_9 rfl) rfl (Nat.le_of_eq rfl) (cells' := 1) rfl (by decide) (slots' := 5) rfl (by decide) (pc' := 33) rfl ?_
    intro T12 h12 G12 Q12
    obtain ⟨K12, E12, Fp12, Fk12⟩ := Q12
    have K13 : Keep h0 h12 [] := K2.trans K12 (allS (Or.inr sz_b1) all0)
    exact Jvm.Own.retA G12 hx (hb hby d18_33) hret hlk rfl rfl rfl (by decide) (by decide) ⟨_, rfl, ⟨_, rfl, sz_b1, K13, E12, Fp12⟩⟩
  · skip
    refine Jvm.Own.ifN G9.here hx (hb hby d18_10) ((if0 _ _).trans (feq hc10).1) (pc' := 13) rfl ?_
    refine Jvm.Own.aloadN G9.here hx (hb hby d18_13) rfl rfl (pc' := 14) rfl ?_
    have E14 := (Eo.ext X1)
    have F15 := (Fs.ext X1)
    refine Jvm.Own.callV1 (y := (⟨"com/example/amphion/amphion/BeanDefinition", "isPrototype", "()Z"⟩ : MethodName)) (z := (⟨"com/example/amphion/amphion/BeanDefinition", "isPrototype", "()Z"⟩ : MethodName)) G9 hx (hb hby d18_14) (nfOf (y := (⟨"com/example/amphion/amphion/BeanDefinition", "isPrototype", "()Z"⟩ : MethodName)) (z := (⟨"com/example/amphion/amphion/BeanDefinition", "isPrototype", "()Z"⟩ : MethodName)) rfl (hw _ (List.mem_of_getElem? (i := 164) rfl))) (hw _ (List.mem_of_getElem? (i := 161) rfl)) (hw _ (List.mem_of_getElem? (i := 162) rfl)) (hw _ (List.mem_of_getElem? (i := 164) rfl)) (hw _ (List.mem_of_getElem? (i := 163) rfl)) (hw _ (List.mem_of_getElem? (i := 31) rfl)) (hw _ (List.mem_of_getElem? (i := 165) rfl)) (by decide) E14 (rm_ip0 l Z a0 hw ot  cs h1 G9.old E14 F15 S_cs ncs) (by decide) (W := 4) (by decide) (by rw [hml]; rfl) (argsL := []) (lenOf pd_10 rfl) rfl (Nat.le_of_eq rfl) (cells' := 5) rfl (by decide) (slots' := 85) rfl (by decide) (pc' := 17) rfl ?_
    intro T16 h16 r16 G16 Q16
    obtain ⟨y16, rfl, hy16, K16⟩ := Q16
    have K17 : Keep h0 h16 [] := K2.trans K16 all0
    by_cases hc17 : y16 = (0 : Int32)
    · skip
      refine Jvm.Own.ifN G16.here hx (hb hby d18_17) ((if0 _ _).trans (teq hc17).2) (pc' := 20) rfl ?_
      refine Jvm.Own.iconst G16.here hx (hb hby d18_20) (v := (1 : Int32)) rfl (pc' := 21) rfl ?_
      refine Jvm.Own.goto G16.here hx (hb hby d18_21) (pc' := 25) (by decide) (by decide) ?_
      refine Jvm.Own.aloadN G16.here hx (hb hby d18_25) rfl rfl (pc' := 26) rfl ?_
      have F18 := ((Fp.ext X1).keep K16 nin0)
      refine Jvm.Own.getfield G16 hx (hb hby d18_26) (host := "") (Or.inl (hw _ (List.mem_of_getElem? (i := 140) rfl))) Via.refl F18 (pc' := 29) rfl ?_
      intro T19 G19
      refine Jvm.Own.aloadN G19.here hx (hb hby d18_29) rfl rfl (pc' := 30) rfl ?_
      have E20 := (E1.keep K16)
      have F21 := (F3.keep K16 nin0)
      have F22 := (F4.keep K16 nin0)
      have F23 := (F5.keep K16 nin0)
      have F24 := (F6.keep K16 nin0)
      have F25 := (F7.keep K16 nin0)
      refine Jvm.Own.callI0 (y := (⟨"com/example/amphion/amphion/Making", "<init>", "(Ljava/lang/String;Lcom/example/amphion/amphion/BeanDefinition;ZLcom/example/amphion/amphion/Making$Purpose;Lcom/example/amphion/amphion/BeanDefinition;)V"⟩ : MethodName)) G19 hx (hb hby d18_30) rfl (hw _ (List.mem_of_getElem? (i := 157) rfl)) (hw _ (List.mem_of_getElem? (i := 126) rfl)) (hw _ (List.mem_of_getElem? (i := 124) rfl)) (hw _ (List.mem_of_getElem? (i := 127) rfl)) (by decide) (rm_mk l Z a0 hw b1 nm (.ref ot) (1 : Int32) pu (.ref df) h16 G19.old ga_b1 E20 F21 F22 F23 F24 F25 rfl rfl (own_n01 (by decide)) (own_f01 (by decide))) (by decide) (W := 1) (by decide) (by rw [hml]; rfl) (argsL := [(.ref nm), (.ref ot), (.int (1 : Int32)), (.ref pu), (.ref df)]) (lenOf pd_9 rfl) rfl (Nat.le_of_eq rfl) (cells' := 5) rfl (by decide) (slots' := 85) rfl (by decide) (pc' := 33) rfl ?_
      intro T26 h26 G26 Q26
      obtain ⟨K26, E26, Fp26, Fk26⟩ := Q26
      have K27 : Keep h0 h26 [] := K17.trans K26 (allS (Or.inr sz_b1) all0)
      exact Jvm.Own.retA G26 hx (hb hby d18_33) hret hlk rfl rfl rfl (by decide) (by decide) ⟨_, rfl, ⟨_, rfl, sz_b1, K27, E26, Fp26⟩⟩
    · skip
      refine Jvm.Own.ifY G16.here hx (hb hby d18_17) ((if0 _ _).trans (feq hc17).2) (pc' := 24) (by decide) (by decide) ?_
      refine Jvm.Own.iconst G16.here hx (hb hby d18_24) (v := (0 : Int32)) rfl (pc' := 25) rfl ?_
      refine Jvm.Own.aloadN G16.here hx (hb hby d18_25) rfl rfl (pc' := 26) rfl ?_
      have F28 := ((Fp.ext X1).keep K16 nin0)
      refine Jvm.Own.getfield G16 hx (hb hby d18_26) (host := "") (Or.inl (hw _ (List.mem_of_getElem? (i := 140) rfl))) Via.refl F28 (pc' := 29) rfl ?_
      intro T29 G29
      refine Jvm.Own.aloadN G29.here hx (hb hby d18_29) rfl rfl (pc' := 30) rfl ?_
      have E30 := (E1.keep K16)
      have F31 := (F3.keep K16 nin0)
      have F32 := (F4.keep K16 nin0)
      have F33 := (F5.keep K16 nin0)
      have F34 := (F6.keep K16 nin0)
      have F35 := (F7.keep K16 nin0)
      refine Jvm.Own.callI0 (y := (⟨"com/example/amphion/amphion/Making", "<init>", "(Ljava/lang/String;Lcom/example/amphion/amphion/BeanDefinition;ZLcom/example/amphion/amphion/Making$Purpose;Lcom/example/amphion/amphion/BeanDefinition;)V"⟩ : MethodName)) G29 hx (hb hby d18_30) rfl (hw _ (List.mem_of_getElem? (i := 157) rfl)) (hw _ (List.mem_of_getElem? (i := 126) rfl)) (hw _ (List.mem_of_getElem? (i := 124) rfl)) (hw _ (List.mem_of_getElem? (i := 127) rfl)) (by decide) (rm_mk l Z a0 hw b1 nm (.ref ot) (0 : Int32) pu (.ref df) h16 G29.old ga_b1 E30 F31 F32 F33 F34 F35 rfl rfl (own_n01 (by decide)) (own_f01 (by decide))) (by decide) (W := 1) (by decide) (by rw [hml]; rfl) (argsL := [(.ref nm), (.ref ot), (.int (0 : Int32)), (.ref pu), (.ref df)]) (lenOf pd_9 rfl) rfl (Nat.le_of_eq rfl) (cells' := 5) rfl (by decide) (slots' := 85) rfl (by decide) (pc' := 33) rfl ?_
      intro T36 h36 G36 Q36
      obtain ⟨K36, E36, Fp36, Fk36⟩ := Q36
      have K37 : Keep h0 h36 [] := K17.trans K36 (allS (Or.inr sz_b1) all0)
      exact Jvm.Own.retA G36 hx (hb hby d18_33) hret hlk rfl rfl rfl (by decide) (by decide) ⟨_, rfl, ⟨_, rfl, sz_b1, K37, E36, Fp36⟩⟩
theorem d19_0 : decode prog_50_method_2_code 0 = .ok (.new 8, 3) := by decide +kernel
theorem d19_3 : decode prog_50_method_2_code 3 = .ok (.dup, 1) := by decide +kernel
theorem d19_4 : decode prog_50_method_2_code 4 = .ok (.aload_n 0, 1) := by decide +kernel
theorem d19_5 : decode prog_50_method_2_code 5 = .ok (.aload_n 1, 1) := by decide +kernel
theorem d19_6 : decode prog_50_method_2_code 6 = .ok (.aload_n 1, 1) := by decide +kernel
theorem d19_7 : decode prog_50_method_2_code 7 = .ok (.invokevirtual 28, 3) := by decide +kernel
theorem d19_10 : decode prog_50_method_2_code 10 = .ok (.ifCond .ne 7, 3) := by decide +kernel
theorem d19_13 : decode prog_50_method_2_code 13 = .ok (.iconst 1, 1) := by decide +kernel
theorem d19_14 : decode prog_50_method_2_code 14 = .ok (.goto 4, 3) := by decide +kernel
theorem d19_18 : decode prog_50_method_2_code 18 = .ok (.getstatic 34, 3) := by decide +kernel
theorem d19_21 : decode prog_50_method_2_code 21 = .ok (.aconst_null, 1) := by decide +kernel
theorem d19_22 : decode prog_50_method_2_code 22 = .ok (.invokespecial 39, 3) := by decide +kernel
theorem d19_25 : decode prog_50_method_2_code 25 = .ok (.areturn, 1) := by decide +kernel
theorem d19_17 : decode prog_50_method_2_code 17 = .ok (.iconst 0, 1) := by decide +kernel
theorem ef_rm_of0 (m : MethodId) (x0 : Addr) (x1 : Addr)  : entryFrame m #[(.ref x0), (.ref x1)] 2 = mkF m 0 #[.val (.ref x0), .val (.ref x1)] [] := by first | (simp [entryFrame, mkF, argsToLocals, catI, catR, catJ, catN]; done) | rfl
set_option maxRecDepth 65536 in
set_option maxHeartbeats 4000000 in
theorem rm_of0 (l : Launch) (Z : State) (a0 : Array Value) (hw : ∀ d ∈ tables_1, d.before a0 Z = true) (nm ot : Addr) (w_s_Making_Purpose_SERVED : Addr) (w_s_Making_Purpose_TYPE_CHECK : Addr) (cs : Int32) (h0 : Heap) (O0 : Ext Z.heap h0) (S_s_Making_Purpose_SERVED : Sta Z Z.heap "com/example/amphion/amphion/Making$Purpose" "SERVED" "Lcom/example/amphion/amphion/Making$Purpose;" (.ref w_s_Making_Purpose_SERVED)) (E_s_Making_Purpose_SERVED : Exa Z Z.heap w_s_Making_Purpose_SERVED "com/example/amphion/amphion/Making$Purpose") (S_s_Making_Purpose_TYPE_CHECK : Sta Z Z.heap "com/example/amphion/amphion/Making$Purpose" "TYPE_CHECK" "Lcom/example/amphion/amphion/Making$Purpose;" (.ref w_s_Making_Purpose_TYPE_CHECK)) (E_s_Making_Purpose_TYPE_CHECK : Exa Z Z.heap w_s_Making_Purpose_TYPE_CHECK "com/example/amphion/amphion/Making$Purpose") (F_s_Making_Purpose_SERVED_ordinal : Fld Z Z.heap w_s_Making_Purpose_SERVED "java/lang/Enum" "ordinal" "I" (.int (0 : Int32))) (F_s_Making_Purpose_TYPE_CHECK_ordinal : Fld Z Z.heap w_s_Making_Purpose_TYPE_CHECK "java/lang/Enum" "ordinal" "I" (.int (1 : Int32))) (Eo : Exa Z h0 ot "com/example/amphion/amphion/BeanDefinition") (Fs : Fld Z h0 ot "com/example/amphion/amphion/BeanDefinition" "scope" "Ljava/lang/String;" .null) (S_cs : Sta Z Z.heap "java/lang/String" "COMPACT_STRINGS" "Z" (.int cs)) (ncs : ¬ cs = (0 : Int32)) :
    Met1 true own_EL l Z (⟨"com/example/amphion/amphion/Making", "of", "(Ljava/lang/String;Lcom/example/amphion/amphion/BeanDefinition;)Lcom/example/amphion/amphion/Making;"⟩ : MethodName) prog_50_method_2_code 2 (Option.some (Jvm.ClassFile.FieldType.object "com/example/amphion/amphion/Making")) [] ({ frames := 3, cells := 5, slots := 85, locals := 44 } : Room) #[(.ref nm), (.ref ot)] h0 (q_mr Z h0 w_s_Making_Purpose_SERVED) := by
  refine met_body (plainFor_of_name pn_13) O0 (own_EW hw) ?_
  intro p e s m below meth ck T0 hx hby hml hret hlk hnm G0
  refine Fz.entry (ef_rm_of0 m nm ot ) ?_
  have K0 : Keep h0 h0 [] := Keep.refl _ _
  refine Jvm.Own.new G0 hx (hb hby d19_0) (hw _ (List.mem_of_getElem? (i := 156) rfl)) (hw _ (List.mem_of_getElem? (i := 123) rfl)) (hw _ (List.mem_of_getElem? (i := 124) rfl)) (cells' := 1) rfl (by decide) (slots' := 5) rfl (by decide) (pc' := 3) rfl ?_
  intro T1 h1 b1 z1 G1 X1 E1 D1
  have ga_b1 : Z.heap.size ≤ b1 := ge_new G0.old z1
  have sz_b1 : h0.size ≤ b1 := by rw [z1]; exact K0.1
  have K2 : Keep h0 h1 [] := K0.ext X1
  have F3 : Fld Z h1 b1 "com/example/amphion/amphion/Making" "name" "Ljava/lang/String;" .null := D1 (Or.inr (hw _ (List.mem_of_getElem? (i := 135) rfl))) (ty := (.object "java/lang/String")) (by decide)
  have F4 : Fld Z h1 b1 "com/example/amphion/amphion/Making" "definition" "Lcom/example/amphion/amphion/BeanDefinition;" .null := D1 (Or.inr (hw _ (List.mem_of_getElem? (i := 137) rfl))) (ty := (.object "com/example/amphion/amphion/BeanDefinition")) (by decide)
  have F5 : Fld Z h1 b1 "com/example/amphion/amphion/Making" "kept" "Z" (.int (0 : Int32)) := D1 (Or.inr (hw _ (List.mem_of_getElem? (i := 139) rfl))) (ty := .boolean) (by decide)
  have F6 : Fld Z h1 b1 "com/example/amphion/amphion/Making" "purpose" "Lcom/example/amphion/amphion/Making$Purpose;" .null := D1 (Or.inr (hw _ (List.mem_of_getElem? (i := 141) rfl))) (ty := (.object "com/example/amphion/amphion/Making$Purpose")) (by decide)
  have F7 : Fld Z h1 b1 "com/example/amphion/amphion/Making" "inner" "Lcom/example/amphion/amphion/BeanDefinition;" .null := D1 (Or.inr (hw _ (List.mem_of_getElem? (i := 143) rfl))) (ty := (.object "com/example/amphion/amphion/BeanDefinition")) (by decide)
  refine Jvm.Own.dup G1.here hx (hb hby d19_3) rfl (pc' := 4) rfl ?_
  refine Jvm.Own.aloadN G1.here hx (hb hby d19_4) rfl rfl (pc' := 5) rfl ?_
  refine Jvm.Own.aloadN G1.here hx (hb hby d19_5) rfl rfl (pc' := 6) rfl ?_
  refine Jvm.Own.aloadN G1.here hx (hb hby d19_6) rfl rfl (pc' := 7) rfl ?_
  have E8 := (Eo.ext X1)
  have F9 := (Fs.ext X1)
  refine Jvm.Own.callV1 (y := (⟨"com/example/amphion/amphion/BeanDefinition", "isPrototype", "()Z"⟩ : MethodName)) (z := (⟨"com/example/amphion/amphion/BeanDefinition", "isPrototype", "()Z"⟩ : MethodName)) G1 hx (hb hby d19_7) (nfOf (y := (⟨"com/example/amphion/amphion/BeanDefinition", "isPrototype", "()Z"⟩ : MethodName)) (z := (⟨"com/example/amphion/amphion/BeanDefinition", "isPrototype", "()Z"⟩ : MethodName)) rfl (hw _ (List.mem_of_getElem? (i := 164) rfl))) (hw _ (List.mem_of_getElem? (i := 161) rfl)) (hw _ (List.mem_of_getElem? (i := 162) rfl)) (hw _ (List.mem_of_getElem? (i := 164) rfl)) (hw _ (List.mem_of_getElem? (i := 163) rfl)) (hw _ (List.mem_of_getElem? (i := 31) rfl)) (hw _ (List.mem_of_getElem? (i := 165) rfl)) (by decide) E8 (rm_ip0 l Z a0 hw ot  cs h1 G1.old E8 F9 S_cs ncs) (by decide) (W := 4) (by decide) (by rw [hml]; rfl) (argsL := []) (lenOf pd_10 rfl) rfl (Nat.le_of_eq rfl) (cells' := 5) rfl (by decide) (slots' := 85) rfl (by decide) (pc' := 10) rfl ?_
  intro T10 h10 r10 G10 Q10
  obtain ⟨y10, rfl, hy10, K10⟩ := Q10
  have K11 : Keep h0 h10 [] := K2.trans K10 all0
  by_cases hc10 : y10 = (0 : Int32)
  · skip
    refine Jvm.Own.ifN G10.here hx (hb hby d19_10) ((if0 _ _).trans (teq hc10).2) (pc' := 13) rfl ?_
    refine Jvm.Own.iconst G10.here hx (hb hby d19_13) (v := (1 : Int32)) rfl (pc' := 14) rfl ?_
    refine Jvm.Own.goto G10.here hx (hb hby d19_14) (pc' := 18) (by decide) (by decide) ?_
    refine Jvm.Own.getstatic G10 hx (hb hby d19_18) (host := "") (Or.inl (hw _ (List.mem_of_getElem? (i := 183) rfl))) Via.refl S_s_Making_Purpose_SERVED (pc' := 21) rfl ?_
    intro T12 G12
    refine Jvm.Own.aconstNull G12.here hx (hb hby d19_21) (pc' := 22) rfl ?_
    have E13 := (E1.keep K10)
    have F14 := (F3.keep K10 nin0)
    have F15 := (F4.keep K10 nin0)
    have F16 := (F5.keep K10 nin0)
    have F17 := (F6.keep K10 nin0)
    have F18 := (F7.keep K10 nin0)
    refine Jvm.Own.callI0 (y := (⟨"com/example/amphion/amphion/Making", "<init>", "(Ljava/lang/String;Lcom/example/amphion/amphion/BeanDefinition;ZLcom/example/amphion/amphion/Making$Purpose;Lcom/example/amphion/amphion/BeanDefinition;)V"⟩ : MethodName)) G12 hx (hb hby d19_22) rfl (hw _ (List.mem_of_getElem? (i := 157) rfl)) (hw _ (List.mem_of_getElem? (i := 126) rfl)) (hw _ (List.mem_of_getElem? (i := 124) rfl)) (hw _ (List.mem_of_getElem? (i := 127) rfl)) (by decide) (rm_mk l Z a0 hw b1 nm (.ref ot) (1 : Int32) w_s_Making_Purpose_SERVED .null h10 G12.old ga_b1 E13 F14 F15 F16 F17 F18 rfl rfl (own_n01 (by decide)) (own_f01 (by decide))) (by decide) (W := 1) (by decide) (by rw [hml]; rfl) (argsL := [(.ref nm), (.ref ot), (.int (1 : Int32)), (.ref w_s_Making_Purpose_SERVED), .null]) (lenOf pd_9 rfl) rfl (Nat.le_of_eq rfl) (cells' := 5) rfl (by decide) (slots' := 85) rfl (by decide) (pc' := 25) rfl ?_
    intro T19 h19 G19 Q19
    obtain ⟨K19, E19, Fp19, Fk19⟩ := Q19
    have K20 : Keep h0 h19 [] := K11.trans K19 (allS (Or.inr sz_b1) all0)
    exact Jvm.Own.retA G19 hx (hb hby d19_25) hret hlk rfl rfl rfl (by decide) (by decide) ⟨_, rfl, ⟨_, rfl, sz_b1, K20, E19, Fp19⟩⟩
  · skip
    refine Jvm.Own.ifY G10.here hx (hb hby d19_10) ((if0 _ _).trans (feq hc10).2) (pc' := 17) (by decide) (by decide) ?_
    refine Jvm.Own.iconst G10.here hx (hb hby d19_17) (v := (0 : Int32)) rfl (pc' := 18) rfl ?_
    refine Jvm.Own.getstatic G10 hx (hb hby d19_18) (host := "") (Or.inl (hw _ (List.mem_of_getElem? (i := 183) rfl))) Via.refl S_s_Making_Purpose_SERVED (pc' := 21) rfl ?_
    intro T21 G21
    refine Jvm.Own.aconstNull G21.here hx (hb hby d19_21) (pc' := 22) rfl ?_
    have E22 := (E1.keep K10)
    have F23 := (F3.keep K10 nin0)
    have F24 := (F4.keep K10 nin0)
    have F25 := (F5.keep K10 nin0)
    have F26 := (F6.keep K10 nin0)
    have F27 := (F7.keep K10 nin0)
    refine Jvm.Own.callI0 (y := (⟨"com/example/amphion/amphion/Making", "<init>", "(Ljava/lang/String;Lcom/example/amphion/amphion/BeanDefinition;ZLcom/example/amphion/amphion/Making$Purpose;Lcom/example/amphion/amphion/BeanDefinition;)V"⟩ : MethodName)) G21 hx (hb hby d19_22) rfl (hw _ (List.mem_of_getElem? (i := 157) rfl)) (hw _ (List.mem_of_getElem? (i := 126) rfl)) (hw _ (List.mem_of_getElem? (i := 124) rfl)) (hw _ (List.mem_of_getElem? (i := 127) rfl)) (by decide) (rm_mk l Z a0 hw b1 nm (.ref ot) (0 : Int32) w_s_Making_Purpose_SERVED .null h10 G21.old ga_b1 E22 F23 F24 F25 F26 F27 rfl rfl (own_n01 (by decide)) (own_f01 (by decide))) (by decide) (W := 1) (by decide) (by rw [hml]; rfl) (argsL := [(.ref nm), (.ref ot), (.int (0 : Int32)), (.ref w_s_Making_Purpose_SERVED), .null]) (lenOf pd_9 rfl) rfl (Nat.le_of_eq rfl) (cells' := 5) rfl (by decide) (slots' := 85) rfl (by decide) (pc' := 25) rfl ?_
    intro T28 h28 G28 Q28
    obtain ⟨K28, E28, Fp28, Fk28⟩ := Q28
    have K29 : Keep h0 h28 [] := K11.trans K28 (allS (Or.inr sz_b1) all0)
    exact Jvm.Own.retA G28 hx (hb hby d19_25) hret hlk rfl rfl rfl (by decide) (by decide) ⟨_, rfl, ⟨_, rfl, sz_b1, K29, E28, Fp28⟩⟩
theorem d25_0 : decode prog_50_method_3_code 0 = .ok (.new 8, 3) := by decide +kernel
theorem d25_3 : decode prog_50_method_3_code 3 = .ok (.dup, 1) := by decide +kernel
theorem d25_4 : decode prog_50_method_3_code 4 = .ok (.aload_n 0, 1) := by decide +kernel
theorem d25_5 : decode prog_50_method_3_code 5 = .ok (.aload_n 1, 1) := by decide +kernel
theorem d25_6 : decode prog_50_method_3_code 6 = .ok (.aload_n 1, 1) := by decide +kernel
theorem d25_7 : decode prog_50_method_3_code 7 = .ok (.invokevirtual 28, 3) := by decide +kernel
theorem d25_10 : decode prog_50_method_3_code 10 = .ok (.ifCond .ne 7, 3) := by decide +kernel
theorem d25_13 : decode prog_50_method_3_code 13 = .ok (.iconst 1, 1) := by decide +kernel
theorem d25_14 : decode prog_50_method_3_code 14 = .ok (.goto 4, 3) := by decide +kernel
theorem d25_18 : decode prog_50_method_3_code 18 = .ok (.getstatic 42, 3) := by decide +kernel
theorem d25_21 : decode prog_50_method_3_code 21 = .ok (.aconst_null, 1) := by decide +kernel
theorem d25_22 : decode prog_50_method_3_code 22 = .ok (.invokespecial 39, 3) := by decide +kernel
theorem d25_25 : decode prog_50_method_3_code 25 = .ok (.areturn, 1) := by decide +kernel
theorem d25_17 : decode prog_50_method_3_code 17 = .ok (.iconst 0, 1) := by decide +kernel
theorem ef_rm_tc0 (m : MethodId) (x0 : Addr) (x1 : Addr)  : entryFrame m #[(.ref x0), (.ref x1)] 2 = mkF m 0 #[.val (.ref x0), .val (.ref x1)] [] := by first | (simp [entryFrame, mkF, argsToLocals, catI, catR, catJ, catN]; done) | rfl
set_option maxRecDepth 65536 in
set_option maxHeartbeats 4000000 in
theorem rm_tc0 (l : Launch) (Z : State) (a0 : Array Value) (hw : ∀ d ∈ tables_1, d.before a0 Z = true) (nm ot : Addr) (w_s_Making_Purpose_SERVED : Addr) (w_s_Making_Purpose_TYPE_CHECK : Addr) (cs : Int32) (h0 : Heap) (O0 : Ext Z.heap h0) (S_s_Making_Purpose_SERVED : Sta Z Z.heap "com/example/amphion/amphion/Making$Purpose" "SERVED" "Lcom/example/amphion/amphion/Making$Purpose;" (.ref w_s_Making_Purpose_SERVED)) (E_s_Making_Purpose_SERVED : Exa Z Z.heap w_s_Making_Purpose_SERVED "com/example/amphion/amphion/Making$Purpose") (S_s_Making_Purpose_TYPE_CHECK : Sta Z Z.heap "com/example/amphion/amphion/Making$Purpose" "TYPE_CHECK" "Lcom/example/amphion/amphion/Making$Purpose;" (.ref w_s_Making_Purpose_TYPE_CHECK)) (E_s_Making_Purpose_TYPE_CHECK : Exa Z Z.heap w_s_Making_Purpose_TYPE_CHECK "com/example/amphion/amphion/Making$Purpose") (F_s_Making_Purpose_SERVED_ordinal : Fld Z Z.heap w_s_Making_Purpose_SERVED "java/lang/Enum" "ordinal" "I" (.int (0 : Int32))) (F_s_Making_Purpose_TYPE_CHECK_ordinal : Fld Z Z.heap w_s_Making_Purpose_TYPE_CHECK "java/lang/Enum" "ordinal" "I" (.int (1 : Int32))) (Eo : Exa Z h0 ot "com/example/amphion/amphion/BeanDefinition") (Fs : Fld Z h0 ot "com/example/amphion/amphion/BeanDefinition" "scope" "Ljava/lang/String;" .null) (S_cs : Sta Z Z.heap "java/lang/String" "COMPACT_STRINGS" "Z" (.int cs)) (ncs : ¬ cs = (0 : Int32)) :
    Met1 true own_EL l Z (⟨"com/example/amphion/amphion/Making", "forTypeCheck", "(Ljava/lang/String;Lcom/example/amphion/amphion/BeanDefinition;)Lcom/example/amphion/amphion/Making;"⟩ : MethodName) prog_50_method_3_code 2 (Option.some (Jvm.ClassFile.FieldType.object "com/example/amphion/amphion/Making")) [] ({ frames := 3, cells := 5, slots := 85, locals := 44 } : Room) #[(.ref nm), (.ref ot)] h0 (q_mr Z h0 w_s_Making_Purpose_TYPE_CHECK) := by
  refine met_body (plainFor_of_name pn_13) O0 (own_EW hw) ?_
  intro p e s m below meth ck T0 hx hby hml hret hlk hnm G0
  refine Fz.entry (ef_rm_tc0 m nm ot ) ?_
  have K0 : Keep h0 h0 [] := Keep.refl _ _
  refine Jvm.Own.new G0 hx (hb hby d25_0) (hw _ (List.mem_of_getElem? (i := 156) rfl)) (hw _ (List.mem_of_getElem? (i := 123) rfl)) (hw _ (List.mem_of_getElem? (i := 124) rfl)) (cells' := 1) rfl (by decide) (slots' := 5) rfl (by decide) (pc' := 3) rfl ?_
  intro T1 h1 b1 z1 G1 X1 E1 D1
  have ga_b1 : Z.heap.size ≤ b1 := ge_new G0.old z1
  have sz_b1 : h0.size ≤ b1 := by rw [z1]; exact K0.1
  have K2 : Keep h0 h1 [] := K0.ext X1
  have F3 : Fld Z h1 b1 "com/example/amphion/amphion/Making" "name" "Ljava/lang/String;" .null := D1 (Or.inr (hw _ (List.mem_of_getElem? (i := 135) rfl))) (ty := (.object "java/lang/String")) (by decide)
  have F4 : Fld Z h1 b1 "com/example/amphion/amphion/Making" "definition" "Lcom/example/amphion/amphion/BeanDefinition;" .null := D1 (Or.inr (hw _ (List.mem_of_getElem? (i := 137) rfl))) (ty := (.object "com/example/amphion/amphion/BeanDefinition")) (by decide)
  have F5 : Fld Z h1 b1 "com/example/amphion/amphion/Making" "kept" "Z" (.int (0 : Int32)) := D1 (Or.inr (hw _ (List.mem_of_getElem? (i := 139) rfl))) (ty := .boolean) (by decide)
  have F6 : Fld Z h1 b1 "com/example/amphion/amphion/Making" "purpose" "Lcom/example/amphion/amphion/Making$Purpose;" .null := D1 (Or.inr (hw _ (List.mem_of_getElem? (i := 141) rfl))) (ty := (.object "com/example/amphion/amphion/Making$Purpose")) (by decide)
  have F7 : Fld Z h1 b1 "com/example/amphion/amphion/Making" "inner" "Lcom/example/amphion/amphion/BeanDefinition;" .null := D1 (Or.inr (hw _ (List.mem_of_getElem? (i := 143) rfl))) (ty := (.object "com/example/amphion/amphion/BeanDefinition")) (by decide)
  refine Jvm.Own.dup G1.here hx (hb hby d25_3) rfl (pc' := 4) rfl ?_
  refine Jvm.Own.aloadN G1.here hx (hb hby d25_4) rfl rfl (pc' := 5) rfl ?_
  refine Jvm.Own.aloadN G1.here hx (hb hby d25_5) rfl rfl (pc' := 6) rfl ?_
  refine Jvm.Own.aloadN G1.here hx (hb hby d25_6) rfl rfl (pc' := 7) rfl ?_
  have E8 := (Eo.ext X1)
  have F9 := (Fs.ext X1)
  refine Jvm.Own.callV1 (y := (⟨"com/example/amphion/amphion/BeanDefinition", "isPrototype", "()Z"⟩ : MethodName)) (z := (⟨"com/example/amphion/amphion/BeanDefinition", "isPrototype", "()Z"⟩ : MethodName)) G1 hx (hb hby d25_7) (nfOf (y := (⟨"com/example/amphion/amphion/BeanDefinition", "isPrototype", "()Z"⟩ : MethodName)) (z := (⟨"com/example/amphion/amphion/BeanDefinition", "isPrototype", "()Z"⟩ : MethodName)) rfl (hw _ (List.mem_of_getElem? (i := 164) rfl))) (hw _ (List.mem_of_getElem? (i := 161) rfl)) (hw _ (List.mem_of_getElem? (i := 162) rfl)) (hw _ (List.mem_of_getElem? (i := 164) rfl)) (hw _ (List.mem_of_getElem? (i := 163) rfl)) (hw _ (List.mem_of_getElem? (i := 31) rfl)) (hw _ (List.mem_of_getElem? (i := 165) rfl)) (by decide) E8 (rm_ip0 l Z a0 hw ot  cs h1 G1.old E8 F9 S_cs ncs) (by decide) (W := 4) (by decide) (by rw [hml]; rfl) (argsL := []) (lenOf pd_10 rfl) rfl (Nat.le_of_eq rfl) (cells' := 5) rfl (by decide) (slots' := 85) rfl (by decide) (pc' := 10) rfl ?_
  intro T10 h10 r10 G10 Q10
  obtain ⟨y10, rfl, hy10, K10⟩ := Q10
  have K11 : Keep h0 h10 [] := K2.trans K10 all0
  by_cases hc10 : y10 = (0 : Int32)
  · skip
    refine Jvm.Own.ifN G10.here hx (hb hby d25_10) ((if0 _ _).trans (teq hc10).2) (pc' := 13) rfl ?_
    refine Jvm.Own.iconst G10.here hx (hb hby d25_13) (v := (1 : Int32)) rfl (pc' := 14) rfl ?_
    refine Jvm.Own.goto G10.here hx (hb hby d25_14) (pc' := 18) (by decide) (by decide) ?_
    refine Jvm.Own.getstatic G10 hx (hb hby d25_18) (host := "") (Or.inl (hw _ (List.mem_of_getElem? (i := 149) rfl))) Via.refl S_s_Making_Purpose_TYPE_CHECK (pc' := 21) rfl ?_
    intro T12 G12
    refine Jvm.Own.aconstNull G12.here hx (hb hby d25_21) (pc' := 22) rfl ?_
    have E13 := (E1.keep K10)
    have F14 := (F3.keep K10 nin0)
    have F15 := (F4.keep K10 nin0)
    have F16 := (F5.keep K10 nin0)
    have F17 := (F6.keep K10 nin0)
    have F18 := (F7.keep K10 nin0)
    refine Jvm.Own.callI0 (y := (⟨"com/example/amphion/amphion/Making", "<init>", "(Ljava/lang/String;Lcom/example/amphion/amphion/BeanDefinition;ZLcom/example/amphion/amphion/Making$Purpose;Lcom/example/amphion/amphion/BeanDefinition;)V"⟩ : MethodName)) G12 hx (hb hby d25_22) rfl (hw _ (List.mem_of_getElem? (i := 157) rfl)) (hw _ (List.mem_of_getElem? (i := 126) rfl)) (hw _ (List.mem_of_getElem? (i := 124) rfl)) (hw _ (List.mem_of_getElem? (i := 127) rfl)) (by decide) (rm_mk l Z a0 hw b1 nm (.ref ot) (1 : Int32) w_s_Making_Purpose_TYPE_CHECK .null h10 G12.old ga_b1 E13 F14 F15 F16 F17 F18 rfl rfl (own_n01 (by decide)) (own_f01 (by decide))) (by decide) (W := 1) (by decide) (by rw [hml]; rfl) (argsL := [(.ref nm), (.ref ot), (.int (1 : Int32)), (.ref w_s_Making_Purpose_TYPE_CHECK), .null]) (lenOf pd_9 rfl) rfl (Nat.le_of_eq rfl) (cells' := 5) rfl (by decide) (slots' := 85) rfl (by decide) (pc' := 25) rfl ?_
    intro T19 h19 G19 Q19
    obtain ⟨K19, E19, Fp19, Fk19⟩ := Q19
    have K20 : Keep h0 h19 [] := K11.trans K19 (allS (Or.inr sz_b1) all0)
    exact Jvm.Own.retA G19 hx (hb hby d25_25) hret hlk rfl rfl rfl (by decide) (by decide) ⟨_, rfl, ⟨_, rfl, sz_b1, K20, E19, Fp19⟩⟩
  · skip
    refine Jvm.Own.ifY G10.here hx (hb hby d25_10) ((if0 _ _).trans (feq hc10).2) (pc' := 17) (by decide) (by decide) ?_
    refine Jvm.Own.iconst G10.here hx (hb hby d25_17) (v := (0 : Int32)) rfl (pc' := 18) rfl ?_
    refine Jvm.Own.getstatic G10 hx (hb hby d25_18) (host := "") (Or.inl (hw _ (List.mem_of_getElem? (i := 149) rfl))) Via.refl S_s_Making_Purpose_TYPE_CHECK (pc' := 21) rfl ?_
    intro T21 G21
    refine Jvm.Own.aconstNull G21.here hx (hb hby d25_21) (pc' := 22) rfl ?_
    have E22 := (E1.keep K10)
    have F23 := (F3.keep K10 nin0)
    have F24 := (F4.keep K10 nin0)
    have F25 := (F5.keep K10 nin0)
    have F26 := (F6.keep K10 nin0)
    have F27 := (F7.keep K10 nin0)
    refine Jvm.Own.callI0 (y := (⟨"com/example/amphion/amphion/Making", "<init>", "(Ljava/lang/String;Lcom/example/amphion/amphion/BeanDefinition;ZLcom/example/amphion/amphion/Making$Purpose;Lcom/example/amphion/amphion/BeanDefinition;)V"⟩ : MethodName)) G21 hx (hb hby d25_22) rfl (hw _ (List.mem_of_getElem? (i := 157) rfl)) (hw _ (List.mem_of_getElem? (i := 126) rfl)) (hw _ (List.mem_of_getElem? (i := 124) rfl)) (hw _ (List.mem_of_getElem? (i := 127) rfl)) (by decide) (rm_mk l Z a0 hw b1 nm (.ref ot) (0 : Int32) w_s_Making_Purpose_TYPE_CHECK .null h10 G21.old ga_b1 E22 F23 F24 F25 F26 F27 rfl rfl (own_n01 (by decide)) (own_f01 (by decide))) (by decide) (W := 1) (by decide) (by rw [hml]; rfl) (argsL := [(.ref nm), (.ref ot), (.int (0 : Int32)), (.ref w_s_Making_Purpose_TYPE_CHECK), .null]) (lenOf pd_9 rfl) rfl (Nat.le_of_eq rfl) (cells' := 5) rfl (by decide) (slots' := 85) rfl (by decide) (pc' := 25) rfl ?_
    intro T28 h28 G28 Q28
    obtain ⟨K28, E28, Fp28, Fk28⟩ := Q28
    have K29 : Keep h0 h28 [] := K11.trans K28 (allS (Or.inr sz_b1) all0)
    exact Jvm.Own.retA G28 hx (hb hby d25_25) hret hlk rfl rfl rfl (by decide) (by decide) ⟨_, rfl, ⟨_, rfl, sz_b1, K29, E28, Fp28⟩⟩
theorem ef_rm_in1 (m : MethodId) (x0 : Addr) (x1 : Addr) (x2 : Addr) (x3 : Addr)  : entryFrame m #[(.ref x0), (.ref x1), (.ref x2), (.ref x3)] 4 = mkF m 0 #[.val (.ref x0), .val (.ref x1), .val (.ref x2), .val (.ref x3)] [] := by first | (simp [entryFrame, mkF, argsToLocals, catI, catR, catJ, catN]; done) | rfl
set_option maxRecDepth 65536 in
set_option maxHeartbeats 4000000 in
theorem rm_in1 (l : Launch) (Z : State) (a0 : Array Value) (hw : ∀ d ∈ tables_1, d.before a0 Z = true) (a nm df ot pu : Addr) (kp : Int32) (sc sc_x : Addr) (sc_k : ClassId) (cs : Int32) (h0 : Heap) (O0 : Ext Z.heap h0) (Fk : Fld Z h0 a "com/example/amphion/amphion/Making" "kept" "Z" (.int kp)) (Fp : Fld Z h0 a "com/example/amphion/amphion/Making" "purpose" "Lcom/example/amphion/amphion/Making$Purpose;" (.ref pu)) (Eo : Exa Z h0 ot "com/example/amphion/amphion/BeanDefinition") (Fs : Fld Z h0 ot "com/example/amphion/amphion/BeanDefinition" "scope" "Ljava/lang/String;" (.ref sc)) (E_sc : Exa Z h0 sc "java/lang/String") (Fc_sc : Fld Z h0 sc "java/lang/String" "coder" "B" (.int (0 : Int32))) (Fv_sc : Fld Z h0 sc "java/lang/String" "value" "[B" (.ref sc_x)) (V_sc : Arv Z h0 sc_x sc_k .byte (9 : Int32) [(.int (112 : Int32)), (.int (114 : Int32)), (.int (111 : Int32)), (.int (116 : Int32)), (.int (111 : Int32)), (.int (116 : Int32)), (.int (121 : Int32)), (.int (112 : Int32)), (.int (101 : Int32))] (.int (0 : Int32))) (S_cs : Sta Z Z.heap "java/lang/String" "COMPACT_STRINGS" "Z" (.int cs)) (ncs : ¬ cs = (0 : Int32)) :
    Met1 true own_EL l Z (⟨"com/example/amphion/amphion/Making", "inner", "(Ljava/lang/String;Lcom/example/amphion/amphion/BeanDefinition;Lcom/example/amphion/amphion/BeanDefinition;)Lcom/example/amphion/amphion/Making;"⟩ : MethodName) prog_50_method_5_code 4 (Option.some (Jvm.ClassFile.FieldType.object "com/example/amphion/amphion/Making")) [] ({ frames := 3, cells := 3, slots := 45, locals := 44 } : Room) #[(.ref a), (.ref nm), (.ref df), (.ref ot)] h0 (q_mr Z h0 pu) := by
  refine met_body (plainFor_of_name pn_13) O0 (own_EW hw) ?_
  intro p e s m below meth ck T0 hx hby hml hret hlk hnm G0
  refine Fz.entry (ef_rm_in1 m a nm df ot ) ?_
  have K0 : Keep h0 h0 [] := Keep.refl _ _
  refine Jvm.Own.new G0 hx (hb hby d18_0) (hw _ (List.mem_of_getElem? (i := 156) rfl)) (hw _ (List.mem_of_getElem? (i := 123) rfl)) (hw _ (List.mem_of_getElem? (i := 124) rfl)) (cells' := 1) rfl (by decide) (slots' := 5) rfl (by decide) (pc' := 3) rfl ?_
  intro T1 h1 b1 z1 G1 X1 E1 D1
  have ga_b1 : Z.heap.size ≤ b1 := ge_new G0.old z1
  have sz_b1 : h0.size ≤ b1 := by rw [z1]; exact K0.1
  have K2 : Keep h0 h1 [] := K0.ext X1
  have F3 : Fld Z h1 b1 "com/example/amphion/amphion/Making" "name" "Ljava/lang/String;" .null := D1 (Or.inr (hw _ (List.mem_of_getElem? (i := 135) rfl))) (ty := (.object "java/lang/String")) (by decide)
  have F4 : Fld Z h1 b1 "com/example/amphion/amphion/Making" "definition" "Lcom/example/amphion/amphion/BeanDefinition;" .null := D1 (Or.inr (hw _ (List.mem_of_getElem? (i := 137) rfl))) (ty := (.object "com/example/amphion/amphion/BeanDefinition")) (by decide)
  have F5 : Fld Z h1 b1 "com/example/amphion/amphion/Making" "kept" "Z" (.int (0 : Int32)) := D1 (Or.inr (hw _ (List.mem_of_getElem? (i := 139) rfl))) (ty := .boolean) (by decide)
  have F6 : Fld Z h1 b1 "com/example/amphion/amphion/Making" "purpose" "Lcom/example/amphion/amphion/Making$Purpose;" .null := D1 (Or.inr (hw _ (List.mem_of_getElem? (i := 141) rfl))) (ty := (.object "com/example/amphion/amphion/Making$Purpose")) (by decide)
  have F7 : Fld Z h1 b1 "com/example/amphion/amphion/Making" "inner" "Lcom/example/amphion/amphion/BeanDefinition;" .null := D1 (Or.inr (hw _ (List.mem_of_getElem? (i := 143) rfl))) (ty := (.object "com/example/amphion/amphion/BeanDefinition")) (by decide)
  refine Jvm.Own.dup G1.here hx (hb hby d18_3) rfl (pc' := 4) rfl ?_
  refine Jvm.Own.aloadN G1.here hx (hb hby d18_4) rfl rfl (pc' := 5) rfl ?_
  refine Jvm.Own.aloadN G1.here hx (hb hby d18_5) rfl rfl (pc' := 6) rfl ?_
  refine Jvm.Own.aloadN G1.here hx (hb hby d18_6) rfl rfl (pc' := 7) rfl ?_
  have F8 := (Fk.ext X1)
  refine Jvm.Own.getfield G1 hx (hb hby d18_7) (host := "") (Or.inl (hw _ (List.mem_of_getElem? (i := 138) rfl))) Via.refl F8 (pc' := 10) rfl ?_
  intro T9 G9
  by_cases hc10 : kp = (0 : Int32)
  · skip
    refine Jvm.Own.ifY G9.here hx (hb hby d18_10) ((if0 _ _).trans (teq hc10).1) (pc' := 24) (by decide) (by decide) ?_
    refine Jvm.Own.iconst G9.here hx (hb hby d18_24) (v := (0 : Int32)) rfl (pc' := 25) rfl ?_
    refine Jvm.Own.aloadN G9.here hx (hb hby d18_25) rfl rfl (pc' := 26) rfl ?_
    have F10 := (Fp.ext X1)
    refine Jvm.Own.getfield G9 hx (hb hby d18_26) (host := "") (Or.inl (hw _ (List.mem_of_getElem? (i := 140) rfl))) Via.refl F10 (pc' := 29) rfl ?_
    intro T11 G11
    refine Jvm.Own.aloadN G11.here hx (hb hby d18_29) rfl rfl (pc' := 30) rfl ?_
    refine Jvm.Own.callI0 (y := (⟨"com/example/amphion/amphion/Making", "<init>", "(Ljava/lang/String;Lcom/example/amphion/amphion/BeanDefinition;ZLcom/example/amphion/amphion/Making$Purpose;Lcom/example/amphion/amphion/BeanDefinition;)V"⟩ : MethodName)) G11 hx (hb hby d18_30) rfl (hw _ (List.mem_of_getElem? (i := 157) rfl)) (hw _ (List.mem_of_getElem? (i := 126) rfl)) (hw _ (List.mem_of_getElem? (i := 124) rfl)) (hw _ (List.mem_of_getElem? (i := 127) rfl)) (by decide) (rm_mk l Z a0 hw b1 nm (.ref ot) (0 : Int32) pu (.ref df) h1 G11.old ga_b1 E1 F3 F4 F5 F6 F7 rfl rfl (own_n01 (by decide)) (own_f01 (by decide))) (by decide) (W := 1) (by decide) (by rw [hml]; rfl) (argsL := [(.ref nm), (.ref ot), (.int (0 : Int32)), (.ref pu), (.ref df)]) (lenOf pd_9 rfl) rfl (Nat.le_of_eq rfl) (cells' := 1) rfl (by decide) (slots' := 5) rfl (by decide) (pc' := 33) rfl ?_
    intro T12 h12 G12 Q12
    obtain ⟨K12, E12, Fp12, Fk12⟩ := Q12
    have K13 : Keep h0 h12 [] := K2.trans K12 (allS (Or.inr sz_b1) all0)
    exact Jvm.Own.retA G12 hx (hb hby d18_33) hret hlk rfl rfl rfl (by decide) (by decide) ⟨_, rfl, ⟨_, rfl, sz_b1, K13, E12, Fp12⟩⟩
  · skip
    refine Jvm.Own.ifN G9.here hx (hb hby d18_10) ((if0 _ _).trans (feq hc10).1) (pc' := 13) rfl ?_
    refine Jvm.Own.aloadN G9.here hx (hb hby d18_13) rfl rfl (pc' := 14) rfl ?_
    have E14 := (E_sc.ext X1)
    have F15 := (Fc_sc.ext X1)
    have F16 := (Fv_sc.ext X1)
    have V17 := (V_sc.ext X1)
    have E18 := (Eo.ext X1)
    have F19 := (Fs.ext X1)
    refine Jvm.Own.callV1 (y := (⟨"com/example/amphion/amphion/BeanDefinition", "isPrototype", "()Z"⟩ : MethodName)) (z := (⟨"com/example/amphion/amphion/BeanDefinition", "isPrototype", "()Z"⟩ : MethodName)) G9 hx (hb hby d18_14) (nfOf (y := (⟨"com/example/amphion/amphion/BeanDefinition", "isPrototype", "()Z"⟩ : MethodName)) (z := (⟨"com/example/amphion/amphion/BeanDefinition", "isPrototype", "()Z"⟩ : MethodName)) rfl (hw _ (List.mem_of_getElem? (i := 164) rfl))) (hw _ (List.mem_of_getElem? (i := 161) rfl)) (hw _ (List.mem_of_getElem? (i := 162) rfl)) (hw _ (List.mem_of_getElem? (i := 164) rfl)) (hw _ (List.mem_of_getElem? (i := 163) rfl)) (hw _ (List.mem_of_getElem? (i := 31) rfl)) (hw _ (List.mem_of_getElem? (i := 165) rfl)) (by decide) E18 (rm_ip1 l Z a0 hw ot sc sc_x sc_k cs h1 G9.old E18 F19 E14 F15 F16 V17 S_cs ncs) (by decide) (W := 4) (by decide) (by rw [hml]; rfl) (argsL := []) (lenOf pd_10 rfl) rfl (Nat.le_of_eq rfl) (cells' := 3) rfl (by decide) (slots' := 45) rfl (by decide) (pc' := 17) rfl ?_
    intro T20 h20 r20 G20 Q20
    obtain ⟨y20, rfl, hy20, K20⟩ := Q20
    have K21 : Keep h0 h20 [] := K2.trans K20 all0
    by_cases hc17 : y20 = (0 : Int32)
    · skip
      refine Jvm.Own.ifN G20.here hx (hb hby d18_17) ((if0 _ _).trans (teq hc17).2) (pc' := 20) rfl ?_
      refine Jvm.Own.iconst G20.here hx (hb hby d18_20) (v := (1 : Int32)) rfl (pc' := 21) rfl ?_
      refine Jvm.Own.goto G20.here hx (hb hby d18_21) (pc' := 25) (by decide) (by decide) ?_
      refine Jvm.Own.aloadN G20.here hx (hb hby d18_25) rfl rfl (pc' := 26) rfl ?_
      have F22 := ((Fp.ext X1).keep K20 nin0)
      refine Jvm.Own.getfield G20 hx (hb hby d18_26) (host := "") (Or.inl (hw _ (List.mem_of_getElem? (i := 140) rfl))) Via.refl F22 (pc' := 29) rfl ?_
      intro T23 G23
      refine Jvm.Own.aloadN G23.here hx (hb hby d18_29) rfl rfl (pc' := 30) rfl ?_
      have E24 := (E1.keep K20)
      have F25 := (F3.keep K20 nin0)
      have F26 := (F4.keep K20 nin0)
      have F27 := (F5.keep K20 nin0)
      have F28 := (F6.keep K20 nin0)
      have F29 := (F7.keep K20 nin0)
      refine Jvm.Own.callI0 (y := (⟨"com/example/amphion/amphion/Making", "<init>", "(Ljava/lang/String;Lcom/example/amphion/amphion/BeanDefinition;ZLcom/example/amphion/amphion/Making$Purpose;Lcom/example/amphion/amphion/BeanDefinition;)V"⟩ : MethodName)) G23 hx (hb hby d18_30) rfl (hw _ (List.mem_of_getElem? (i := 157) rfl)) (hw _ (List.mem_of_getElem? (i := 126) rfl)) (hw _ (List.mem_of_getElem? (i := 124) rfl)) (hw _ (List.mem_of_getElem? (i := 127) rfl)) (by decide) (rm_mk l Z a0 hw b1 nm (.ref ot) (1 : Int32) pu (.ref df) h20 G23.old ga_b1 E24 F25 F26 F27 F28 F29 rfl rfl (own_n01 (by decide)) (own_f01 (by decide))) (by decide) (W := 1) (by decide) (by rw [hml]; rfl) (argsL := [(.ref nm), (.ref ot), (.int (1 : Int32)), (.ref pu), (.ref df)]) (lenOf pd_9 rfl) rfl (Nat.le_of_eq rfl) (cells' := 3) rfl (by decide) (slots' := 45) rfl (by decide) (pc' := 33) rfl ?_
      intro T30 h30 G30 Q30
      obtain ⟨K30, E30, Fp30, Fk30⟩ := Q30
      have K31 : Keep h0 h30 [] := K21.trans K30 (allS (Or.inr sz_b1) all0)
      exact Jvm.Own.retA G30 hx (hb hby d18_33) hret hlk rfl rfl rfl (by decide) (by decide) ⟨_, rfl, ⟨_, rfl, sz_b1, K31, E30, Fp30⟩⟩
    · skip
      refine Jvm.Own.ifY G20.here hx (hb hby d18_17) ((if0 _ _).trans (feq hc17).2) (pc' := 24) (by decide) (by decide) ?_
      refine Jvm.Own.iconst G20.here hx (hb hby d18_24) (v := (0 : Int32)) rfl (pc' := 25) rfl ?_
      refine Jvm.Own.aloadN G20.here hx (hb hby d18_25) rfl rfl (pc' := 26) rfl ?_
      have F32 := ((Fp.ext X1).keep K20 nin0)
      refine Jvm.Own.getfield G20 hx (hb hby d18_26) (host := "") (Or.inl (hw _ (List.mem_of_getElem? (i := 140) rfl))) Via.refl F32 (pc' := 29) rfl ?_
      intro T33 G33
      refine Jvm.Own.aloadN G33.here hx (hb hby d18_29) rfl rfl (pc' := 30) rfl ?_
      have E34 := (E1.keep K20)
      have F35 := (F3.keep K20 nin0)
      have F36 := (F4.keep K20 nin0)
      have F37 := (F5.keep K20 nin0)
      have F38 := (F6.keep K20 nin0)
      have F39 := (F7.keep K20 nin0)
      refine Jvm.Own.callI0 (y := (⟨"com/example/amphion/amphion/Making", "<init>", "(Ljava/lang/String;Lcom/example/amphion/amphion/BeanDefinition;ZLcom/example/amphion/amphion/Making$Purpose;Lcom/example/amphion/amphion/BeanDefinition;)V"⟩ : MethodName)) G33 hx (hb hby d18_30) rfl (hw _ (List.mem_of_getElem? (i := 157) rfl)) (hw _ (List.mem_of_getElem? (i := 126) rfl)) (hw _ (List.mem_of_getElem? (i := 124) rfl)) (hw _ (List.mem_of_getElem? (i := 127) rfl)) (by decide) (rm_mk l Z a0 hw b1 nm (.ref ot) (0 : Int32) pu (.ref df) h20 G33.old ga_b1 E34 F35 F36 F37 F38 F39 rfl rfl (own_n01 (by decide)) (own_f01 (by decide))) (by decide) (W := 1) (by decide) (by rw [hml]; rfl) (argsL := [(.ref nm), (.ref ot), (.int (0 : Int32)), (.ref pu), (.ref df)]) (lenOf pd_9 rfl) rfl (Nat.le_of_eq rfl) (cells' := 3) rfl (by decide) (slots' := 45) rfl (by decide) (pc' := 33) rfl ?_
      intro T40 h40 G40 Q40
      obtain ⟨K40, E40, Fp40, Fk40⟩ := Q40
      have K41 : Keep h0 h40 [] := K21.trans K40 (allS (Or.inr sz_b1) all0)
      exact Jvm.Own.retA G40 hx (hb hby d18_33) hret hlk rfl rfl rfl (by decide) (by decide) ⟨_, rfl, ⟨_, rfl, sz_b1, K41, E40, Fp40⟩⟩
theorem ef_rm_of1 (m : MethodId) (x0 : Addr) (x1 : Addr)  : entryFrame m #[(.ref x0), (.ref x1)] 2 = mkF m 0 #[.val (.ref x0), .val (.ref x1)] [] := by first | (simp [entryFrame, mkF, argsToLocals, catI, catR, catJ, catN]; done) | rfl
set_option maxRecDepth 65536 in
set_option maxHeartbeats 4000000 in
theorem rm_of1 (l : Launch) (Z : State) (a0 : Array Value) (hw : ∀ d ∈ tables_1, d.before a0 Z = true) (nm ot : Addr) (w_s_Making_Purpose_SERVED : Addr) (w_s_Making_Purpose_TYPE_CHECK : Addr) (sc sc_x : Addr) (sc_k : ClassId) (cs : Int32) (h0 : Heap) (O0 : Ext Z.heap h0) (S_s_Making_Purpose_SERVED : Sta Z Z.heap "com/example/amphion/amphion/Making$Purpose" "SERVED" "Lcom/example/amphion/amphion/Making$Purpose;" (.ref w_s_Making_Purpose_SERVED)) (E_s_Making_Purpose_SERVED : Exa Z Z.heap w_s_Making_Purpose_SERVED "com/example/amphion/amphion/Making$Purpose") (S_s_Making_Purpose_TYPE_CHECK : Sta Z Z.heap "com/example/amphion/amphion/Making$Purpose" "TYPE_CHECK" "Lcom/example/amphion/amphion/Making$Purpose;" (.ref w_s_Making_Purpose_TYPE_CHECK)) (E_s_Making_Purpose_TYPE_CHECK : Exa Z Z.heap w_s_Making_Purpose_TYPE_CHECK "com/example/amphion/amphion/Making$Purpose") (F_s_Making_Purpose_SERVED_ordinal : Fld Z Z.heap w_s_Making_Purpose_SERVED "java/lang/Enum" "ordinal" "I" (.int (0 : Int32))) (F_s_Making_Purpose_TYPE_CHECK_ordinal : Fld Z Z.heap w_s_Making_Purpose_TYPE_CHECK "java/lang/Enum" "ordinal" "I" (.int (1 : Int32))) (Eo : Exa Z h0 ot "com/example/amphion/amphion/BeanDefinition") (Fs : Fld Z h0 ot "com/example/amphion/amphion/BeanDefinition" "scope" "Ljava/lang/String;" (.ref sc)) (E_sc : Exa Z h0 sc "java/lang/String") (Fc_sc : Fld Z h0 sc "java/lang/String" "coder" "B" (.int (0 : Int32))) (Fv_sc : Fld Z h0 sc "java/lang/String" "value" "[B" (.ref sc_x)) (V_sc : Arv Z h0 sc_x sc_k .byte (9 : Int32) [(.int (112 : Int32)), (.int (114 : Int32)), (.int (111 : Int32)), (.int (116 : Int32)), (.int (111 : Int32)), (.int (116 : Int32)), (.int (121 : Int32)), (.int (112 : Int32)), (.int (101 : Int32))] (.int (0 : Int32))) (S_cs : Sta Z Z.heap "java/lang/String" "COMPACT_STRINGS" "Z" (.int cs)) (ncs : ¬ cs = (0 : Int32)) :
    Met1 true own_EL l Z (⟨"com/example/amphion/amphion/Making", "of", "(Ljava/lang/String;Lcom/example/amphion/amphion/BeanDefinition;)Lcom/example/amphion/amphion/Making;"⟩ : MethodName) prog_50_method_2_code 2 (Option.some (Jvm.ClassFile.FieldType.object "com/example/amphion/amphion/Making")) [] ({ frames := 3, cells := 3, slots := 45, locals := 44 } : Room) #[(.ref nm), (.ref ot)] h0 (q_mr Z h0 w_s_Making_Purpose_SERVED) := by
  refine met_body (plainFor_of_name pn_13) O0 (own_EW hw) ?_
  intro p e s m below meth ck T0 hx hby hml hret hlk hnm G0
  refine Fz.entry (ef_rm_of1 m nm ot ) ?_
  have K0 : Keep h0 h0 [] := Keep.refl _ _
  refine Jvm.Own.new G0 hx (hb hby d19_0) (hw _ (List.mem_of_getElem? (i := 156) rfl)) (hw _ (List.mem_of_getElem? (i := 123) rfl)) (hw _ (List.mem_of_getElem? (i := 124) rfl)) (cells' := 1) rfl (by decide) (slots' := 5) rfl (by decide) (pc' := 3) rfl ?_
  intro T1 h1 b1 z1 G1 X1 E1 D1
  have ga_b1 : Z.heap.size ≤ b1 := ge_new G0.old z1
  have sz_b1 : h0.size ≤ b1 := by rw [z1]; exact K0.1
  have K2 : Keep h0 h1 [] := K0.ext X1
  have F3 : Fld Z h1 b1 "com/example/amphion/amphion/Making" "name" "Ljava/lang/String;" .null := D1 (Or.inr (hw _ (List.mem_of_getElem? (i := 135) rfl))) (ty := (.object "java/lang/String")) (by decide)
  have F4 : Fld Z h1 b1 "com/example/amphion/amphion/Making" "definition" "Lcom/example/amphion/amphion/BeanDefinition;" .null := D1 (Or.inr (hw _ (List.mem_of_getElem? (i := 137) rfl))) (ty := (.object "com/example/amphion/amphion/BeanDefinition")) (by decide)
  have F5 : Fld Z h1 b1 "com/example/amphion/amphion/Making" "kept" "Z" (.int (0 : Int32)) := D1 (Or.inr (hw _ (List.mem_of_getElem? (i := 139) rfl))) (ty := .boolean) (by decide)
  have F6 : Fld Z h1 b1 "com/example/amphion/amphion/Making" "purpose" "Lcom/example/amphion/amphion/Making$Purpose;" .null := D1 (Or.inr (hw _ (List.mem_of_getElem? (i := 141) rfl))) (ty := (.object "com/example/amphion/amphion/Making$Purpose")) (by decide)
  have F7 : Fld Z h1 b1 "com/example/amphion/amphion/Making" "inner" "Lcom/example/amphion/amphion/BeanDefinition;" .null := D1 (Or.inr (hw _ (List.mem_of_getElem? (i := 143) rfl))) (ty := (.object "com/example/amphion/amphion/BeanDefinition")) (by decide)
  refine Jvm.Own.dup G1.here hx (hb hby d19_3) rfl (pc' := 4) rfl ?_
  refine Jvm.Own.aloadN G1.here hx (hb hby d19_4) rfl rfl (pc' := 5) rfl ?_
  refine Jvm.Own.aloadN G1.here hx (hb hby d19_5) rfl rfl (pc' := 6) rfl ?_
  refine Jvm.Own.aloadN G1.here hx (hb hby d19_6) rfl rfl (pc' := 7) rfl ?_
  have E8 := (E_sc.ext X1)
  have F9 := (Fc_sc.ext X1)
  have F10 := (Fv_sc.ext X1)
  have V11 := (V_sc.ext X1)
  have E12 := (Eo.ext X1)
  have F13 := (Fs.ext X1)
  refine Jvm.Own.callV1 (y := (⟨"com/example/amphion/amphion/BeanDefinition", "isPrototype", "()Z"⟩ : MethodName)) (z := (⟨"com/example/amphion/amphion/BeanDefinition", "isPrototype", "()Z"⟩ : MethodName)) G1 hx (hb hby d19_7) (nfOf (y := (⟨"com/example/amphion/amphion/BeanDefinition", "isPrototype", "()Z"⟩ : MethodName)) (z := (⟨"com/example/amphion/amphion/BeanDefinition", "isPrototype", "()Z"⟩ : MethodName)) rfl (hw _ (List.mem_of_getElem? (i := 164) rfl))) (hw _ (List.mem_of_getElem? (i := 161) rfl)) (hw _ (List.mem_of_getElem? (i := 162) rfl)) (hw _ (List.mem_of_getElem? (i := 164) rfl)) (hw _ (List.mem_of_getElem? (i := 163) rfl)) (hw _ (List.mem_of_getElem? (i := 31) rfl)) (hw _ (List.mem_of_getElem? (i := 165) rfl)) (by decide) E12 (rm_ip1 l Z a0 hw ot sc sc_x sc_k cs h1 G1.old E12 F13 E8 F9 F10 V11 S_cs ncs) (by decide) (W := 4) (by decide) (by rw [hml]; rfl) (argsL := []) (lenOf pd_10 rfl) rfl (Nat.le_of_eq rfl) (cells' := 3) rfl (by decide) (slots' := 45) rfl (by decide) (pc' := 10) rfl ?_
  intro T14 h14 r14 G14 Q14
  obtain ⟨y14, rfl, hy14, K14⟩ := Q14
  have K15 : Keep h0 h14 [] := K2.trans K14 all0
  by_cases hc10 : y14 = (0 : Int32)
  · skip
    refine Jvm.Own.ifN G14.here hx (hb hby d19_10) ((if0 _ _).trans (teq hc10).2) (pc' := 13) rfl ?_
    refine Jvm.Own.iconst G14.here hx (hb hby d19_13) (v := (1 : Int32)) rfl (pc' := 14) rfl ?_
    refine Jvm.Own.goto G14.here hx (hb hby d19_14) (pc' := 18) (by decide) (by decide) ?_
    refine Jvm.Own.getstatic G14 hx (hb hby d19_18) (host := "") (Or.inl (hw _ (List.mem_of_getElem? (i := 183) rfl))) Via.refl S_s_Making_Purpose_SERVED (pc' := 21) rfl ?_
    intro T16 G16
    refine Jvm.Own.aconstNull G16.here hx (hb hby d19_21) (pc' := 22) rfl ?_
    have E17 := (E1.keep K14)
    have F18 := (F3.keep K14 nin0)
    have F19 := (F4.keep K14 nin0)
    have F20 := (F5.keep K14 nin0)
    have F21 := (F6.keep K14 nin0)
    have F22 := (F7.keep K14 nin0)
    refine Jvm.Own.callI0 (y := (⟨"com/example/amphion/amphion/Making", "<init>", "(Ljava/lang/String;Lcom/example/amphion/amphion/BeanDefinition;ZLcom/example/amphion/amphion/Making$Purpose;Lcom/example/amphion/amphion/BeanDefinition;)V"⟩ : MethodName)) G16 hx (hb hby d19_22) rfl (hw _ (List.mem_of_getElem? (i := 157) rfl)) (hw _ (List.mem_of_getElem? (i := 126) rfl)) (hw _ (List.mem_of_getElem? (i := 124) rfl)) (hw _ (List.mem_of_getElem? (i := 127) rfl)) (by decide) (rm_mk l Z a0 hw b1 nm (.ref ot) (1 : Int32) w_s_Making_Purpose_SERVED .null h14 G16.old ga_b1 E17 F18 F19 F20 F21 F22 rfl rfl (own_n01 (by decide)) (own_f01 (by decide))) (by decide) (W := 1) (by decide) (by rw [hml]; rfl) (argsL := [(.ref nm), (.ref ot), (.int (1 : Int32)), (.ref w_s_Making_Purpose_SERVED), .null]) (lenOf pd_9 rfl) rfl (Nat.le_of_eq rfl) (cells' := 3) rfl (by decide) (slots' := 45) rfl (by decide) (pc' := 25) rfl ?_
    intro T23 h23 G23 Q23
    obtain ⟨K23, E23, Fp23, Fk23⟩ := Q23
    have K24 : Keep h0 h23 [] := K15.trans K23 (allS (Or.inr sz_b1) all0)
    exact Jvm.Own.retA G23 hx (hb hby d19_25) hret hlk rfl rfl rfl (by decide) (by decide) ⟨_, rfl, ⟨_, rfl, sz_b1, K24, E23, Fp23⟩⟩
  · skip
    refine Jvm.Own.ifY G14.here hx (hb hby d19_10) ((if0 _ _).trans (feq hc10).2) (pc' := 17) (by decide) (by decide) ?_
    refine Jvm.Own.iconst G14.here hx (hb hby d19_17) (v := (0 : Int32)) rfl (pc' := 18) rfl ?_
    refine Jvm.Own.getstatic G14 hx (hb hby d19_18) (host := "") (Or.inl (hw _ (List.mem_of_getElem? (i := 183) rfl))) Via.refl S_s_Making_Purpose_SERVED (pc' := 21) rfl ?_
    intro T25 G25
    refine Jvm.Own.aconstNull G25.here hx (hb hby d19_21) (pc' := 22) rfl ?_
    have E26 := (E1.keep K14)
    have F27 := (F3.keep K14 nin0)
    have F28 := (F4.keep K14 nin0)
    have F29 := (F5.keep K14 nin0)
    have F30 := (F6.keep K14 nin0)
    have F31 := (F7.keep K14 nin0)
    refine Jvm.Own.callI0 (y := (⟨"com/example/amphion/amphion/Making", "<init>", "(Ljava/lang/String;Lcom/example/amphion/amphion/BeanDefinition;ZLcom/example/amphion/amphion/Making$Purpose;Lcom/example/amphion/amphion/BeanDefinition;)V"⟩ : MethodName)) G25 hx (hb hby d19_22) rfl (hw _ (List.mem_of_getElem? (i := 157) rfl)) (hw _ (List.mem_of_getElem? (i := 126) rfl)) (hw _ (List.mem_of_getElem? (i := 124) rfl)) (hw _ (List.mem_of_getElem? (i := 127) rfl)) (by decide) (rm_mk l Z a0 hw b1 nm (.ref ot) (0 : Int32) w_s_Making_Purpose_SERVED .null h14 G25.old ga_b1 E26 F27 F28 F29 F30 F31 rfl rfl (own_n01 (by decide)) (own_f01 (by decide))) (by decide) (W := 1) (by decide) (by rw [hml]; rfl) (argsL := [(.ref nm), (.ref ot), (.int (0 : Int32)), (.ref w_s_Making_Purpose_SERVED), .null]) (lenOf pd_9 rfl) rfl (Nat.le_of_eq rfl) (cells' := 3) rfl (by decide) (slots' := 45) rfl (by decide) (pc' := 25) rfl ?_
    intro T32 h32 G32 Q32
    obtain ⟨K32, E32, Fp32, Fk32⟩ := Q32
    have K33 : Keep h0 h32 [] := K15.trans K32 (allS (Or.inr sz_b1) all0)
    exact Jvm.Own.retA G32 hx (hb hby d19_25) hret hlk rfl rfl rfl (by decide) (by decide) ⟨_, rfl, ⟨_, rfl, sz_b1, K33, E32, Fp32⟩⟩
theorem ef_rm_tc1 (m : MethodId) (x0 : Addr) (x1 : Addr)  : entryFrame m #[(.ref x0), (.ref x1)] 2 = mkF m 0 #[.val (.ref x0), .val (.ref x1)] [] := by first | (simp [entryFrame, mkF, argsToLocals, catI, catR, catJ, catN]; done) | rfl
set_option maxRecDepth 65536 in
set_option maxHeartbeats 4000000 in
theorem rm_tc1 (l : Launch) (Z : State) (a0 : Array Value) (hw : ∀ d ∈ tables_1, d.before a0 Z = true) (nm ot : Addr) (w_s_Making_Purpose_SERVED : Addr) (w_s_Making_Purpose_TYPE_CHECK : Addr) (sc sc_x : Addr) (sc_k : ClassId) (cs : Int32) (h0 : Heap) (O0 : Ext Z.heap h0) (S_s_Making_Purpose_SERVED : Sta Z Z.heap "com/example/amphion/amphion/Making$Purpose" "SERVED" "Lcom/example/amphion/amphion/Making$Purpose;" (.ref w_s_Making_Purpose_SERVED)) (E_s_Making_Purpose_SERVED : Exa Z Z.heap w_s_Making_Purpose_SERVED "com/example/amphion/amphion/Making$Purpose") (S_s_Making_Purpose_TYPE_CHECK : Sta Z Z.heap "com/example/amphion/amphion/Making$Purpose" "TYPE_CHECK" "Lcom/example/amphion/amphion/Making$Purpose;" (.ref w_s_Making_Purpose_TYPE_CHECK)) (E_s_Making_Purpose_TYPE_CHECK : Exa Z Z.heap w_s_Making_Purpose_TYPE_CHECK "com/example/amphion/amphion/Making$Purpose") (F_s_Making_Purpose_SERVED_ordinal : Fld Z Z.heap w_s_Making_Purpose_SERVED "java/lang/Enum" "ordinal" "I" (.int (0 : Int32))) (F_s_Making_Purpose_TYPE_CHECK_ordinal : Fld Z Z.heap w_s_Making_Purpose_TYPE_CHECK "java/lang/Enum" "ordinal" "I" (.int (1 : Int32))) (Eo : Exa Z h0 ot "com/example/amphion/amphion/BeanDefinition") (Fs : Fld Z h0 ot "com/example/amphion/amphion/BeanDefinition" "scope" "Ljava/lang/String;" (.ref sc)) (E_sc : Exa Z h0 sc "java/lang/String") (Fc_sc : Fld Z h0 sc "java/lang/String" "coder" "B" (.int (0 : Int32))) (Fv_sc : Fld Z h0 sc "java/lang/String" "value" "[B" (.ref sc_x)) (V_sc : Arv Z h0 sc_x sc_k .byte (9 : Int32) [(.int (112 : Int32)), (.int (114 : Int32)), (.int (111 : Int32)), (.int (116 : Int32)), (.int (111 : Int32)), (.int (116 : Int32)), (.int (121 : Int32)), (.int (112 : Int32)), (.int (101 : Int32))] (.int (0 : Int32))) (S_cs : Sta Z Z.heap "java/lang/String" "COMPACT_STRINGS" "Z" (.int cs)) (ncs : ¬ cs = (0 : Int32)) :
    Met1 true own_EL l Z (⟨"com/example/amphion/amphion/Making", "forTypeCheck", "(Ljava/lang/String;Lcom/example/amphion/amphion/BeanDefinition;)Lcom/example/amphion/amphion/Making;"⟩ : MethodName) prog_50_method_3_code 2 (Option.some (Jvm.ClassFile.FieldType.object "com/example/amphion/amphion/Making")) [] ({ frames := 3, cells := 3, slots := 45, locals := 44 } : Room) #[(.ref nm), (.ref ot)] h0 (q_mr Z h0 w_s_Making_Purpose_TYPE_CHECK) := by
  refine met_body (plainFor_of_name pn_13) O0 (own_EW hw) ?_
  intro p e s m below meth ck T0 hx hby hml hret hlk hnm G0
  refine Fz.entry (ef_rm_tc1 m nm ot ) ?_
  have K0 : Keep h0 h0 [] := Keep.refl _ _
  refine Jvm.Own.new G0 hx (hb hby d25_0) (hw _ (List.mem_of_getElem? (i := 156) rfl)) (hw _ (List.mem_of_getElem? (i := 123) rfl)) (hw _ (List.mem_of_getElem? (i := 124) rfl)) (cells' := 1) rfl (by decide) (slots' := 5) rfl (by decide) (pc' := 3) rfl ?_
  intro T1 h1 b1 z1 G1 X1 E1 D1
  have ga_b1 : Z.heap.size ≤ b1 := ge_new G0.old z1
  have sz_b1 : h0.size ≤ b1 := by rw [z1]; exact K0.1
  have K2 : Keep h0 h1 [] := K0.ext X1
  have F3 : Fld Z h1 b1 "com/example/amphion/amphion/Making" "name" "Ljava/lang/String;" .null := D1 (Or.inr (hw _ (List.mem_of_getElem? (i := 135) rfl))) (ty := (.object "java/lang/String")) (by decide)
  have F4 : Fld Z h1 b1 "com/example/amphion/amphion/Making" "definition" "Lcom/example/amphion/amphion/BeanDefinition;" .null := D1 (Or.inr (hw _ (List.mem_of_getElem? (i := 137) rfl))) (ty := (.object "com/example/amphion/amphion/BeanDefinition")) (by decide)
  have F5 : Fld Z h1 b1 "com/example/amphion/amphion/Making" "kept" "Z" (.int (0 : Int32)) := D1 (Or.inr (hw _ (List.mem_of_getElem? (i := 139) rfl))) (ty := .boolean) (by decide)
  have F6 : Fld Z h1 b1 "com/example/amphion/amphion/Making" "purpose" "Lcom/example/amphion/amphion/Making$Purpose;" .null := D1 (Or.inr (hw _ (List.mem_of_getElem? (i := 141) rfl))) (ty := (.object "com/example/amphion/amphion/Making$Purpose")) (by decide)
  have F7 : Fld Z h1 b1 "com/example/amphion/amphion/Making" "inner" "Lcom/example/amphion/amphion/BeanDefinition;" .null := D1 (Or.inr (hw _ (List.mem_of_getElem? (i := 143) rfl))) (ty := (.object "com/example/amphion/amphion/BeanDefinition")) (by decide)
  refine Jvm.Own.dup G1.here hx (hb hby d25_3) rfl (pc' := 4) rfl ?_
  refine Jvm.Own.aloadN G1.here hx (hb hby d25_4) rfl rfl (pc' := 5) rfl ?_
  refine Jvm.Own.aloadN G1.here hx (hb hby d25_5) rfl rfl (pc' := 6) rfl ?_
  refine Jvm.Own.aloadN G1.here hx (hb hby d25_6) rfl rfl (pc' := 7) rfl ?_
  have E8 := (E_sc.ext X1)
  have F9 := (Fc_sc.ext X1)
  have F10 := (Fv_sc.ext X1)
  have V11 := (V_sc.ext X1)
  have E12 := (Eo.ext X1)
  have F13 := (Fs.ext X1)
  refine Jvm.Own.callV1 (y := (⟨"com/example/amphion/amphion/BeanDefinition", "isPrototype", "()Z"⟩ : MethodName)) (z := (⟨"com/example/amphion/amphion/BeanDefinition", "isPrototype", "()Z"⟩ : MethodName)) G1 hx (hb hby d25_7) (nfOf (y := (⟨"com/example/amphion/amphion/BeanDefinition", "isPrototype", "()Z"⟩ : MethodName)) (z := (⟨"com/example/amphion/amphion/BeanDefinition", "isPrototype", "()Z"⟩ : MethodName)) rfl (hw _ (List.mem_of_getElem? (i := 164) rfl))) (hw _ (List.mem_of_getElem? (i := 161) rfl)) (hw _ (List.mem_of_getElem? (i := 162) rfl)) (hw _ (List.mem_of_getElem? (i := 164) rfl)) (hw _ (List.mem_of_getElem? (i := 163) rfl)) (hw _ (List.mem_of_getElem? (i := 31) rfl)) (hw _ (List.mem_of_getElem? (i := 165) rfl)) (by decide) E12 (rm_ip1 l Z a0 hw ot sc sc_x sc_k cs h1 G1.old E12 F13 E8 F9 F10 V11 S_cs ncs) (by decide) (W := 4) (by decide) (by rw [hml]; rfl) (argsL := []) (lenOf pd_10 rfl) rfl (Nat.le_of_eq rfl) (cells' := 3) rfl (by decide) (slots' := 45) rfl (by decide) (pc' := 10) rfl ?_
  intro T14 h14 r14 G14 Q14
  obtain ⟨y14, rfl, hy14, K14⟩ := Q14
  have K15 : Keep h0 h14 [] := K2.trans K14 all0
  by_cases hc10 : y14 = (0 : Int32)
  · skip
    refine Jvm.Own.ifN G14.here hx (hb hby d25_10) ((if0 _ _).trans (teq hc10).2) (pc' := 13) rfl ?_
    refine Jvm.Own.iconst G14.here hx (hb hby d25_13) (v := (1 : Int32)) rfl (pc' := 14) rfl ?_
    refine Jvm.Own.goto G14.here hx (hb hby d25_14) (pc' := 18) (by decide) (by decide) ?_
    refine Jvm.Own.getstatic G14 hx (hb hby d25_18) (host := "") (Or.inl (hw _ (List.mem_of_getElem? (i := 149) rfl))) Via.refl S_s_Making_Purpose_TYPE_CHECK (pc' := 21) rfl ?_
    intro T16 G16
    refine Jvm.Own.aconstNull G16.here hx (hb hby d25_21) (pc' := 22) rfl ?_
    have E17 := (E1.keep K14)
    have F18 := (F3.keep K14 nin0)
    have F19 := (F4.keep K14 nin0)
    have F20 := (F5.keep K14 nin0)
    have F21 := (F6.keep K14 nin0)
    have F22 := (F7.keep K14 nin0)
    refine Jvm.Own.callI0 (y := (⟨"com/example/amphion/amphion/Making", "<init>", "(Ljava/lang/String;Lcom/example/amphion/amphion/BeanDefinition;ZLcom/example/amphion/amphion/Making$Purpose;Lcom/example/amphion/amphion/BeanDefinition;)V"⟩ : MethodName)) G16 hx (hb hby d25_22) rfl (hw _ (List.mem_of_getElem? (i := 157) rfl)) (hw _ (List.mem_of_getElem? (i := 126) rfl)) (hw _ (List.mem_of_getElem? (i := 124) rfl)) (hw _ (List.mem_of_getElem? (i := 127) rfl)) (by decide) (rm_mk l Z a0 hw b1 nm (.ref ot) (1 : Int32) w_s_Making_Purpose_TYPE_CHECK .null h14 G16.old ga_b1 E17 F18 F19 F20 F21 F22 rfl rfl (own_n01 (by decide)) (own_f01 (by decide))) (by decide) (W := 1) (by decide) (by rw [hml]; rfl) (argsL := [(.ref nm), (.ref ot), (.int (1 : Int32)), (.ref w_s_Making_Purpose_TYPE_CHECK), .null]) (lenOf pd_9 rfl) rfl (Nat.le_of_eq rfl) (cells' := 3) rfl (by decide) (slots' := 45) rfl (by decide) (pc' := 25) rfl ?_
    intro T23 h23 G23 Q23
    obtain ⟨K23, E23, Fp23, Fk23⟩ := Q23
    have K24 : Keep h0 h23 [] := K15.trans K23 (allS (Or.inr sz_b1) all0)
    exact Jvm.Own.retA G23 hx (hb hby d25_25) hret hlk rfl rfl rfl (by decide) (by decide) ⟨_, rfl, ⟨_, rfl, sz_b1, K24, E23, Fp23⟩⟩
  · skip
    refine Jvm.Own.ifY G14.here hx (hb hby d25_10) ((if0 _ _).trans (feq hc10).2) (pc' := 17) (by decide) (by decide) ?_
    refine Jvm.Own.iconst G14.here hx (hb hby d25_17) (v := (0 : Int32)) rfl (pc' := 18) rfl ?_
    refine Jvm.Own.getstatic G14 hx (hb hby d25_18) (host := "") (Or.inl (hw _ (List.mem_of_getElem? (i := 149) rfl))) Via.refl S_s_Making_Purpose_TYPE_CHECK (pc' := 21) rfl ?_
    intro T25 G25
    refine Jvm.Own.aconstNull G25.here hx (hb hby d25_21) (pc' := 22) rfl ?_
    have E26 := (E1.keep K14)
    have F27 := (F3.keep K14 nin0)
    have F28 := (F4.keep K14 nin0)
    have F29 := (F5.keep K14 nin0)
    have F30 := (F6.keep K14 nin0)
    have F31 := (F7.keep K14 nin0)
    refine Jvm.Own.callI0 (y := (⟨"com/example/amphion/amphion/Making", "<init>", "(Ljava/lang/String;Lcom/example/amphion/amphion/BeanDefinition;ZLcom/example/amphion/amphion/Making$Purpose;Lcom/example/amphion/amphion/BeanDefinition;)V"⟩ : MethodName)) G25 hx (hb hby d25_22) rfl (hw _ (List.mem_of_getElem? (i := 157) rfl)) (hw _ (List.mem_of_getElem? (i := 126) rfl)) (hw _ (List.mem_of_getElem? (i := 124) rfl)) (hw _ (List.mem_of_getElem? (i := 127) rfl)) (by decide) (rm_mk l Z a0 hw b1 nm (.ref ot) (0 : Int32) w_s_Making_Purpose_TYPE_CHECK .null h14 G25.old ga_b1 E26 F27 F28 F29 F30 F31 rfl rfl (own_n01 (by decide)) (own_f01 (by decide))) (by decide) (W := 1) (by decide) (by rw [hml]; rfl) (argsL := [(.ref nm), (.ref ot), (.int (0 : Int32)), (.ref w_s_Making_Purpose_TYPE_CHECK), .null]) (lenOf pd_9 rfl) rfl (Nat.le_of_eq rfl) (cells' := 3) rfl (by decide) (slots' := 45) rfl (by decide) (pc' := 25) rfl ?_
    intro T32 h32 G32 Q32
    obtain ⟨K32, E32, Fp32, Fk32⟩ := Q32
    have K33 : Keep h0 h32 [] := K15.trans K32 (allS (Or.inr sz_b1) all0)
    exact Jvm.Own.retA G32 hx (hb hby d25_25) hret hlk rfl rfl rfl (by decide) (by decide) ⟨_, rfl, ⟨_, rfl, sz_b1, K33, E32, Fp32⟩⟩
def own_tu (pu tc : Addr) : Int32 := if pu = tc then 0 else 1
def q_tu (pu tc : Addr) (w : Value) : Prop := w = .int (own_tu pu tc)
theorem d17_0 : decode prog_50_method_7_code 0 = .ok (.aload_n 0, 1) := by decide +kernel
theorem d17_1 : decode prog_50_method_7_code 1 = .ok (.getfield 21, 3) := by decide +kernel
theorem d17_4 : decode prog_50_method_7_code 4 = .ok (.getstatic 42, 3) := by decide +kernel
theorem d17_7 : decode prog_50_method_7_code 7 = .ok (.if_acmp .eq 7, 3) := by decide +kernel
theorem d17_14 : decode prog_50_method_7_code 14 = .ok (.iconst 0, 1) := by decide +kernel
theorem d17_15 : decode prog_50_method_7_code 15 = .ok (.ireturn, 1) := by decide +kernel
theorem d17_10 : decode prog_50_method_7_code 10 = .ok (.iconst 1, 1) := by decide +kernel
theorem d17_11 : decode prog_50_method_7_code 11 = .ok (.goto 4, 3) := by decide +kernel
theorem ef_rm_tu (m : MethodId) (x0 : Addr)  : entryFrame m #[(.ref x0)] 1 = mkF m 0 #[.val (.ref x0)] [] := by first | (simp [entryFrame, mkF, argsToLocals, catI, catR, catJ, catN]; done) | rfl
set_option maxRecDepth 65536 in
set_option maxHeartbeats 4000000 in
theorem rm_tu (l : Launch) (Z : State) (a0 : Array Value) (hw : ∀ d ∈ tables_1, d.before a0 Z = true) (a pu : Addr) (w_s_Making_Purpose_SERVED : Addr) (w_s_Making_Purpose_TYPE_CHECK : Addr) (h0 : Heap) (O0 : Ext Z.heap h0) (Fp : Fld Z h0 a "com/example/amphion/amphion/Making" "purpose" "Lcom/example/amphion/amphion/Making$Purpose;" (.ref pu)) (S_s_Making_Purpose_SERVED : Sta Z Z.heap "com/example/amphion/amphion/Making$Purpose" "SERVED" "Lcom/example/amphion/amphion/Making$Purpose;" (.ref w_s_Making_Purpose_SERVED)) (E_s_Making_Purpose_SERVED : Exa Z Z.heap w_s_Making_Purpose_SERVED "com/example/amphion/amphion/Making$Purpose") (S_s_Making_Purpose_TYPE_CHECK : Sta Z Z.heap "com/example/amphion/amphion/Making$Purpose" "TYPE_CHECK" "Lcom/example/amphion/amphion/Making$Purpose;" (.ref w_s_Making_Purpose_TYPE_CHECK)) (E_s_Making_Purpose_TYPE_CHECK : Exa Z Z.heap w_s_Making_Purpose_TYPE_CHECK "com/example/amphion/amphion/Making$Purpose") (F_s_Making_Purpose_SERVED_ordinal : Fld Z Z.heap w_s_Making_Purpose_SERVED "java/lang/Enum" "ordinal" "I" (.int (0 : Int32))) (F_s_Making_Purpose_TYPE_CHECK_ordinal : Fld Z Z.heap w_s_Making_Purpose_TYPE_CHECK "java/lang/Enum" "ordinal" "I" (.int (1 : Int32))) :
    Met1 true own_EL l Z (⟨"com/example/amphion/amphion/Making", "takesUnfinished", "()Z"⟩ : MethodName) prog_50_method_7_code 1 (Option.some Jvm.ClassFile.FieldType.boolean) [] ({ frames := 0, cells := 0, slots := 0, locals := 0 } : Room) #[(.ref a)] h0 (fun w h' => h' = h0 ∧ q_tu pu w_s_Making_Purpose_TYPE_CHECK w) := by
  refine met_body (plainFor_of_name pn_13) O0 (own_EW hw) ?_
  intro p e s m below meth ck T0 hx hby hml hret hlk hnm G0
  refine Fz.entry (ef_rm_tu m a ) ?_
  refine Jvm.Own.aloadN G0.here hx (hb hby d17_0) rfl rfl (pc' := 1) rfl ?_
  refine Jvm.Own.getfield G0 hx (hb hby d17_1) (host := "") (Or.inl (hw _ (List.mem_of_getElem? (i := 140) rfl))) Via.refl Fp (pc' := 4) rfl ?_
  intro T1 G1
  refine Jvm.Own.getstatic G1 hx (hb hby d17_4) (host := "") (Or.inl (hw _ (List.mem_of_getElem? (i := 149) rfl))) Via.refl S_s_Making_Purpose_TYPE_CHECK (pc' := 7) rfl ?_
  intro T2 G2
  by_cases hc7 : ((.ref pu) : Value) = (.ref w_s_Making_Purpose_TYPE_CHECK)
  · skip
    refine Jvm.Own.acmpY G2.here hx (hb hby d17_7) rfl rfl (by simp [Jvm.Free.XT.acmp, hc7]) (pc' := 14) (by decide) (by decide) ?_
    refine Jvm.Own.iconst G2.here hx (hb hby d17_14) (v := (0 : Int32)) rfl (pc' := 15) rfl ?_
    have u7 : pu = w_s_Making_Purpose_TYPE_CHECK := Value.ref.inj hc7
    exact Jvm.Own.retI G2 hx (hb hby d17_15) hret hlk (by simp) rfl (by decide) (by decide) ⟨_, rfl, ⟨rfl, by show Value.int (0 : Int32) = .int (own_tu pu w_s_Making_Purpose_TYPE_CHECK); simp [own_tu, u7]⟩⟩
  · skip
    refine Jvm.Own.acmpN G2.here hx (hb hby d17_7) rfl rfl (by simp [Jvm.Free.XT.acmp, hc7]) (pc' := 10) rfl ?_
    refine Jvm.Own.iconst G2.here hx (hb hby d17_10) (v := (1 : Int32)) rfl (pc' := 11) rfl ?_
    refine Jvm.Own.goto G2.here hx (hb hby d17_11) (pc' := 15) (by decide) (by decide) ?_
    have u7 : ¬ pu = w_s_Making_Purpose_TYPE_CHECK := fun q => hc7 (congrArg Value.ref q)
    exact Jvm.Own.retI G2 hx (hb hby d17_15) hret hlk (by simp) rfl (by decide) (by decide) ⟨_, rfl, ⟨rfl, by show Value.int (1 : Int32) = .int (own_tu pu w_s_Making_Purpose_TYPE_CHECK); simp [own_tu, u7]⟩⟩
def q0 (w : Value) (h : Heap) : Prop := w = .int 1
theorem own_ch8 (x : Int32) : ¬ (255 : Int32) < (x &&& (255 : Int32)).toUInt32.toUInt16.toUInt32.toInt32 := by
  rw [show (x &&& (255 : Int32)).toUInt32.toUInt16.toUInt32.toInt32 = x &&& 255 from by simp only [i2c_mask]]
  have h1 := c_mask x 255 8 (by decide) (by decide)
  rw [Int32.lt_iff_toInt_lt]
  have e : (255 : Int32).toInt = 255 := by decide
  omega
theorem pd_11 : parseMethodDescriptor "(C)Ljava/lang/String;" = some ⟨[.char], some (.object "java/lang/String")⟩ := by decide +kernel
theorem pd_12 : parseMethodDescriptor "(Ljava/lang/String;Ljava/lang/String;I)V" = some ⟨[(.object "java/lang/String"), (.object "java/lang/String"), .int], none⟩ := by decide +kernel
theorem pd_13 : parseMethodDescriptor "(Ljava/lang/String;Lcom/example/amphion/amphion/BeanDefinition;Lcom/example/amphion/amphion/BeanDefinition;)Lcom/example/amphion/amphion/Making;" = some ⟨[(.object "java/lang/String"), (.object "com/example/amphion/amphion/BeanDefinition"), (.object "com/example/amphion/amphion/BeanDefinition")], some (.object "com/example/amphion/amphion/Making")⟩ := by decide +kernel
theorem pd_14 : parseMethodDescriptor "(Ljava/lang/String;Lcom/example/amphion/amphion/BeanDefinition;)Lcom/example/amphion/amphion/Making;" = some ⟨[(.object "java/lang/String"), (.object "com/example/amphion/amphion/BeanDefinition")], some (.object "com/example/amphion/amphion/Making")⟩ := by decide +kernel
theorem pd_15 : parseMethodDescriptor "(Ljava/lang/String;)V" = some ⟨[(.object "java/lang/String")], none⟩ := by decide +kernel
theorem ef_rm0 (m : MethodId) (x0 : Int32) (x1 : Int32)  : entryFrame m #[(.int x0), (.int x1)] maxLocals = mkF m 0 #[.val (.int x0), .val (.int x1), .unset, .unset, .unset, .unset, .unset, .unset, .unset, .unset, .unset, .unset, .unset, .unset, .unset] [] := by first | (simp [entryFrame, mkF, argsToLocals, catI, catR, catJ, catN, maxLocals]; done) | rfl
theorem pn_14 : plainName "com/example/amphion/amphion/MakingTakesUnfinishedPinLaw" = true := by first | (simp [plainName, overriddenIn]; done) | decide +kernel
set_option maxRecDepth 65536 in
set_option maxHeartbeats 4000000 in
theorem rm0 (l : Launch) (Z : State) (a0 : Array Value) (hw : ∀ d ∈ tables_1, d.before a0 Z = true) (p0 p1 : Int32) (w_s_Making_Purpose_SERVED : Addr) (w_s_Making_Purpose_TYPE_CHECK : Addr) (w_dc w_el : Addr) (cs : Int32) (h0 : Heap) (O0 : Ext Z.heap h0) (S_s_Making_Purpose_SERVED : Sta Z Z.heap "com/example/amphion/amphion/Making$Purpose" "SERVED" "Lcom/example/amphion/amphion/Making$Purpose;" (.ref w_s_Making_Purpose_SERVED)) (E_s_Making_Purpose_SERVED : Exa Z Z.heap w_s_Making_Purpose_SERVED "com/example/amphion/amphion/Making$Purpose") (S_s_Making_Purpose_TYPE_CHECK : Sta Z Z.heap "com/example/amphion/amphion/Making$Purpose" "TYPE_CHECK" "Lcom/example/amphion/amphion/Making$Purpose;" (.ref w_s_Making_Purpose_TYPE_CHECK)) (E_s_Making_Purpose_TYPE_CHECK : Exa Z Z.heap w_s_Making_Purpose_TYPE_CHECK "com/example/amphion/amphion/Making$Purpose") (F_s_Making_Purpose_SERVED_ordinal : Fld Z Z.heap w_s_Making_Purpose_SERVED "java/lang/Enum" "ordinal" "I" (.int (0 : Int32))) (F_s_Making_Purpose_TYPE_CHECK_ordinal : Fld Z Z.heap w_s_Making_Purpose_TYPE_CHECK "java/lang/Enum" "ordinal" "I" (.int (1 : Int32))) (S_dc : Sta Z Z.heap "java/util/ArrayList" "DEFAULTCAPACITY_EMPTY_ELEMENTDATA" "[Ljava/lang/Object;" (.ref w_dc)) (S_el : Sta Z Z.heap "java/util/ImmutableCollections" "EMPTY_LIST" "Ljava/util/ImmutableCollections$ListN;" (.ref w_el)) (S_cs : Sta Z Z.heap "java/lang/String" "COMPACT_STRINGS" "Z" (.int cs)) (ncs : ¬ cs = (0 : Int32)) :
    Met1 true own_EL l Z x code maxLocals ret tables_1 room_1 #[(.int p0), (.int p1)] h0 (q0) := by
  refine met_body (plainFor_of_name pn_14) O0 (own_EW hw) ?_
  intro p e s m below meth ck T0 hx hby hml hret hlk hnm G0
  have hml : ck.maxLocals = 15 := hml
  refine Fz.entry (ef_rm0 m p0 p1 ) ?_
  have hsv : w_s_Making_Purpose_SERVED ≠ w_s_Making_Purpose_TYPE_CHECK := Fld.ne F_s_Making_Purpose_SERVED_ordinal F_s_Making_Purpose_TYPE_CHECK_ordinal (by simp)
  refine Jvm.Own.iloadN G0.here hx (hb hby at_0) rfl (pc' := 1) rfl ?_
  refine Jvm.Own.iconst G0.here hx (hb hby at_1) (v := (1 : Int32)) rfl (pc' := 2) rfl ?_
  refine Jvm.Own.iand G0.here hx (hb hby at_2) (pc' := 3) rfl ?_
  by_cases hc3 : (p0 &&& (1 : Int32)) = (0 : Int32)
  · skip
    refine Jvm.Own.ifY G0.here hx (hb hby at_3) ((if0 _ _).trans (teq hc3).1) (pc' := 10) (by decide) (by decide) ?_
    refine Jvm.Own.iconst G0.here hx (hb hby at_10) (v := (0 : Int32)) rfl (pc' := 11) rfl ?_
    refine Jvm.Own.istoreN G0.here hx (hb hby at_11) (Ls' := #[.val (.int p0), .val (.int p1), .val (.int (0 : Int32)), .unset, .unset, .unset, .unset, .unset, .unset, .unset, .unset, .unset, .unset, .unset, .unset]) rfl (pc' := 12) rfl ?_
    refine Jvm.Own.iloadN G0.here hx (hb hby at_12) rfl (pc' := 13) rfl ?_
    refine Jvm.Own.iconst G0.here hx (hb hby at_13) (v := (2 : Int32)) rfl (pc' := 14) rfl ?_
    refine Jvm.Own.iand G0.here hx (hb hby at_14) (pc' := 15) rfl ?_
    have K1 : ∀ (T2 : State), Go true own_EL [] p l e room_1 s m #[(.int p0), (.int p1)] below meth ck Z "com/example/amphion/amphion/MakingTakesUnfinishedPinLaw" T2 h0 0 0 → ∀ (kp : Int32), (kp = 0 ∨ kp = 1) → Fz true own_EL p e room_1 s below Z (fun v h' => ∃ w, v = some w ∧ q0 w h') (T2.setTop (mkF m 23 #[.val (.int p0), .val (.int p1), .val (.int (0 : Int32)), .unset, .unset, .unset, .unset, .unset, .unset, .unset, .unset, .unset, .unset, .unset, .unset] [(.int kp)])) := by
      intro T2 G2 kp hk
      refine Jvm.Own.istoreN G2.here hx (hb hby at_23) (Ls' := #[.val (.int p0), .val (.int p1), .val (.int (0 : Int32)), .val (.int kp), .unset, .unset, .unset, .unset, .unset, .unset, .unset, .unset, .unset, .unset, .unset]) rfl (pc' := 24) rfl ?_
      refine Jvm.Own.iloadN G2.here hx (hb hby at_24) rfl (pc' := 25) rfl ?_
      refine Jvm.Own.iconst G2.here hx (hb hby at_25) (v := (4 : Int32)) rfl (pc' := 26) rfl ?_
      refine Jvm.Own.iand G2.here hx (hb hby at_26) (pc' := 27) rfl ?_
      have K3 : ∀ (T4 : State), Go true own_EL [] p l e room_1 s m #[(.int p0), (.int p1)] below meth ck Z "com/example/amphion/amphion/MakingTakesUnfinishedPinLaw" T4 h0 0 0 → ∀ (hi : Int32), (hi = 0 ∨ hi = 1) → Fz true own_EL p e room_1 s below Z (fun v h' => ∃ w, v = some w ∧ q0 w h') (T4.setTop (mkF m 35 #[.val (.int p0), .val (.int p1), .val (.int (0 : Int32)), .val (.int kp), .unset, .unset, .unset, .unset, .unset, .unset, .unset, .unset, .unset, .unset, .unset] [(.int hi)])) := by
        intro T4 G4 hi hh
        refine Jvm.Own.istore G4.here hx (hb hby at_35) (Ls' := #[.val (.int p0), .val (.int p1), .val (.int (0 : Int32)), .val (.int kp), .val (.int hi), .unset, .unset, .unset, .unset, .unset, .unset, .unset, .unset, .unset, .unset]) rfl (pc' := 37) rfl ?_
        refine Jvm.Own.iloadN G4.here hx (hb hby at_37) rfl (pc' := 38) rfl ?_
        refine Jvm.Own.bipush G4.here hx (hb hby at_38) (v := (8 : Int32)) rfl (pc' := 40) rfl ?_
        refine Jvm.Own.iand G4.here hx (hb hby at_40) (pc' := 41) rfl ?_
        by_cases hc41 : (p0 &&& (8 : Int32)) = (0 : Int32)
        · skip
          refine Jvm.Own.ifY G4.here hx (hb hby at_41) ((if0 _ _).trans (teq hc41).1) (pc' := 48) (by decide) (by decide) ?_
          refine Jvm.Own.iconst G4.here hx (hb hby at_48) (v := (0 : Int32)) rfl (pc' := 49) rfl ?_
          refine Jvm.Own.istore G4.here hx (hb hby at_49) (Ls' := #[.val (.int p0), .val (.int p1), .val (.int (0 : Int32)), .val (.int kp), .val (.int hi), .val (.int (0 : Int32)), .unset, .unset, .unset, .unset, .unset, .unset, .unset, .unset, .unset]) rfl (pc' := 51) rfl ?_
          refine Jvm.Own.iloadN G4.here hx (hb hby at_51) rfl (pc' := 52) rfl ?_
          refine Jvm.Own.ifY G4.here hx (hb hby at_52) ((if0 _ _).trans (teq (by decide : (0 : Int32) = (0 : Int32))).1) (pc' := 61) (by decide) (by decide) ?_
          refine Jvm.Own.getstatic G4 hx (hb hby at_61) (host := "") (Or.inl (hw _ (List.mem_of_getElem? (i := 0) rfl))) Via.refl S_s_Making_Purpose_SERVED (pc' := 64) rfl ?_
          intro T5 G5
          refine Jvm.Own.astore G5.here hx (hb hby at_64) rfl (Ls' := #[.val (.int p0), .val (.int p1), .val (.int (0 : Int32)), .val (.int kp), .val (.int hi), .val (.int (0 : Int32)), .val (.ref w_s_Making_Purpose_SERVED), .unset, .unset, .unset, .unset, .unset, .unset, .unset, .unset]) rfl (pc' := 66) rfl ?_
          refine Jvm.Own.iloadN G5.here hx (hb hby at_66) rfl (pc' := 67) rfl ?_
          refine Jvm.Own.sipush G5.here hx (hb hby at_67) (v := (255 : Int32)) rfl (pc' := 70) rfl ?_
          refine Jvm.Own.iand G5.here hx (hb hby at_70) (pc' := 71) rfl ?_
          refine Jvm.Own.i2c G5.here hx (hb hby at_71) (pc' := 72) rfl ?_
          refine Jvm.Own.callS1 (y := (⟨"java/lang/String", "valueOf", "(C)Ljava/lang/String;"⟩ : MethodName)) G5 hx (hb hby at_72) (hw _ (List.mem_of_getElem? (i := 3) rfl)) (hw _ (List.mem_of_getElem? (i := 4) rfl)) (hw _ (List.mem_of_getElem? (i := 5) rfl)) (hw _ (List.mem_of_getElem? (i := 6) rfl)) (by decide) (rm_vo l Z a0 hw (p1 &&& (255 : Int32)).toUInt32.toUInt16.toUInt32.toInt32 cs h0 G5.old (own_ch8 _) S_cs ncs) (by decide) (W := 0) (by decide) (by rw [hml]; rfl) (argsL := [(.int (p1 &&& (255 : Int32)).toUInt32.toUInt16.toUInt32.toInt32)]) (lenOf pd_11 rfl) rfl (Nat.le_of_eq rfl) (cells' := 2) rfl (by decide) (slots' := 5) rfl (by decide) (pc' := 75) rfl ?_
          intro T6 h6 r6 G6 Q6
          obtain ⟨s6, rfl, ge6, K6, E6⟩ := Q6
          have ga_s6 : Z.heap.size ≤ s6 := Nat.le_trans G5.old.1 ge6
          refine Jvm.Own.astore G6.here hx (hb hby at_75) rfl (Ls' := #[.val (.int p0), .val (.int p1), .val (.int (0 : Int32)), .val (.int kp), .val (.int hi), .val (.int (0 : Int32)), .val (.ref w_s_Making_Purpose_SERVED), .val (.ref s6), .unset, .unset, .unset, .unset, .unset, .unset, .unset]) rfl (pc' := 77) rfl ?_
          refine Jvm.Own.new G6 hx (hb hby at_77) (hw _ (List.mem_of_getElem? (i := 29) rfl)) (hw _ (List.mem_of_getElem? (i := 30) rfl)) (hw _ (List.mem_of_getElem? (i := 31) rfl)) (cells' := 3) rfl (by decide) (slots' := 28) rfl (by decide) (pc' := 80) rfl ?_
          intro T7 h7 b7 z7 G7 X7 E7 D7
          have ga_b7 : Z.heap.size ≤ b7 := ge_new G6.old z7
          have ne8 : s6 ≠ b7 := ne_new (E6).lt z7
          have F9 : Fld Z h7 b7 "com/example/amphion/amphion/BeanDefinition" "propertyValues" "Lcom/example/amphion/amphion/MutablePropertyValues;" .null := D7 (Or.inr (hw _ (List.mem_of_getElem? (i := 72) rfl))) (ty := (.object "com/example/amphion/amphion/MutablePropertyValues")) (by decide)
          have F10 : Fld Z h7 b7 "com/example/amphion/amphion/BeanDefinition" "constructorArguments" "Ljava/util/List;" .null := D7 (Or.inr (hw _ (List.mem_of_getElem? (i := 98) rfl))) (ty := (.object "java/util/List")) (by decide)
          have F11 : Fld Z h7 b7 "com/example/amphion/amphion/BeanDefinition" "qualifiers" "Ljava/util/List;" .null := D7 (Or.inr (hw _ (List.mem_of_getElem? (i := 100) rfl))) (ty := (.object "java/util/List")) (by decide)
          have F12 : Fld Z h7 b7 "com/example/amphion/amphion/BeanDefinition" "dependsOn" "Ljava/util/List;" .null := D7 (Or.inl (hw _ (List.mem_of_getElem? (i := 108) rfl))) (ty := (.object "java/util/List")) (by decide)
          have F13 : Fld Z h7 b7 "com/example/amphion/amphion/BeanDefinition" "autowireMode" "Ljava/lang/String;" .null := D7 (Or.inl (hw _ (List.mem_of_getElem? (i := 113) rfl))) (ty := (.object "java/lang/String")) (by decide)
          have F14 : Fld Z h7 b7 "com/example/amphion/amphion/BeanDefinition" "autowireCandidate" "Z" (.int (0 : Int32)) := D7 (Or.inl (hw _ (List.mem_of_getElem? (i := 115) rfl))) (ty := .boolean) (by decide)
          have F15 : Fld Z h7 b7 "com/example/amphion/amphion/BeanDefinition" "beanClassName" "Ljava/lang/String;" .null := D7 (Or.inl (hw _ (List.mem_of_getElem? (i := 117) rfl))) (ty := (.object "java/lang/String")) (by decide)
          have F16 : Fld Z h7 b7 "com/example/amphion/amphion/BeanDefinition" "resource" "Ljava/lang/String;" .null := D7 (Or.inr (hw _ (List.mem_of_getElem? (i := 119) rfl))) (ty := (.object "java/lang/String")) (by decide)
          have F17 : Fld Z h7 b7 "com/example/amphion/amphion/BeanDefinition" "lineNumber" "I" (.int (0 : Int32)) := D7 (Or.inr (hw _ (List.mem_of_getElem? (i := 121) rfl))) (ty := .int) (by decide)
          have F18 : Fld Z h7 b7 "com/example/amphion/amphion/BeanDefinition" "scope" "Ljava/lang/String;" .null := D7 (Or.inl (hw _ (List.mem_of_getElem? (i := 172) rfl))) (ty := (.object "java/lang/String")) (by decide)
          refine Jvm.Own.dup G7.here hx (hb hby at_80) rfl (pc' := 81) rfl ?_
          refine Jvm.Own.aconstNull G7.here hx (hb hby at_81) (pc' := 82) rfl ?_
          refine Jvm.Own.aconstNull G7.here hx (hb hby at_82) (pc' := 83) rfl ?_
          refine Jvm.Own.iconst G7.here hx (hb hby at_83) (v := (-1 : Int32)) rfl (pc' := 84) rfl ?_
          refine Jvm.Own.callI0 (y := (⟨"com/example/amphion/amphion/BeanDefinition", "<init>", "(Ljava/lang/String;Ljava/lang/String;I)V"⟩ : MethodName)) G7 hx (hb hby at_84) rfl (hw _ (List.mem_of_getElem? (i := 32) rfl)) (hw _ (List.mem_of_getElem? (i := 33) rfl)) (hw _ (List.mem_of_getElem? (i := 31) rfl)) (hw _ (List.mem_of_getElem? (i := 34) rfl)) (by decide) (rm_bd l Z a0 hw b7 w_dc w_el h7 G7.old ga_b7 E7 F9 F10 F11 F12 F13 F14 F15 F16 F17 F18 S_dc S_el) (by decide) (W := 1) (by decide) (by rw [hml]; rfl) (argsL := [.null, .null, (.int (-1 : Int32))]) (lenOf pd_12 rfl) rfl (Nat.le_of_eq rfl) (cells' := 9) rfl (by decide) (slots' := 60) rfl (by decide) (pc' := 87) rfl ?_
          intro T19 h19 G19 Q19
          obtain ⟨K19, E19, Fscope19⟩ := Q19
          refine Jvm.Own.astore G19.here hx (hb hby at_87) rfl (Ls' := #[.val (.int p0), .val (.int p1), .val (.int (0 : Int32)), .val (.int kp), .val (.int hi), .val (.int (0 : Int32)), .val (.ref w_s_Making_Purpose_SERVED), .val (.ref s6), .val (.ref b7), .unset, .unset, .unset, .unset, .unset, .unset]) rfl (pc' := 89) rfl ?_
          refine Jvm.Own.new G19 hx (hb hby at_89) (hw _ (List.mem_of_getElem? (i := 29) rfl)) (hw _ (List.mem_of_getElem? (i := 30) rfl)) (hw _ (List.mem_of_getElem? (i := 31) rfl)) (cells' := 10) rfl (by decide) (slots' := 83) rfl (by decide) (pc' := 92) rfl ?_
          intro T20 h20 b20 z20 G20 X20 E20 D20
          have ga_b20 : Z.heap.size ≤ b20 := ge_new G19.old z20
          have E22 := ((E6.ext X7).keep K19)
          have ne21 : s6 ≠ b20 := ne_new (E22).lt z20
          have ne23 : b7 ≠ b20 := ne_new (E19).lt z20
          have F24 : Fld Z h20 b20 "com/example/amphion/amphion/BeanDefinition" "propertyValues" "Lcom/example/amphion/amphion/MutablePropertyValues;" .null := D20 (Or.inr (hw _ (List.mem_of_getElem? (i := 72) rfl))) (ty := (.object "com/example/amphion/amphion/MutablePropertyValues")) (by decide)
          have F25 : Fld Z h20 b20 "com/example/amphion/amphion/BeanDefinition" "constructorArguments" "Ljava/util/List;" .null := D20 (Or.inr (hw _ (List.mem_of_getElem? (i := 98) rfl))) (ty := (.object "java/util/List")) (by decide)
          have F26 : Fld Z h20 b20 "com/example/amphion/amphion/BeanDefinition" "qualifiers" "Ljava/util/List;" .null := D20 (Or.inr (hw _ (List.mem_of_getElem? (i := 100) rfl))) (ty := (.object "java/util/List")) (by decide)
          have F27 : Fld Z h20 b20 "com/example/amphion/amphion/BeanDefinition" "dependsOn" "Ljava/util/List;" .null := D20 (Or.inl (hw _ (List.mem_of_getElem? (i := 108) rfl))) (ty := (.object "java/util/List")) (by decide)
          have F28 : Fld Z h20 b20 "com/example/amphion/amphion/BeanDefinition" "autowireMode" "Ljava/lang/String;" .null := D20 (Or.inl (hw _ (List.mem_of_getElem? (i := 113) rfl))) (ty := (.object "java/lang/String")) (by decide)
          have F29 : Fld Z h20 b20 "com/example/amphion/amphion/BeanDefinition" "autowireCandidate" "Z" (.int (0 : Int32)) := D20 (Or.inl (hw _ (List.mem_of_getElem? (i := 115) rfl))) (ty := .boolean) (by decide)
          have F30 : Fld Z h20 b20 "com/example/amphion/amphion/BeanDefinition" "beanClassName" "Ljava/lang/String;" .null := D20 (Or.inl (hw _ (List.mem_of_getElem? (i := 117) rfl))) (ty := (.object "java/lang/String")) (by decide)
          have F31 : Fld Z h20 b20 "com/example/amphion/amphion/BeanDefinition" "resource" "Ljava/lang/String;" .null := D20 (Or.inr (hw _ (List.mem_of_getElem? (i := 119) rfl))) (ty := (.object "java/lang/String")) (by decide)
          have F32 : Fld Z h20 b20 "com/example/amphion/amphion/BeanDefinition" "lineNumber" "I" (.int (0 : Int32)) := D20 (Or.inr (hw _ (List.mem_of_getElem? (i := 121) rfl))) (ty := .int) (by decide)
          have F33 : Fld Z h20 b20 "com/example/amphion/amphion/BeanDefinition" "scope" "Ljava/lang/String;" .null := D20 (Or.inl (hw _ (List.mem_of_getElem? (i := 172) rfl))) (ty := (.object "java/lang/String")) (by decide)
          refine Jvm.Own.dup G20.here hx (hb hby at_92) rfl (pc' := 93) rfl ?_
          refine Jvm.Own.aconstNull G20.here hx (hb hby at_93) (pc' := 94) rfl ?_
          refine Jvm.Own.aconstNull G20.here hx (hb hby at_94) (pc' := 95) rfl ?_
          refine Jvm.Own.iconst G20.here hx (hb hby at_95) (v := (-1 : Int32)) rfl (pc' := 96) rfl ?_
          refine Jvm.Own.callI0 (y := (⟨"com/example/amphion/amphion/BeanDefinition", "<init>", "(Ljava/lang/String;Ljava/lang/String;I)V"⟩ : MethodName)) G20 hx (hb hby at_96) rfl (hw _ (List.mem_of_getElem? (i := 32) rfl)) (hw _ (List.mem_of_getElem? (i := 33) rfl)) (hw _ (List.mem_of_getElem? (i := 31) rfl)) (hw _ (List.mem_of_getElem? (i := 34) rfl)) (by decide) (rm_bd l Z a0 hw b20 w_dc w_el h20 G20.old ga_b20 E20 F24 F25 F26 F27 F28 F29 F30 F31 F32 F33 S_dc S_el) (by decide) (W := 1) (by decide) (by rw [hml]; rfl) (argsL := [.null, .null, (.int (-1 : Int32))]) (lenOf pd_12 rfl) rfl (Nat.le_of_eq rfl) (cells' := 16) rfl (by decide) (slots' := 115) rfl (by decide) (pc' := 99) rfl ?_
          intro T34 h34 G34 Q34
          obtain ⟨K34, E34, Fscope34⟩ := Q34
          refine Jvm.Own.astore G34.here hx (hb hby at_99) rfl (Ls' := #[.val (.int p0), .val (.int p1), .val (.int (0 : Int32)), .val (.int kp), .val (.int hi), .val (.int (0 : Int32)), .val (.ref w_s_Making_Purpose_SERVED), .val (.ref s6), .val (.ref b7), .val (.ref b20), .unset, .unset, .unset, .unset, .unset]) rfl (pc' := 101) rfl ?_
          refine Jvm.Own.iload G34.here hx (hb hby at_101) rfl (pc' := 103) rfl ?_
          refine Jvm.Own.ifY G34.here hx (hb hby at_103) ((if0 _ _).trans (teq (by decide : (0 : Int32) = (0 : Int32))).1) (pc' := 113) (by decide) (by decide) ?_
          refine Jvm.Own.iload G34.here hx (hb hby at_113) rfl (pc' := 115) rfl ?_
          have K35 : ∀ (T36 : State), Go true own_EL [b20, b7] p l e room_1 s m #[(.int p0), (.int p1)] below meth ck Z "com/example/amphion/amphion/MakingTakesUnfinishedPinLaw" T36 h34 16 115 → ∀ (inn : Value), (inn.isRef = true) → Fz true own_EL p e room_1 s below Z (fun v h' => ∃ w, v = some w ∧ q0 w h') (T36.setTop (mkF m 124 #[.val (.int p0), .val (.int p1), .val (.int (0 : Int32)), .val (.int kp), .val (.int hi), .val (.int (0 : Int32)), .val (.ref w_s_Making_Purpose_SERVED), .val (.ref s6), .val (.ref b7), .val (.ref b20), .unset, .unset, .unset, .unset, .unset] [inn])) := by
            intro T36 G36 inn hin
            refine Jvm.Own.astore G36.here hx (hb hby at_124) hin (Ls' := #[.val (.int p0), .val (.int p1), .val (.int (0 : Int32)), .val (.int kp), .val (.int hi), .val (.int (0 : Int32)), .val (.ref w_s_Making_Purpose_SERVED), .val (.ref s6), .val (.ref b7), .val (.ref b20), .val inn, .unset, .unset, .unset, .unset]) (by rcases ref_cases hin with rfl | ⟨_, rfl⟩ <;> rfl) (pc' := 126) rfl ?_
            refine Jvm.Own.new G36 hx (hb hby at_126) (hw _ (List.mem_of_getElem? (i := 122) rfl)) (hw _ (List.mem_of_getElem? (i := 123) rfl)) (hw _ (List.mem_of_getElem? (i := 124) rfl)) (cells' := 17) rfl (by decide) (slots' := 120) rfl (by decide) (pc' := 129) rfl ?_
            intro T37 h37 b37 z37 G37 X37 E37 D37
            have ga_b37 : Z.heap.size ≤ b37 := ge_new G36.old z37
            have E39 := ((E22.ext X20).keep K34)
            have ne38 : s6 ≠ b37 := ne_new (E39).lt z37
            have E41 := ((E19.ext X20).keep K34)
            have ne40 : b7 ≠ b37 := ne_new (E41).lt z37
            have ne42 : b20 ≠ b37 := ne_new (E34).lt z37
            have F43 : Fld Z h37 b37 "com/example/amphion/amphion/Making" "name" "Ljava/lang/String;" .null := D37 (Or.inr (hw _ (List.mem_of_getElem? (i := 135) rfl))) (ty := (.object "java/lang/String")) (by decide)
            have F44 : Fld Z h37 b37 "com/example/amphion/amphion/Making" "definition" "Lcom/example/amphion/amphion/BeanDefinition;" .null := D37 (Or.inr (hw _ (List.mem_of_getElem? (i := 137) rfl))) (ty := (.object "com/example/amphion/amphion/BeanDefinition")) (by decide)
            have F45 : Fld Z h37 b37 "com/example/amphion/amphion/Making" "kept" "Z" (.int (0 : Int32)) := D37 (Or.inr (hw _ (List.mem_of_getElem? (i := 139) rfl))) (ty := .boolean) (by decide)
            have F46 : Fld Z h37 b37 "com/example/amphion/amphion/Making" "purpose" "Lcom/example/amphion/amphion/Making$Purpose;" .null := D37 (Or.inr (hw _ (List.mem_of_getElem? (i := 141) rfl))) (ty := (.object "com/example/amphion/amphion/Making$Purpose")) (by decide)
            have F47 : Fld Z h37 b37 "com/example/amphion/amphion/Making" "inner" "Lcom/example/amphion/amphion/BeanDefinition;" .null := D37 (Or.inr (hw _ (List.mem_of_getElem? (i := 143) rfl))) (ty := (.object "com/example/amphion/amphion/BeanDefinition")) (by decide)
            refine Jvm.Own.dup G37.here hx (hb hby at_129) rfl (pc' := 130) rfl ?_
            refine Jvm.Own.aload G37.here hx (hb hby at_130) rfl rfl (pc' := 132) rfl ?_
            refine Jvm.Own.aload G37.here hx (hb hby at_132) rfl rfl (pc' := 134) rfl ?_
            refine Jvm.Own.iloadN G37.here hx (hb hby at_134) rfl (pc' := 135) rfl ?_
            refine Jvm.Own.aload G37.here hx (hb hby at_135) rfl rfl (pc' := 137) rfl ?_
            refine Jvm.Own.aload G37.here hx (hb hby at_137) rfl hin (pc' := 139) rfl ?_
            refine Jvm.Own.callI0 (y := (⟨"com/example/amphion/amphion/Making", "<init>", "(Ljava/lang/String;Lcom/example/amphion/amphion/BeanDefinition;ZLcom/example/amphion/amphion/Making$Purpose;Lcom/example/amphion/amphion/BeanDefinition;)V"⟩ : MethodName)) G37 hx (hb hby at_139) rfl (hw _ (List.mem_of_getElem? (i := 125) rfl)) (hw _ (List.mem_of_getElem? (i := 126) rfl)) (hw _ (List.mem_of_getElem? (i := 124) rfl)) (hw _ (List.mem_of_getElem? (i := 127) rfl)) (by decide) (rm_mk l Z a0 hw b37 s6 (.ref b7) kp w_s_Making_Purpose_SERVED inn h37 G37.old ga_b37 E37 F43 F44 F45 F46 F47 rfl hin (own_n01 hk) (own_f01 hk)) (by decide) (W := 1) (by decide) (by rw [hml]; rfl) (argsL := [(.ref s6), (.ref b7), (.int kp), (.ref w_s_Making_Purpose_SERVED), inn]) (lenOf pd_9 rfl) rfl (Nat.le_of_eq rfl) (cells' := 17) rfl (by decide) (slots' := 120) rfl (by decide) (pc' := 142) rfl ?_
            intro T48 h48 G48 Q48
            obtain ⟨K48, E48, Fp48, Fk48⟩ := Q48
            refine Jvm.Own.astore G48.here hx (hb hby at_142) rfl (Ls' := #[.val (.int p0), .val (.int p1), .val (.int (0 : Int32)), .val (.int kp), .val (.int hi), .val (.int (0 : Int32)), .val (.ref w_s_Making_Purpose_SERVED), .val (.ref s6), .val (.ref b7), .val (.ref b20), .val inn, .val (.ref b37), .unset, .unset, .unset]) rfl (pc' := 144) rfl ?_
            refine Jvm.Own.aload G48.here hx (hb hby at_144) rfl rfl (pc' := 146) rfl ?_
            refine Jvm.Own.callVP (y := (⟨"com/example/amphion/amphion/Making", "takesUnfinished", "()Z"⟩ : MethodName)) (z := (⟨"com/example/amphion/amphion/Making", "takesUnfinished", "()Z"⟩ : MethodName)) G48 hx (hb hby at_146) (nfOf (y := (⟨"com/example/amphion/amphion/Making", "takesUnfinished", "()Z"⟩ : MethodName)) (z := (⟨"com/example/amphion/amphion/Making", "takesUnfinished", "()Z"⟩ : MethodName)) rfl (hw _ (List.mem_of_getElem? (i := 147) rfl))) (hw _ (List.mem_of_getElem? (i := 144) rfl)) (hw _ (List.mem_of_getElem? (i := 145) rfl)) (hw _ (List.mem_of_getElem? (i := 147) rfl)) (hw _ (List.mem_of_getElem? (i := 146) rfl)) (hw _ (List.mem_of_getElem? (i := 124) rfl)) (hw _ (List.mem_of_getElem? (i := 148) rfl)) (by decide) E48 (rm_tu l Z a0 hw b37 w_s_Making_Purpose_SERVED w_s_Making_Purpose_SERVED w_s_Making_Purpose_TYPE_CHECK h48 G48.old Fp48 S_s_Making_Purpose_SERVED E_s_Making_Purpose_SERVED S_s_Making_Purpose_TYPE_CHECK E_s_Making_Purpose_TYPE_CHECK F_s_Making_Purpose_SERVED_ordinal F_s_Making_Purpose_TYPE_CHECK_ordinal) (by decide) (W := 0) (by decide) (by rw [hml]; rfl) (argsL := []) (lenOf pd_10 rfl) rfl (Nat.le_of_eq rfl) (cells' := 17) rfl (by decide) (slots' := 120) rfl (by decide) (pc' := 149) rfl ?_
            intro T49 r49 G49 Q49
            have hr49 : r49 = .int (own_tu w_s_Making_Purpose_SERVED w_s_Making_Purpose_TYPE_CHECK) := Q49
            rw [show own_tu w_s_Making_Purpose_SERVED w_s_Making_Purpose_TYPE_CHECK = (1 : Int32) from by simp [own_tu, hsv]] at hr49
            subst hr49
            refine Jvm.Own.istore G49.here hx (hb hby at_149) (Ls' := #[.val (.int p0), .val (.int p1), .val (.int (0 : Int32)), .val (.int kp), .val (.int hi), .val (.int (0 : Int32)), .val (.ref w_s_Making_Purpose_SERVED), .val (.ref s6), .val (.ref b7), .val (.ref b20), .val inn, .val (.ref b37), .val (.int (1 : Int32)), .unset, .unset]) rfl (pc' := 151) rfl ?_
            refine Jvm.Own.iload G49.here hx (hb hby at_151) rfl (pc' := 153) rfl ?_
            refine Jvm.Own.iloadN G49.here hx (hb hby at_153) rfl (pc' := 154) rfl ?_
            refine Jvm.Own.ifN G49.here hx (hb hby at_154) ((if0 _ _).trans (teq (by decide : (0 : Int32) = (0 : Int32))).2) (pc' := 157) rfl ?_
            refine Jvm.Own.iconst G49.here hx (hb hby at_157) (v := (1 : Int32)) rfl (pc' := 158) rfl ?_
            refine Jvm.Own.goto G49.here hx (hb hby at_158) (pc' := 162) (by decide) (by decide) ?_
            refine Jvm.Own.icmpY G49.here hx (hb hby at_162) (teq (by decide : (1 : Int32) = (1 : Int32))).1 (pc' := 167) (by decide) (by decide) ?_
            refine Jvm.Own.aload G49.here hx (hb hby at_167) rfl rfl (pc' := 169) rfl ?_
            refine Jvm.Own.aload G49.here hx (hb hby at_169) rfl rfl (pc' := 171) rfl ?_
            refine Jvm.Own.aload G49.here hx (hb hby at_171) rfl rfl (pc' := 173) rfl ?_
            refine Jvm.Own.aload G49.here hx (hb hby at_173) rfl rfl (pc' := 175) rfl ?_
            have E50 := ((E34.ext X37).keep K48)
            have F51 := ((Fscope34.ext X37).keep K48 (ninS ne42 nin0))
            refine Jvm.Own.callV1 (y := (⟨"com/example/amphion/amphion/Making", "inner", "(Ljava/lang/String;Lcom/example/amphion/amphion/BeanDefinition;Lcom/example/amphion/amphion/BeanDefinition;)Lcom/example/amphion/amphion/Making;"⟩ : MethodName)) (z := (⟨"com/example/amphion/amphion/Making", "inner", "(Ljava/lang/String;Lcom/example/amphion/amphion/BeanDefinition;Lcom/example/amphion/amphion/BeanDefinition;)Lcom/example/amphion/amphion/Making;"⟩ : MethodName)) G49 hx (hb hby at_175) (nfOf (y := (⟨"com/example/amphion/amphion/Making", "inner", "(Ljava/lang/String;Lcom/example/amphion/amphion/BeanDefinition;Lcom/example/amphion/amphion/BeanDefinition;)Lcom/example/amphion/amphion/Making;"⟩ : MethodName)) (z := (⟨"com/example/amphion/amphion/Making", "takesUnfinished", "()Z"⟩ : MethodName)) rfl (hw _ (List.mem_of_getElem? (i := 147) rfl))) (hw _ (List.mem_of_getElem? (i := 151) rfl)) (hw _ (List.mem_of_getElem? (i := 152) rfl)) (hw _ (List.mem_of_getElem? (i := 154) rfl)) (hw _ (List.mem_of_getElem? (i := 153) rfl)) (hw _ (List.mem_of_getElem? (i := 124) rfl)) (hw _ (List.mem_of_getElem? (i := 155) rfl)) (by decide) E48 (rm_in0 l Z a0 hw b37 s6 b7 b20 w_s_Making_Purpose_SERVED kp  cs h48 G49.old Fk48 Fp48 E50 F51 S_cs ncs) (by decide) (W := 0) (by decide) (by rw [hml]; rfl) (argsL := [(.ref s6), (.ref b7), (.ref b20)]) (lenOf pd_13 rfl) rfl (Nat.le_of_eq rfl) (cells' := 22) rfl (by decide) (slots' := 205) rfl (by decide) (pc' := 178) rfl ?_
            intro T52 h52 r52 G52 Q52
            obtain ⟨x52, rfl, ge52, K52, E52, F52⟩ := Q52
            have ga_x52 : Z.heap.size ≤ x52 := Nat.le_trans G49.old.1 ge52
            have E54 := ((E39.ext X37).keep K48)
            have ne53 : s6 ≠ x52 := ne_ge (E54).lt ge52
            have E56 := ((E41.ext X37).keep K48)
            have ne55 : b7 ≠ x52 := ne_ge (E56).lt ge52
            have ne57 : b20 ≠ x52 := ne_ge (E50).lt ge52
            have ne58 : b37 ≠ x52 := ne_ge (E48).lt ge52
            refine Jvm.Own.astore G52.here hx (hb hby at_178) rfl (Ls' := #[.val (.int p0), .val (.int p1), .val (.int (0 : Int32)), .val (.int kp), .val (.int hi), .val (.int (0 : Int32)), .val (.ref w_s_Making_Purpose_SERVED), .val (.ref s6), .val (.ref b7), .val (.ref b20), .val inn, .val (.ref b37), .val (.int (1 : Int32)), .val (.ref x52), .unset]) rfl (pc' := 180) rfl ?_
            refine Jvm.Own.aload G52.here hx (hb hby at_180) rfl rfl (pc' := 182) rfl ?_
            refine Jvm.Own.callVP (y := (⟨"com/example/amphion/amphion/Making", "takesUnfinished", "()Z"⟩ : MethodName)) (z := (⟨"com/example/amphion/amphion/Making", "takesUnfinished", "()Z"⟩ : MethodName)) G52 hx (hb hby at_182) (nfOf (y := (⟨"com/example/amphion/amphion/Making", "takesUnfinished", "()Z"⟩ : MethodName)) (z := (⟨"com/example/amphion/amphion/Making", "takesUnfinished", "()Z"⟩ : MethodName)) rfl (hw _ (List.mem_of_getElem? (i := 147) rfl))) (hw _ (List.mem_of_getElem? (i := 144) rfl)) (hw _ (List.mem_of_getElem? (i := 145) rfl)) (hw _ (List.mem_of_getElem? (i := 147) rfl)) (hw _ (List.mem_of_getElem? (i := 146) rfl)) (hw _ (List.mem_of_getElem? (i := 124) rfl)) (hw _ (List.mem_of_getElem? (i := 148) rfl)) (by decide) E52 (rm_tu l Z a0 hw x52 w_s_Making_Purpose_SERVED w_s_Making_Purpose_SERVED w_s_Making_Purpose_TYPE_CHECK h52 G52.old F52 S_s_Making_Purpose_SERVED E_s_Making_Purpose_SERVED S_s_Making_Purpose_TYPE_CHECK E_s_Making_Purpose_TYPE_CHECK F_s_Making_Purpose_SERVED_ordinal F_s_Making_Purpose_TYPE_CHECK_ordinal) (by decide) (W := 0) (by decide) (by rw [hml]; rfl) (argsL := []) (lenOf pd_10 rfl) rfl (Nat.le_of_eq rfl) (cells' := 22) rfl (by decide) (slots' := 205) rfl (by decide) (pc' := 185) rfl ?_
            intro T59 r59 G59 Q59
            have hr59 : r59 = .int (own_tu w_s_Making_Purpose_SERVED w_s_Making_Purpose_TYPE_CHECK) := Q59
            rw [show own_tu w_s_Making_Purpose_SERVED w_s_Making_Purpose_TYPE_CHECK = (1 : Int32) from by simp [own_tu, hsv]] at hr59
            subst hr59
            refine Jvm.Own.iload G59.here hx (hb hby at_185) rfl (pc' := 187) rfl ?_
            refine Jvm.Own.icmpY G59.here hx (hb hby at_187) (teq (by decide : (1 : Int32) = (1 : Int32))).1 (pc' := 192) (by decide) (by decide) ?_
            refine Jvm.Own.iloadN G59.here hx (hb hby at_192) rfl (pc' := 193) rfl ?_
            refine Jvm.Own.ifY G59.here hx (hb hby at_193) ((if0 _ _).trans (teq (by decide : (0 : Int32) = (0 : Int32))).1) (pc' := 206) (by decide) (by decide) ?_
            refine Jvm.Own.aload G59.here hx (hb hby at_206) rfl rfl (pc' := 208) rfl ?_
            refine Jvm.Own.aload G59.here hx (hb hby at_208) rfl rfl (pc' := 210) rfl ?_
            have E60 := (E50.keep K52)
            have F61 := (F51.keep K52 nin0)
            refine Jvm.Own.callS1 (y := (⟨"com/example/amphion/amphion/Making", "of", "(Ljava/lang/String;Lcom/example/amphion/amphion/BeanDefinition;)Lcom/example/amphion/amphion/Making;"⟩ : MethodName)) G59 hx (hb hby at_210) (hw _ (List.mem_of_getElem? (i := 158) rfl)) (hw _ (List.mem_of_getElem? (i := 159) rfl)) (hw _ (List.mem_of_getElem? (i := 124) rfl)) (hw _ (List.mem_of_getElem? (i := 160) rfl)) (by decide) (rm_of0 l Z a0 hw s6 b20 w_s_Making_Purpose_SERVED w_s_Making_Purpose_TYPE_CHECK  cs h52 G59.old S_s_Making_Purpose_SERVED E_s_Making_Purpose_SERVED S_s_Making_Purpose_TYPE_CHECK E_s_Making_Purpose_TYPE_CHECK F_s_Making_Purpose_SERVED_ordinal F_s_Making_Purpose_TYPE_CHECK_ordinal E60 F61 S_cs ncs) (by decide) (W := 0) (by decide) (by rw [hml]; rfl) (argsL := [(.ref s6), (.ref b20)]) (lenOf pd_14 rfl) rfl (Nat.le_of_eq rfl) (cells' := 27) rfl (by decide) (slots' := 290) rfl (by decide) (pc' := 213) rfl ?_
            intro T62 h62 r62 G62 Q62
            obtain ⟨x62, rfl, ge62, K62, E62, F62⟩ := Q62
            have ga_x62 : Z.heap.size ≤ x62 := Nat.le_trans G59.old.1 ge62
            have E64 := (E54.keep K52)
            have ne63 : s6 ≠ x62 := ne_ge (E64).lt ge62
            have E66 := (E56.keep K52)
            have ne65 : b7 ≠ x62 := ne_ge (E66).lt ge62
            have ne67 : b20 ≠ x62 := ne_ge (E60).lt ge62
            have E69 := (E48.keep K52)
            have ne68 : b37 ≠ x62 := ne_ge (E69).lt ge62
            have ne70 : x52 ≠ x62 := ne_ge (E52).lt ge62
            refine Jvm.Own.astore G62.here hx (hb hby at_213) rfl (Ls' := #[.val (.int p0), .val (.int p1), .val (.int (0 : Int32)), .val (.int kp), .val (.int hi), .val (.int (0 : Int32)), .val (.ref w_s_Making_Purpose_SERVED), .val (.ref s6), .val (.ref b7), .val (.ref b20), .val inn, .val (.ref b37), .val (.int (1 : Int32)), .val (.ref x52), .val (.ref x62)]) rfl (pc' := 215) rfl ?_
            refine Jvm.Own.aload G62.here hx (hb hby at_215) rfl rfl (pc' := 217) rfl ?_
            refine Jvm.Own.callVP (y := (⟨"com/example/amphion/amphion/Making", "takesUnfinished", "()Z"⟩ : MethodName)) (z := (⟨"com/example/amphion/amphion/Making", "takesUnfinished", "()Z"⟩ : MethodName)) G62 hx (hb hby at_217) (nfOf (y := (⟨"com/example/amphion/amphion/Making", "takesUnfinished", "()Z"⟩ : MethodName)) (z := (⟨"com/example/amphion/amphion/Making", "takesUnfinished", "()Z"⟩ : MethodName)) rfl (hw _ (List.mem_of_getElem? (i := 147) rfl))) (hw _ (List.mem_of_getElem? (i := 144) rfl)) (hw _ (List.mem_of_getElem? (i := 145) rfl)) (hw _ (List.mem_of_getElem? (i := 147) rfl)) (hw _ (List.mem_of_getElem? (i := 146) rfl)) (hw _ (List.mem_of_getElem? (i := 124) rfl)) (hw _ (List.mem_of_getElem? (i := 148) rfl)) (by decide) E62 (rm_tu l Z a0 hw x62 w_s_Making_Purpose_SERVED w_s_Making_Purpose_SERVED w_s_Making_Purpose_TYPE_CHECK h62 G62.old F62 S_s_Making_Purpose_SERVED E_s_Making_Purpose_SERVED S_s_Making_Purpose_TYPE_CHECK E_s_Making_Purpose_TYPE_CHECK F_s_Making_Purpose_SERVED_ordinal F_s_Making_Purpose_TYPE_CHECK_ordinal) (by decide) (W := 0) (by decide) (by rw [hml]; rfl) (argsL := []) (lenOf pd_10 rfl) rfl (Nat.le_of_eq rfl) (cells' := 27) rfl (by decide) (slots' := 290) rfl (by decide) (pc' := 220) rfl ?_
            intro T71 r71 G71 Q71
            have hr71 : r71 = .int (own_tu w_s_Making_Purpose_SERVED w_s_Making_Purpose_TYPE_CHECK) := Q71
            rw [show own_tu w_s_Making_Purpose_SERVED w_s_Making_Purpose_TYPE_CHECK = (1 : Int32) from by simp [own_tu, hsv]] at hr71
            subst hr71
            refine Jvm.Own.iloadN G71.here hx (hb hby at_220) rfl (pc' := 221) rfl ?_
            refine Jvm.Own.ifN G71.here hx (hb hby at_221) ((if0 _ _).trans (teq (by decide : (0 : Int32) = (0 : Int32))).2) (pc' := 224) rfl ?_
            refine Jvm.Own.iconst G71.here hx (hb hby at_224) (v := (1 : Int32)) rfl (pc' := 225) rfl ?_
            refine Jvm.Own.goto G71.here hx (hb hby at_225) (pc' := 229) (by decide) (by decide) ?_
            refine Jvm.Own.icmpN G71.here hx (hb hby at_229) (teq (by decide : (1 : Int32) = (1 : Int32))).2 (pc' := 232) rfl ?_
            refine Jvm.Own.iconst G71.here hx (hb hby at_232) (v := (1 : Int32)) rfl (pc' := 233) rfl ?_
            refine Jvm.Own.goto G71.here hx (hb hby at_233) (pc' := 237) (by decide) (by decide) ?_
            exact Jvm.Own.retI G71 hx (hb hby at_237) hret hlk (by simp) rfl (by decide) (by decide) ⟨_, rfl, rfl⟩
          by_cases hb115 : hi = (0 : Int32)
          · skip
            refine Jvm.Own.ifY G34.here hx (hb hby at_115) ((if0 _ _).trans (teq hb115).1) (pc' := 123) (by decide) (by decide) ?_
            refine Jvm.Own.aconstNull G34.here hx (hb hby at_123) (pc' := 124) rfl ?_
            exact K35 T34 G34 .null rfl
          · skip
            refine Jvm.Own.ifN G34.here hx (hb hby at_115) ((if0 _ _).trans (feq hb115).1) (pc' := 118) rfl ?_
            refine Jvm.Own.aload G34.here hx (hb hby at_118) rfl rfl (pc' := 120) rfl ?_
            refine Jvm.Own.goto G34.here hx (hb hby at_120) (pc' := 124) (by decide) (by decide) ?_
            exact K35 T34 G34 (.ref b7) rfl
        · skip
          refine Jvm.Own.ifN G4.here hx (hb hby at_41) ((if0 _ _).trans (feq hc41).1) (pc' := 44) rfl ?_
          refine Jvm.Own.iconst G4.here hx (hb hby at_44) (v := (1 : Int32)) rfl (pc' := 45) rfl ?_
          refine Jvm.Own.goto G4.here hx (hb hby at_45) (pc' := 49) (by decide) (by decide) ?_
          refine Jvm.Own.istore G4.here hx (hb hby at_49) (Ls' := #[.val (.int p0), .val (.int p1), .val (.int (0 : Int32)), .val (.int kp), .val (.int hi), .val (.int (1 : Int32)), .unset, .unset, .unset, .unset, .unset, .unset, .unset, .unset, .unset]) rfl (pc' := 51) rfl ?_
          refine Jvm.Own.iloadN G4.here hx (hb hby at_51) rfl (pc' := 52) rfl ?_
          refine Jvm.Own.ifY G4.here hx (hb hby at_52) ((if0 _ _).trans (teq (by decide : (0 : Int32) = (0 : Int32))).1) (pc' := 61) (by decide) (by decide) ?_
          refine Jvm.Own.getstatic G4 hx (hb hby at_61) (host := "") (Or.inl (hw _ (List.mem_of_getElem? (i := 0) rfl))) Via.refl S_s_Making_Purpose_SERVED (pc' := 64) rfl ?_
          intro T72 G72
          refine Jvm.Own.astore G72.here hx (hb hby at_64) rfl (Ls' := #[.val (.int p0), .val (.int p1), .val (.int (0 : Int32)), .val (.int kp), .val (.int hi), .val (.int (1 : Int32)), .val (.ref w_s_Making_Purpose_SERVED), .unset, .unset, .unset, .unset, .unset, .unset, .unset, .unset]) rfl (pc' := 66) rfl ?_
          refine Jvm.Own.iloadN G72.here hx (hb hby at_66) rfl (pc' := 67) rfl ?_
          refine Jvm.Own.sipush G72.here hx (hb hby at_67) (v := (255 : Int32)) rfl (pc' := 70) rfl ?_
          refine Jvm.Own.iand G72.here hx (hb hby at_70) (pc' := 71) rfl ?_
          refine Jvm.Own.i2c G72.here hx (hb hby at_71) (pc' := 72) rfl ?_
          refine Jvm.Own.callS1 (y := (⟨"java/lang/String", "valueOf", "(C)Ljava/lang/String;"⟩ : MethodName)) G72 hx (hb hby at_72) (hw _ (List.mem_of_getElem? (i := 3) rfl)) (hw _ (List.mem_of_getElem? (i := 4) rfl)) (hw _ (List.mem_of_getElem? (i := 5) rfl)) (hw _ (List.mem_of_getElem? (i := 6) rfl)) (by decide) (rm_vo l Z a0 hw (p1 &&& (255 : Int32)).toUInt32.toUInt16.toUInt32.toInt32 cs h0 G72.old (own_ch8 _) S_cs ncs) (by decide) (W := 0) (by decide) (by rw [hml]; rfl) (argsL := [(.int (p1 &&& (255 : Int32)).toUInt32.toUInt16.toUInt32.toInt32)]) (lenOf pd_11 rfl) rfl (Nat.le_of_eq rfl) (cells' := 2) rfl (by decide) (slots' := 5) rfl (by decide) (pc' := 75) rfl ?_
          intro T73 h73 r73 G73 Q73
          obtain ⟨s73, rfl, ge73, K73, E73⟩ := Q73
          have ga_s73 : Z.heap.size ≤ s73 := Nat.le_trans G72.old.1 ge73
          refine Jvm.Own.astore G73.here hx (hb hby at_75) rfl (Ls' := #[.val (.int p0), .val (.int p1), .val (.int (0 : Int32)), .val (.int kp), .val (.int hi), .val (.int (1 : Int32)), .val (.ref w_s_Making_Purpose_SERVED), .val (.ref s73), .unset, .unset, .unset, .unset, .unset, .unset, .unset]) rfl (pc' := 77) rfl ?_
          refine Jvm.Own.new G73 hx (hb hby at_77) (hw _ (List.mem_of_getElem? (i := 29) rfl)) (hw _ (List.mem_of_getElem? (i := 30) rfl)) (hw _ (List.mem_of_getElem? (i := 31) rfl)) (cells' := 3) rfl (by decide) (slots' := 28) rfl (by decide) (pc' := 80) rfl ?_
          intro T74 h74 b74 z74 G74 X74 E74 D74
          have ga_b74 : Z.heap.size ≤ b74 := ge_new G73.old z74
          have ne75 : s73 ≠ b74 := ne_new (E73).lt z74
          have F76 : Fld Z h74 b74 "com/example/amphion/amphion/BeanDefinition" "propertyValues" "Lcom/example/amphion/amphion/MutablePropertyValues;" .null := D74 (Or.inr (hw _ (List.mem_of_getElem? (i := 72) rfl))) (ty := (.object "com/example/amphion/amphion/MutablePropertyValues")) (by decide)
          have F77 : Fld Z h74 b74 "com/example/amphion/amphion/BeanDefinition" "constructorArguments" "Ljava/util/List;" .null := D74 (Or.inr (hw _ (List.mem_of_getElem? (i := 98) rfl))) (ty := (.object "java/util/List")) (by decide)
          have F78 : Fld Z h74 b74 "com/example/amphion/amphion/BeanDefinition" "qualifiers" "Ljava/util/List;" .null := D74 (Or.inr (hw _ (List.mem_of_getElem? (i := 100) rfl))) (ty := (.object "java/util/List")) (by decide)
          have F79 : Fld Z h74 b74 "com/example/amphion/amphion/BeanDefinition" "dependsOn" "Ljava/util/List;" .null := D74 (Or.inl (hw _ (List.mem_of_getElem? (i := 108) rfl))) (ty := (.object "java/util/List")) (by decide)
          have F80 : Fld Z h74 b74 "com/example/amphion/amphion/BeanDefinition" "autowireMode" "Ljava/lang/String;" .null := D74 (Or.inl (hw _ (List.mem_of_getElem? (i := 113) rfl))) (ty := (.object "java/lang/String")) (by decide)
          have F81 : Fld Z h74 b74 "com/example/amphion/amphion/BeanDefinition" "autowireCandidate" "Z" (.int (0 : Int32)) := D74 (Or.inl (hw _ (List.mem_of_getElem? (i := 115) rfl))) (ty := .boolean) (by decide)
          have F82 : Fld Z h74 b74 "com/example/amphion/amphion/BeanDefinition" "beanClassName" "Ljava/lang/String;" .null := D74 (Or.inl (hw _ (List.mem_of_getElem? (i := 117) rfl))) (ty := (.object "java/lang/String")) (by decide)
          have F83 : Fld Z h74 b74 "com/example/amphion/amphion/BeanDefinition" "resource" "Ljava/lang/String;" .null := D74 (Or.inr (hw _ (List.mem_of_getElem? (i := 119) rfl))) (ty := (.object "java/lang/String")) (by decide)
          have F84 : Fld Z h74 b74 "com/example/amphion/amphion/BeanDefinition" "lineNumber" "I" (.int (0 : Int32)) := D74 (Or.inr (hw _ (List.mem_of_getElem? (i := 121) rfl))) (ty := .int) (by decide)
          have F85 : Fld Z h74 b74 "com/example/amphion/amphion/BeanDefinition" "scope" "Ljava/lang/String;" .null := D74 (Or.inl (hw _ (List.mem_of_getElem? (i := 172) rfl))) (ty := (.object "java/lang/String")) (by decide)
          refine Jvm.Own.dup G74.here hx (hb hby at_80) rfl (pc' := 81) rfl ?_
          refine Jvm.Own.aconstNull G74.here hx (hb hby at_81) (pc' := 82) rfl ?_
          refine Jvm.Own.aconstNull G74.here hx (hb hby at_82) (pc' := 83) rfl ?_
          refine Jvm.Own.iconst G74.here hx (hb hby at_83) (v := (-1 : Int32)) rfl (pc' := 84) rfl ?_
          refine Jvm.Own.callI0 (y := (⟨"com/example/amphion/amphion/BeanDefinition", "<init>", "(Ljava/lang/String;Ljava/lang/String;I)V"⟩ : MethodName)) G74 hx (hb hby at_84) rfl (hw _ (List.mem_of_getElem? (i := 32) rfl)) (hw _ (List.mem_of_getElem? (i := 33) rfl)) (hw _ (List.mem_of_getElem? (i := 31) rfl)) (hw _ (List.mem_of_getElem? (i := 34) rfl)) (by decide) (rm_bd l Z a0 hw b74 w_dc w_el h74 G74.old ga_b74 E74 F76 F77 F78 F79 F80 F81 F82 F83 F84 F85 S_dc S_el) (by decide) (W := 1) (by decide) (by rw [hml]; rfl) (argsL := [.null, .null, (.int (-1 : Int32))]) (lenOf pd_12 rfl) rfl (Nat.le_of_eq rfl) (cells' := 9) rfl (by decide) (slots' := 60) rfl (by decide) (pc' := 87) rfl ?_
          intro T86 h86 G86 Q86
          obtain ⟨K86, E86, Fscope86⟩ := Q86
          refine Jvm.Own.astore G86.here hx (hb hby at_87) rfl (Ls' := #[.val (.int p0), .val (.int p1), .val (.int (0 : Int32)), .val (.int kp), .val (.int hi), .val (.int (1 : Int32)), .val (.ref w_s_Making_Purpose_SERVED), .val (.ref s73), .val (.ref b74), .unset, .unset, .unset, .unset, .unset, .unset]) rfl (pc' := 89) rfl ?_
          refine Jvm.Own.new G86 hx (hb hby at_89) (hw _ (List.mem_of_getElem? (i := 29) rfl)) (hw _ (List.mem_of_getElem? (i := 30) rfl)) (hw _ (List.mem_of_getElem? (i := 31) rfl)) (cells' := 10) rfl (by decide) (slots' := 83) rfl (by decide) (pc' := 92) rfl ?_
          intro T87 h87 b87 z87 G87 X87 E87 D87
          have ga_b87 : Z.heap.size ≤ b87 := ge_new G86.old z87
          have E89 := ((E73.ext X74).keep K86)
          have ne88 : s73 ≠ b87 := ne_new (E89).lt z87
          have ne90 : b74 ≠ b87 := ne_new (E86).lt z87
          have F91 : Fld Z h87 b87 "com/example/amphion/amphion/BeanDefinition" "propertyValues" "Lcom/example/amphion/amphion/MutablePropertyValues;" .null := D87 (Or.inr (hw _ (List.mem_of_getElem? (i := 72) rfl))) (ty := (.object "com/example/amphion/amphion/MutablePropertyValues")) (by decide)
          have F92 : Fld Z h87 b87 "com/example/amphion/amphion/BeanDefinition" "constructorArguments" "Ljava/util/List;" .null := D87 (Or.inr (hw _ (List.mem_of_getElem? (i := 98) rfl))) (ty := (.object "java/util/List")) (by decide)
          have F93 : Fld Z h87 b87 "com/example/amphion/amphion/BeanDefinition" "qualifiers" "Ljava/util/List;" .null := D87 (Or.inr (hw _ (List.mem_of_getElem? (i := 100) rfl))) (ty := (.object "java/util/List")) (by decide)
          have F94 : Fld Z h87 b87 "com/example/amphion/amphion/BeanDefinition" "dependsOn" "Ljava/util/List;" .null := D87 (Or.inl (hw _ (List.mem_of_getElem? (i := 108) rfl))) (ty := (.object "java/util/List")) (by decide)
          have F95 : Fld Z h87 b87 "com/example/amphion/amphion/BeanDefinition" "autowireMode" "Ljava/lang/String;" .null := D87 (Or.inl (hw _ (List.mem_of_getElem? (i := 113) rfl))) (ty := (.object "java/lang/String")) (by decide)
          have F96 : Fld Z h87 b87 "com/example/amphion/amphion/BeanDefinition" "autowireCandidate" "Z" (.int (0 : Int32)) := D87 (Or.inl (hw _ (List.mem_of_getElem? (i := 115) rfl))) (ty := .boolean) (by decide)
          have F97 : Fld Z h87 b87 "com/example/amphion/amphion/BeanDefinition" "beanClassName" "Ljava/lang/String;" .null := D87 (Or.inl (hw _ (List.mem_of_getElem? (i := 117) rfl))) (ty := (.object "java/lang/String")) (by decide)
          have F98 : Fld Z h87 b87 "com/example/amphion/amphion/BeanDefinition" "resource" "Ljava/lang/String;" .null := D87 (Or.inr (hw _ (List.mem_of_getElem? (i := 119) rfl))) (ty := (.object "java/lang/String")) (by decide)
          have F99 : Fld Z h87 b87 "com/example/amphion/amphion/BeanDefinition" "lineNumber" "I" (.int (0 : Int32)) := D87 (Or.inr (hw _ (List.mem_of_getElem? (i := 121) rfl))) (ty := .int) (by decide)
          have F100 : Fld Z h87 b87 "com/example/amphion/amphion/BeanDefinition" "scope" "Ljava/lang/String;" .null := D87 (Or.inl (hw _ (List.mem_of_getElem? (i := 172) rfl))) (ty := (.object "java/lang/String")) (by decide)
          refine Jvm.Own.dup G87.here hx (hb hby at_92) rfl (pc' := 93) rfl ?_
          refine Jvm.Own.aconstNull G87.here hx (hb hby at_93) (pc' := 94) rfl ?_
          refine Jvm.Own.aconstNull G87.here hx (hb hby at_94) (pc' := 95) rfl ?_
          refine Jvm.Own.iconst G87.here hx (hb hby at_95) (v := (-1 : Int32)) rfl (pc' := 96) rfl ?_
          refine Jvm.Own.callI0 (y := (⟨"com/example/amphion/amphion/BeanDefinition", "<init>", "(Ljava/lang/String;Ljava/lang/String;I)V"⟩ : MethodName)) G87 hx (hb hby at_96) rfl (hw _ (List.mem_of_getElem? (i := 32) rfl)) (hw _ (List.mem_of_getElem? (i := 33) rfl)) (hw _ (List.mem_of_getElem? (i := 31) rfl)) (hw _ (List.mem_of_getElem? (i := 34) rfl)) (by decide) (rm_bd l Z a0 hw b87 w_dc w_el h87 G87.old ga_b87 E87 F91 F92 F93 F94 F95 F96 F97 F98 F99 F100 S_dc S_el) (by decide) (W := 1) (by decide) (by rw [hml]; rfl) (argsL := [.null, .null, (.int (-1 : Int32))]) (lenOf pd_12 rfl) rfl (Nat.le_of_eq rfl) (cells' := 16) rfl (by decide) (slots' := 115) rfl (by decide) (pc' := 99) rfl ?_
          intro T101 h101 G101 Q101
          obtain ⟨K101, E101, Fscope101⟩ := Q101
          refine Jvm.Own.astore G101.here hx (hb hby at_99) rfl (Ls' := #[.val (.int p0), .val (.int p1), .val (.int (0 : Int32)), .val (.int kp), .val (.int hi), .val (.int (1 : Int32)), .val (.ref w_s_Making_Purpose_SERVED), .val (.ref s73), .val (.ref b74), .val (.ref b87), .unset, .unset, .unset, .unset, .unset]) rfl (pc' := 101) rfl ?_
          refine Jvm.Own.iload G101.here hx (hb hby at_101) rfl (pc' := 103) rfl ?_
          refine Jvm.Own.ifN G101.here hx (hb hby at_103) ((if0 _ _).trans (feq (by decide : ¬ (1 : Int32) = (0 : Int32))).1) (pc' := 106) rfl ?_
          refine Jvm.Own.aload G101.here hx (hb hby at_106) rfl rfl (pc' := 108) rfl ?_
          refine Jvm.Own.ldcH (n := 36) (vs := [(.int (112 : Int32)), (.int (114 : Int32)), (.int (111 : Int32)), (.int (116 : Int32)), (.int (111 : Int32)), (.int (116 : Int32)), (.int (121 : Int32)), (.int (112 : Int32)), (.int (101 : Int32))]) (z := (9 : Int32)) G101 hx (hb hby at_108) (hw _ (List.mem_of_getElem? (i := 184) rfl)) (own_wS hw) (List.mem_of_getElem? (i := 2) rfl) ⟨by decide, by rfl⟩ (by decide) (by decide) (by decide) (by decide) (cells' := 18) rfl (by decide) (slots' := 155) rfl (by decide) (pc' := 110) rfl ?_
          intro T102 h102 a102 c102 k102 G102 X102 E102 Fc102 Fv102 V102 N102
          have ne104 := N102 b87 (List.mem_of_getElem? (i := 0) rfl)
          have ne105 := N102 b74 (List.mem_of_getElem? (i := 1) rfl)
          have E106 := (E101.ext X102)
          have F107 := (Fscope101.ext X102)
          refine Jvm.Own.callV0 (y := (⟨"com/example/amphion/amphion/BeanDefinition", "setScope", "(Ljava/lang/String;)V"⟩ : MethodName)) (z := (⟨"com/example/amphion/amphion/BeanDefinition", "setScope", "(Ljava/lang/String;)V"⟩ : MethodName)) G102 hx (hb hby at_110) (nfOf (y := (⟨"com/example/amphion/amphion/BeanDefinition", "setScope", "(Ljava/lang/String;)V"⟩ : MethodName)) (z := (⟨"com/example/amphion/amphion/BeanDefinition", "isPrototype", "()Z"⟩ : MethodName)) rfl (hw _ (List.mem_of_getElem? (i := 164) rfl))) (hw _ (List.mem_of_getElem? (i := 185) rfl)) (hw _ (List.mem_of_getElem? (i := 186) rfl)) (hw _ (List.mem_of_getElem? (i := 188) rfl)) (hw _ (List.mem_of_getElem? (i := 187) rfl)) (hw _ (List.mem_of_getElem? (i := 31) rfl)) (hw _ (List.mem_of_getElem? (i := 189) rfl)) (by decide) E106 (rm_ss l Z a0 hw b87 a102 h102 G102.old ga_b87 E106 F107) (by decide) (W := 0) (by decide) (by rw [hml]; rfl) (argsL := [(.ref a102)]) (lenOf pd_15 rfl) rfl (Nat.le_of_eq rfl) (cells' := 18) rfl (by decide) (slots' := 155) rfl (by decide) (pc' := 113) rfl ?_
          intro T108 h108 G108 Q108
          obtain ⟨K108, E108, F108⟩ := Q108
          refine Jvm.Own.iload G108.here hx (hb hby at_113) rfl (pc' := 115) rfl ?_
          have K109 : ∀ (T110 : State), Go true own_EL [b87, b74] p l e room_1 s m #[(.int p0), (.int p1)] below meth ck Z "com/example/amphion/amphion/MakingTakesUnfinishedPinLaw" T110 h108 18 155 → ∀ (inn : Value), (inn.isRef = true) → Fz true own_EL p e room_1 s below Z (fun v h' => ∃ w, v = some w ∧ q0 w h') (T110.setTop (mkF m 124 #[.val (.int p0), .val (.int p1), .val (.int (0 : Int32)), .val (.int kp), .val (.int hi), .val (.int (1 : Int32)), .val (.ref w_s_Making_Purpose_SERVED), .val (.ref s73), .val (.ref b74), .val (.ref b87), .unset, .unset, .unset, .unset, .unset] [inn])) := by
            intro T110 G110 inn hin
            refine Jvm.Own.astore G110.here hx (hb hby at_124) hin (Ls' := #[.val (.int p0), .val (.int p1), .val (.int (0 : Int32)), .val (.int kp), .val (.int hi), .val (.int (1 : Int32)), .val (.ref w_s_Making_Purpose_SERVED), .val (.ref s73), .val (.ref b74), .val (.ref b87), .val inn, .unset, .unset, .unset, .unset]) (by rcases ref_cases hin with rfl | ⟨_, rfl⟩ <;> rfl) (pc' := 126) rfl ?_
            refine Jvm.Own.new G110 hx (hb hby at_126) (hw _ (List.mem_of_getElem? (i := 122) rfl)) (hw _ (List.mem_of_getElem? (i := 123) rfl)) (hw _ (List.mem_of_getElem? (i := 124) rfl)) (cells' := 19) rfl (by decide) (slots' := 160) rfl (by decide) (pc' := 129) rfl ?_
            intro T111 h111 b111 z111 G111 X111 E111 D111
            have ga_b111 : Z.heap.size ≤ b111 := ge_new G110.old z111
            have E113 := ((((E89.ext X87).keep K101).ext X102).keep K108)
            have ne112 : s73 ≠ b111 := ne_new (E113).lt z111
            have E115 := ((((E86.ext X87).keep K101).ext X102).keep K108)
            have ne114 : b74 ≠ b111 := ne_new (E115).lt z111
            have ne116 : b87 ≠ b111 := ne_new (E108).lt z111
            have E118 := (E102.keep K108)
            have ne117 : a102 ≠ b111 := ne_new (E118).lt z111
            have V120 := (V102.keep K108 (ninS (Ne.symm ne104.2) nin0))
            have ne119 : c102 ≠ b111 := ne_new (V120).lt z111
            have F121 : Fld Z h111 b111 "com/example/amphion/amphion/Making" "name" "Ljava/lang/String;" .null := D111 (Or.inr (hw _ (List.mem_of_getElem? (i := 135) rfl))) (ty := (.object "java/lang/String")) (by decide)
            have F122 : Fld Z h111 b111 "com/example/amphion/amphion/Making" "definition" "Lcom/example/amphion/amphion/BeanDefinition;" .null := D111 (Or.inr (hw _ (List.mem_of_getElem? (i := 137) rfl))) (ty := (.object "com/example/amphion/amphion/BeanDefinition")) (by decide)
            have F123 : Fld Z h111 b111 "com/example/amphion/amphion/Making" "kept" "Z" (.int (0 : Int32)) := D111 (Or.inr (hw _ (List.mem_of_getElem? (i := 139) rfl))) (ty := .boolean) (by decide)
            have F124 : Fld Z h111 b111 "com/example/amphion/amphion/Making" "purpose" "Lcom/example/amphion/amphion/Making$Purpose;" .null := D111 (Or.inr (hw _ (List.mem_of_getElem? (i := 141) rfl))) (ty := (.object "com/example/amphion/amphion/Making$Purpose")) (by decide)
            have F125 : Fld Z h111 b111 "com/example/amphion/amphion/Making" "inner" "Lcom/example/amphion/amphion/BeanDefinition;" .null := D111 (Or.inr (hw _ (List.mem_of_getElem? (i := 143) rfl))) (ty := (.object "com/example/amphion/amphion/BeanDefinition")) (by decide)
            refine Jvm.Own.dup G111.here hx (hb hby at_129) rfl (pc' := 130) rfl ?_
            refine Jvm.Own.aload G111.here hx (hb hby at_130) rfl rfl (pc' := 132) rfl ?_
            refine Jvm.Own.aload G111.here hx (hb hby at_132) rfl rfl (pc' := 134) rfl ?_
            refine Jvm.Own.iloadN G111.here hx (hb hby at_134) rfl (pc' := 135) rfl ?_
            refine Jvm.Own.aload G111.here hx (hb hby at_135) rfl rfl (pc' := 137) rfl ?_
            refine Jvm.Own.aload G111.here hx (hb hby at_137) rfl hin (pc' := 139) rfl ?_
            refine Jvm.Own.callI0 (y := (⟨"com/example/amphion/amphion/Making", "<init>", "(Ljava/lang/String;Lcom/example/amphion/amphion/BeanDefinition;ZLcom/example/amphion/amphion/Making$Purpose;Lcom/example/amphion/amphion/BeanDefinition;)V"⟩ : MethodName)) G111 hx (hb hby at_139) rfl (hw _ (List.mem_of_getElem? (i := 125) rfl)) (hw _ (List.mem_of_getElem? (i := 126) rfl)) (hw _ (List.mem_of_getElem? (i := 124) rfl)) (hw _ (List.mem_of_getElem? (i := 127) rfl)) (by decide) (rm_mk l Z a0 hw b111 s73 (.ref b74) kp w_s_Making_Purpose_SERVED inn h111 G111.old ga_b111 E111 F121 F122 F123 F124 F125 rfl hin (own_n01 hk) (own_f01 hk)) (by decide) (W := 1) (by decide) (by rw [hml]; rfl) (argsL := [(.ref s73), (.ref b74), (.int kp), (.ref w_s_Making_Purpose_SERVED), inn]) (lenOf pd_9 rfl) rfl (Nat.le_of_eq rfl) (cells' := 19) rfl (by decide) (slots' := 160) rfl (by decide) (pc' := 142) rfl ?_
            intro T126 h126 G126 Q126
            obtain ⟨K126, E126, Fp126, Fk126⟩ := Q126
            refine Jvm.Own.astore G126.here hx (hb hby at_142) rfl (Ls' := #[.val (.int p0), .val (.int p1), .val (.int (0 : Int32)), .val (.int kp), .val (.int hi), .val (.int (1 : Int32)), .val (.ref w_s_Making_Purpose_SERVED), .val (.ref s73), .val (.ref b74), .val (.ref b87), .val inn, .val (.ref b111), .unset, .unset, .unset]) rfl (pc' := 144) rfl ?_
            refine Jvm.Own.aload G126.here hx (hb hby at_144) rfl rfl (pc' := 146) rfl ?_
            refine Jvm.Own.callVP (y := (⟨"com/example/amphion/amphion/Making", "takesUnfinished", "()Z"⟩ : MethodName)) (z := (⟨"com/example/amphion/amphion/Making", "takesUnfinished", "()Z"⟩ : MethodName)) G126 hx (hb hby at_146) (nfOf (y := (⟨"com/example/amphion/amphion/Making", "takesUnfinished", "()Z"⟩ : MethodName)) (z := (⟨"com/example/amphion/amphion/Making", "takesUnfinished", "()Z"⟩ : MethodName)) rfl (hw _ (List.mem_of_getElem? (i := 147) rfl))) (hw _ (List.mem_of_getElem? (i := 144) rfl)) (hw _ (List.mem_of_getElem? (i := 145) rfl)) (hw _ (List.mem_of_getElem? (i := 147) rfl)) (hw _ (List.mem_of_getElem? (i := 146) rfl)) (hw _ (List.mem_of_getElem? (i := 124) rfl)) (hw _ (List.mem_of_getElem? (i := 148) rfl)) (by decide) E126 (rm_tu l Z a0 hw b111 w_s_Making_Purpose_SERVED w_s_Making_Purpose_SERVED w_s_Making_Purpose_TYPE_CHECK h126 G126.old Fp126 S_s_Making_Purpose_SERVED E_s_Making_Purpose_SERVED S_s_Making_Purpose_TYPE_CHECK E_s_Making_Purpose_TYPE_CHECK F_s_Making_Purpose_SERVED_ordinal F_s_Making_Purpose_TYPE_CHECK_ordinal) (by decide) (W := 0) (by decide) (by rw [hml]; rfl) (argsL := []) (lenOf pd_10 rfl) rfl (Nat.le_of_eq rfl) (cells' := 19) rfl (by decide) (slots' := 160) rfl (by decide) (pc' := 149) rfl ?_
            intro T127 r127 G127 Q127
            have hr127 : r127 = .int (own_tu w_s_Making_Purpose_SERVED w_s_Making_Purpose_TYPE_CHECK) := Q127
            rw [show own_tu w_s_Making_Purpose_SERVED w_s_Making_Purpose_TYPE_CHECK = (1 : Int32) from by simp [own_tu, hsv]] at hr127
            subst hr127
            refine Jvm.Own.istore G127.here hx (hb hby at_149) (Ls' := #[.val (.int p0), .val (.int p1), .val (.int (0 : Int32)), .val (.int kp), .val (.int hi), .val (.int (1 : Int32)), .val (.ref w_s_Making_Purpose_SERVED), .val (.ref s73), .val (.ref b74), .val (.ref b87), .val inn, .val (.ref b111), .val (.int (1 : Int32)), .unset, .unset]) rfl (pc' := 151) rfl ?_
            refine Jvm.Own.iload G127.here hx (hb hby at_151) rfl (pc' := 153) rfl ?_
            refine Jvm.Own.iloadN G127.here hx (hb hby at_153) rfl (pc' := 154) rfl ?_
            refine Jvm.Own.ifN G127.here hx (hb hby at_154) ((if0 _ _).trans (teq (by decide : (0 : Int32) = (0 : Int32))).2) (pc' := 157) rfl ?_
            refine Jvm.Own.iconst G127.here hx (hb hby at_157) (v := (1 : Int32)) rfl (pc' := 158) rfl ?_
            refine Jvm.Own.goto G127.here hx (hb hby at_158) (pc' := 162) (by decide) (by decide) ?_
            refine Jvm.Own.icmpY G127.here hx (hb hby at_162) (teq (by decide : (1 : Int32) = (1 : Int32))).1 (pc' := 167) (by decide) (by decide) ?_
            refine Jvm.Own.aload G127.here hx (hb hby at_167) rfl rfl (pc' := 169) rfl ?_
            refine Jvm.Own.aload G127.here hx (hb hby at_169) rfl rfl (pc' := 171) rfl ?_
            refine Jvm.Own.aload G127.here hx (hb hby at_171) rfl rfl (pc' := 173) rfl ?_
            refine Jvm.Own.aload G127.here hx (hb hby at_173) rfl rfl (pc' := 175) rfl ?_
            have E128 := ((E118.ext X111).keep K126)
            have F129 := (((Fc102.keep K108 (ninS (Ne.symm ne104.1) nin0)).ext X111).keep K126 (ninS ne117 nin0))
            have F130 := (((Fv102.keep K108 (ninS (Ne.symm ne104.1) nin0)).ext X111).keep K126 (ninS ne117 nin0))
            have V131 := ((V120.ext X111).keep K126 (ninS ne119 nin0))
            have E132 := ((E108.ext X111).keep K126)
            have F133 := ((F108.ext X111).keep K126 (ninS ne116 nin0))
            refine Jvm.Own.callV1 (y := (⟨"com/example/amphion/amphion/Making", "inner", "(Ljava/lang/String;Lcom/example/amphion/amphion/BeanDefinition;Lcom/example/amphion/amphion/BeanDefinition;)Lcom/example/amphion/amphion/Making;"⟩ : MethodName)) (z := (⟨"com/example/amphion/amphion/Making", "inner", "(Ljava/lang/String;Lcom/example/amphion/amphion/BeanDefinition;Lcom/example/amphion/amphion/BeanDefinition;)Lcom/example/amphion/amphion/Making;"⟩ : MethodName)) G127 hx (hb hby at_175) (nfOf (y := (⟨"com/example/amphion/amphion/Making", "inner", "(Ljava/lang/String;Lcom/example/amphion/amphion/BeanDefinition;Lcom/example/amphion/amphion/BeanDefinition;)Lcom/example/amphion/amphion/Making;"⟩ : MethodName)) (z := (⟨"com/example/amphion/amphion/Making", "takesUnfinished", "()Z"⟩ : MethodName)) rfl (hw _ (List.mem_of_getElem? (i := 147) rfl))) (hw _ (List.mem_of_getElem? (i := 151) rfl)) (hw _ (List.mem_of_getElem? (i := 152) rfl)) (hw _ (List.mem_of_getElem? (i := 154) rfl)) (hw _ (List.mem_of_getElem? (i := 153) rfl)) (hw _ (List.mem_of_getElem? (i := 124) rfl)) (hw _ (List.mem_of_getElem? (i := 155) rfl)) (by decide) E126 (rm_in1 l Z a0 hw b111 s73 b74 b87 w_s_Making_Purpose_SERVED kp a102 c102 k102 cs h126 G127.old Fk126 Fp126 E132 F133 E128 F129 F130 V131 S_cs ncs) (by decide) (W := 0) (by decide) (by rw [hml]; rfl) (argsL := [(.ref s73), (.ref b74), (.ref b87)]) (lenOf pd_13 rfl) rfl (Nat.le_of_eq rfl) (cells' := 22) rfl (by decide) (slots' := 205) rfl (by decide) (pc' := 178) rfl ?_
            intro T134 h134 r134 G134 Q134
            obtain ⟨x134, rfl, ge134, K134, E134, F134⟩ := Q134
            have ga_x134 : Z.heap.size ≤ x134 := Nat.le_trans G127.old.1 ge134
            have E136 := ((E113.ext X111).keep K126)
            have ne135 : s73 ≠ x134 := ne_ge (E136).lt ge134
            have E138 := ((E115.ext X111).keep K126)
            have ne137 : b74 ≠ x134 := ne_ge (E138).lt ge134
            have ne139 : b87 ≠ x134 := ne_ge (E132).lt ge134
            have ne140 : a102 ≠ x134 := ne_ge (E128).lt ge134
            have ne141 : c102 ≠ x134 := ne_ge (V131).lt ge134
            have ne142 : b111 ≠ x134 := ne_ge (E126).lt ge134
            refine Jvm.Own.astore G134.here hx (hb hby at_178) rfl (Ls' := #[.val (.int p0), .val (.int p1), .val (.int (0 : Int32)), .val (.int kp), .val (.int hi), .val (.int (1 : Int32)), .val (.ref w_s_Making_Purpose_SERVED), .val (.ref s73), .val (.ref b74), .val (.ref b87), .val inn, .val (.ref b111), .val (.int (1 : Int32)), .val (.ref x134), .unset]) rfl (pc' := 180) rfl ?_
            refine Jvm.Own.aload G134.here hx (hb hby at_180) rfl rfl (pc' := 182) rfl ?_
            refine Jvm.Own.callVP (y := (⟨"com/example/amphion/amphion/Making", "takesUnfinished", "()Z"⟩ : MethodName)) (z := (⟨"com/example/amphion/amphion/Making", "takesUnfinished", "()Z"⟩ : MethodName)) G134 hx (hb hby at_182) (nfOf (y := (⟨"com/example/amphion/amphion/Making", "takesUnfinished", "()Z"⟩ : MethodName)) (z := (⟨"com/example/amphion/amphion/Making", "takesUnfinished", "()Z"⟩ : MethodName)) rfl (hw _ (List.mem_of_getElem? (i := 147) rfl))) (hw _ (List.mem_of_getElem? (i := 144) rfl)) (hw _ (List.mem_of_getElem? (i := 145) rfl)) (hw _ (List.mem_of_getElem? (i := 147) rfl)) (hw _ (List.mem_of_getElem? (i := 146) rfl)) (hw _ (List.mem_of_getElem? (i := 124) rfl)) (hw _ (List.mem_of_getElem? (i := 148) rfl)) (by decide) E134 (rm_tu l Z a0 hw x134 w_s_Making_Purpose_SERVED w_s_Making_Purpose_SERVED w_s_Making_Purpose_TYPE_CHECK h134 G134.old F134 S_s_Making_Purpose_SERVED E_s_Making_Purpose_SERVED S_s_Making_Purpose_TYPE_CHECK E_s_Making_Purpose_TYPE_CHECK F_s_Making_Purpose_SERVED_ordinal F_s_Making_Purpose_TYPE_CHECK_ordinal) (by decide) (W := 0) (by decide) (by rw [hml]; rfl) (argsL := []) (lenOf pd_10 rfl) rfl (Nat.le_of_eq rfl) (cells' := 22) rfl (by decide) (slots' := 205) rfl (by decide) (pc' := 185) rfl ?_
            intro T143 r143 G143 Q143
            have hr143 : r143 = .int (own_tu w_s_Making_Purpose_SERVED w_s_Making_Purpose_TYPE_CHECK) := Q143
            rw [show own_tu w_s_Making_Purpose_SERVED w_s_Making_Purpose_TYPE_CHECK = (1 : Int32) from by simp [own_tu, hsv]] at hr143
            subst hr143
            refine Jvm.Own.iload G143.here hx (hb hby at_185) rfl (pc' := 187) rfl ?_
            refine Jvm.Own.icmpY G143.here hx (hb hby at_187) (teq (by decide : (1 : Int32) = (1 : Int32))).1 (pc' := 192) (by decide) (by decide) ?_
            refine Jvm.Own.iloadN G143.here hx (hb hby at_192) rfl (pc' := 193) rfl ?_
            refine Jvm.Own.ifY G143.here hx (hb hby at_193) ((if0 _ _).trans (teq (by decide : (0 : Int32) = (0 : Int32))).1) (pc' := 206) (by decide) (by decide) ?_
            refine Jvm.Own.aload G143.here hx (hb hby at_206) rfl rfl (pc' := 208) rfl ?_
            refine Jvm.Own.aload G143.here hx (hb hby at_208) rfl rfl (pc' := 210) rfl ?_
            have E144 := (E128.keep K134)
            have F145 := (F129.keep K134 nin0)
            have F146 := (F130.keep K134 nin0)
            have V147 := (V131.keep K134 nin0)
            have E148 := (E132.keep K134)
            have F149 := (F133.keep K134 nin0)
            refine Jvm.Own.callS1 (y := (⟨"com/example/amphion/amphion/Making", "of", "(Ljava/lang/String;Lcom/example/amphion/amphion/BeanDefinition;)Lcom/example/amphion/amphion/Making;"⟩ : MethodName)) G143 hx (hb hby at_210) (hw _ (List.mem_of_getElem? (i := 158) rfl)) (hw _ (List.mem_of_getElem? (i := 159) rfl)) (hw _ (List.mem_of_getElem? (i := 124) rfl)) (hw _ (List.mem_of_getElem? (i := 160) rfl)) (by decide) (rm_of1 l Z a0 hw s73 b87 w_s_Making_Purpose_SERVED w_s_Making_Purpose_TYPE_CHECK a102 c102 k102 cs h134 G143.old S_s_Making_Purpose_SERVED E_s_Making_Purpose_SERVED S_s_Making_Purpose_TYPE_CHECK E_s_Making_Purpose_TYPE_CHECK F_s_Making_Purpose_SERVED_ordinal F_s_Making_Purpose_TYPE_CHECK_ordinal E148 F149 E144 F145 F146 V147 S_cs ncs) (by decide) (W := 0) (by decide) (by rw [hml]; rfl) (argsL := [(.ref s73), (.ref b87)]) (lenOf pd_14 rfl) rfl (Nat.le_of_eq rfl) (cells' := 25) rfl (by decide) (slots' := 250) rfl (by decide) (pc' := 213) rfl ?_
            intro T150 h150 r150 G150 Q150
            obtain ⟨x150, rfl, ge150, K150, E150, F150⟩ := Q150
            have ga_x150 : Z.heap.size ≤ x150 := Nat.le_trans G143.old.1 ge150
            have E152 := (E136.keep K134)
            have ne151 : s73 ≠ x150 := ne_ge (E152).lt ge150
            have E154 := (E138.keep K134)
            have ne153 : b74 ≠ x150 := ne_ge (E154).lt ge150
            have ne155 : b87 ≠ x150 := ne_ge (E148).lt ge150
            have ne156 : a102 ≠ x150 := ne_ge (E144).lt ge150
            have ne157 : c102 ≠ x150 := ne_ge (V147).lt ge150
            have E159 := (E126.keep K134)
            have ne158 : b111 ≠ x150 := ne_ge (E159).lt ge150
            have ne160 : x134 ≠ x150 := ne_ge (E134).lt ge150
            refine Jvm.Own.astore G150.here hx (hb hby at_213) rfl (Ls' := #[.val (.int p0), .val (.int p1), .val (.int (0 : Int32)), .val (.int kp), .val (.int hi), .val (.int (1 : Int32)), .val (.ref w_s_Making_Purpose_SERVED), .val (.ref s73), .val (.ref b74), .val (.ref b87), .val inn, .val (.ref b111), .val (.int (1 : Int32)), .val (.ref x134), .val (.ref x150)]) rfl (pc' := 215) rfl ?_
            refine Jvm.Own.aload G150.here hx (hb hby at_215) rfl rfl (pc' := 217) rfl ?_
            refine Jvm.Own.callVP (y := (⟨"com/example/amphion/amphion/Making", "takesUnfinished", "()Z"⟩ : MethodName)) (z := (⟨"com/example/amphion/amphion/Making", "takesUnfinished", "()Z"⟩ : MethodName)) G150 hx (hb hby at_217) (nfOf (y := (⟨"com/example/amphion/amphion/Making", "takesUnfinished", "()Z"⟩ : MethodName)) (z := (⟨"com/example/amphion/amphion/Making", "takesUnfinished", "()Z"⟩ : MethodName)) rfl (hw _ (List.mem_of_getElem? (i := 147) rfl))) (hw _ (List.mem_of_getElem? (i := 144) rfl)) (hw _ (List.mem_of_getElem? (i := 145) rfl)) (hw _ (List.mem_of_getElem? (i := 147) rfl)) (hw _ (List.mem_of_getElem? (i := 146) rfl)) (hw _ (List.mem_of_getElem? (i := 124) rfl)) (hw _ (List.mem_of_getElem? (i := 148) rfl)) (by decide) E150 (rm_tu l Z a0 hw x150 w_s_Making_Purpose_SERVED w_s_Making_Purpose_SERVED w_s_Making_Purpose_TYPE_CHECK h150 G150.old F150 S_s_Making_Purpose_SERVED E_s_Making_Purpose_SERVED S_s_Making_Purpose_TYPE_CHECK E_s_Making_Purpose_TYPE_CHECK F_s_Making_Purpose_SERVED_ordinal F_s_Making_Purpose_TYPE_CHECK_ordinal) (by decide) (W := 0) (by decide) (by rw [hml]; rfl) (argsL := []) (lenOf pd_10 rfl) rfl (Nat.le_of_eq rfl) (cells' := 25) rfl (by decide) (slots' := 250) rfl (by decide) (pc' := 220) rfl ?_
            intro T161 r161 G161 Q161
            have hr161 : r161 = .int (own_tu w_s_Making_Purpose_SERVED w_s_Making_Purpose_TYPE_CHECK) := Q161
            rw [show own_tu w_s_Making_Purpose_SERVED w_s_Making_Purpose_TYPE_CHECK = (1 : Int32) from by simp [own_tu, hsv]] at hr161
            subst hr161
            refine Jvm.Own.iloadN G161.here hx (hb hby at_220) rfl (pc' := 221) rfl ?_
            refine Jvm.Own.ifN G161.here hx (hb hby at_221) ((if0 _ _).trans (teq (by decide : (0 : Int32) = (0 : Int32))).2) (pc' := 224) rfl ?_
            refine Jvm.Own.iconst G161.here hx (hb hby at_224) (v := (1 : Int32)) rfl (pc' := 225) rfl ?_
            refine Jvm.Own.goto G161.here hx (hb hby at_225) (pc' := 229) (by decide) (by decide) ?_
            refine Jvm.Own.icmpN G161.here hx (hb hby at_229) (teq (by decide : (1 : Int32) = (1 : Int32))).2 (pc' := 232) rfl ?_
            refine Jvm.Own.iconst G161.here hx (hb hby at_232) (v := (1 : Int32)) rfl (pc' := 233) rfl ?_
            refine Jvm.Own.goto G161.here hx (hb hby at_233) (pc' := 237) (by decide) (by decide) ?_
            exact Jvm.Own.retI G161 hx (hb hby at_237) hret hlk (by simp) rfl (by decide) (by decide) ⟨_, rfl, rfl⟩
          by_cases hb115 : hi = (0 : Int32)
          · skip
            refine Jvm.Own.ifY G108.here hx (hb hby at_115) ((if0 _ _).trans (teq hb115).1) (pc' := 123) (by decide) (by decide) ?_
            refine Jvm.Own.aconstNull G108.here hx (hb hby at_123) (pc' := 124) rfl ?_
            exact K109 T108 G108 .null rfl
          · skip
            refine Jvm.Own.ifN G108.here hx (hb hby at_115) ((if0 _ _).trans (feq hb115).1) (pc' := 118) rfl ?_
            refine Jvm.Own.aload G108.here hx (hb hby at_118) rfl rfl (pc' := 120) rfl ?_
            refine Jvm.Own.goto G108.here hx (hb hby at_120) (pc' := 124) (by decide) (by decide) ?_
            exact K109 T108 G108 (.ref b74) rfl
      by_cases hb27 : (p0 &&& (4 : Int32)) = (0 : Int32)
      · skip
        refine Jvm.Own.ifY G2.here hx (hb hby at_27) ((if0 _ _).trans (teq hb27).1) (pc' := 34) (by decide) (by decide) ?_
        refine Jvm.Own.iconst G2.here hx (hb hby at_34) (v := (0 : Int32)) rfl (pc' := 35) rfl ?_
        exact K3 T2 G2 (0 : Int32) (by decide)
      · skip
        refine Jvm.Own.ifN G2.here hx (hb hby at_27) ((if0 _ _).trans (feq hb27).1) (pc' := 30) rfl ?_
        refine Jvm.Own.iconst G2.here hx (hb hby at_30) (v := (1 : Int32)) rfl (pc' := 31) rfl ?_
        refine Jvm.Own.goto G2.here hx (hb hby at_31) (pc' := 35) (by decide) (by decide) ?_
        exact K3 T2 G2 (1 : Int32) (by decide)
    by_cases hb15 : (p0 &&& (2 : Int32)) = (0 : Int32)
    · skip
      refine Jvm.Own.ifY G0.here hx (hb hby at_15) ((if0 _ _).trans (teq hb15).1) (pc' := 22) (by decide) (by decide) ?_
      refine Jvm.Own.iconst G0.here hx (hb hby at_22) (v := (0 : Int32)) rfl (pc' := 23) rfl ?_
      exact K1 T0 G0 (0 : Int32) (by decide)
    · skip
      refine Jvm.Own.ifN G0.here hx (hb hby at_15) ((if0 _ _).trans (feq hb15).1) (pc' := 18) rfl ?_
      refine Jvm.Own.iconst G0.here hx (hb hby at_18) (v := (1 : Int32)) rfl (pc' := 19) rfl ?_
      refine Jvm.Own.goto G0.here hx (hb hby at_19) (pc' := 23) (by decide) (by decide) ?_
      exact K1 T0 G0 (1 : Int32) (by decide)
  · skip
    refine Jvm.Own.ifN G0.here hx (hb hby at_3) ((if0 _ _).trans (feq hc3).1) (pc' := 6) rfl ?_
    refine Jvm.Own.iconst G0.here hx (hb hby at_6) (v := (1 : Int32)) rfl (pc' := 7) rfl ?_
    refine Jvm.Own.goto G0.here hx (hb hby at_7) (pc' := 11) (by decide) (by decide) ?_
    refine Jvm.Own.istoreN G0.here hx (hb hby at_11) (Ls' := #[.val (.int p0), .val (.int p1), .val (.int (1 : Int32)), .unset, .unset, .unset, .unset, .unset, .unset, .unset, .unset, .unset, .unset, .unset, .unset]) rfl (pc' := 12) rfl ?_
    refine Jvm.Own.iloadN G0.here hx (hb hby at_12) rfl (pc' := 13) rfl ?_
    refine Jvm.Own.iconst G0.here hx (hb hby at_13) (v := (2 : Int32)) rfl (pc' := 14) rfl ?_
    refine Jvm.Own.iand G0.here hx (hb hby at_14) (pc' := 15) rfl ?_
    have K162 : ∀ (T163 : State), Go true own_EL [] p l e room_1 s m #[(.int p0), (.int p1)] below meth ck Z "com/example/amphion/amphion/MakingTakesUnfinishedPinLaw" T163 h0 0 0 → ∀ (kp : Int32), (kp = 0 ∨ kp = 1) → Fz true own_EL p e room_1 s below Z (fun v h' => ∃ w, v = some w ∧ q0 w h') (T163.setTop (mkF m 23 #[.val (.int p0), .val (.int p1), .val (.int (1 : Int32)), .unset, .unset, .unset, .unset, .unset, .unset, .unset, .unset, .unset, .unset, .unset, .unset] [(.int kp)])) := by
      intro T163 G163 kp hk
      refine Jvm.Own.istoreN G163.here hx (hb hby at_23) (Ls' := #[.val (.int p0), .val (.int p1), .val (.int (1 : Int32)), .val (.int kp), .unset, .unset, .unset, .unset, .unset, .unset, .unset, .unset, .unset, .unset, .unset]) rfl (pc' := 24) rfl ?_
      refine Jvm.Own.iloadN G163.here hx (hb hby at_24) rfl (pc' := 25) rfl ?_
      refine Jvm.Own.iconst G163.here hx (hb hby at_25) (v := (4 : Int32)) rfl (pc' := 26) rfl ?_
      refine Jvm.Own.iand G163.here hx (hb hby at_26) (pc' := 27) rfl ?_
      have K164 : ∀ (T165 : State), Go true own_EL [] p l e room_1 s m #[(.int p0), (.int p1)] below meth ck Z "com/example/amphion/amphion/MakingTakesUnfinishedPinLaw" T165 h0 0 0 → ∀ (hi : Int32), (hi = 0 ∨ hi = 1) → Fz true own_EL p e room_1 s below Z (fun v h' => ∃ w, v = some w ∧ q0 w h') (T165.setTop (mkF m 35 #[.val (.int p0), .val (.int p1), .val (.int (1 : Int32)), .val (.int kp), .unset, .unset, .unset, .unset, .unset, .unset, .unset, .unset, .unset, .unset, .unset] [(.int hi)])) := by
        intro T165 G165 hi hh
        refine Jvm.Own.istore G165.here hx (hb hby at_35) (Ls' := #[.val (.int p0), .val (.int p1), .val (.int (1 : Int32)), .val (.int kp), .val (.int hi), .unset, .unset, .unset, .unset, .unset, .unset, .unset, .unset, .unset, .unset]) rfl (pc' := 37) rfl ?_
        refine Jvm.Own.iloadN G165.here hx (hb hby at_37) rfl (pc' := 38) rfl ?_
        refine Jvm.Own.bipush G165.here hx (hb hby at_38) (v := (8 : Int32)) rfl (pc' := 40) rfl ?_
        refine Jvm.Own.iand G165.here hx (hb hby at_40) (pc' := 41) rfl ?_
        by_cases hc41 : (p0 &&& (8 : Int32)) = (0 : Int32)
        · skip
          refine Jvm.Own.ifY G165.here hx (hb hby at_41) ((if0 _ _).trans (teq hc41).1) (pc' := 48) (by decide) (by decide) ?_
          refine Jvm.Own.iconst G165.here hx (hb hby at_48) (v := (0 : Int32)) rfl (pc' := 49) rfl ?_
          refine Jvm.Own.istore G165.here hx (hb hby at_49) (Ls' := #[.val (.int p0), .val (.int p1), .val (.int (1 : Int32)), .val (.int kp), .val (.int hi), .val (.int (0 : Int32)), .unset, .unset, .unset, .unset, .unset, .unset, .unset, .unset, .unset]) rfl (pc' := 51) rfl ?_
          refine Jvm.Own.iloadN G165.here hx (hb hby at_51) rfl (pc' := 52) rfl ?_
          refine Jvm.Own.ifN G165.here hx (hb hby at_52) ((if0 _ _).trans (feq (by decide : ¬ (1 : Int32) = (0 : Int32))).1) (pc' := 55) rfl ?_
          refine Jvm.Own.getstatic G165 hx (hb hby at_55) (host := "") (Or.inl (hw _ (List.mem_of_getElem? (i := 190) rfl))) Via.refl S_s_Making_Purpose_TYPE_CHECK (pc' := 58) rfl ?_
          intro T166 G166
          refine Jvm.Own.goto G166.here hx (hb hby at_58) (pc' := 64) (by decide) (by decide) ?_
          refine Jvm.Own.astore G166.here hx (hb hby at_64) rfl (Ls' := #[.val (.int p0), .val (.int p1), .val (.int (1 : Int32)), .val (.int kp), .val (.int hi), .val (.int (0 : Int32)), .val (.ref w_s_Making_Purpose_TYPE_CHECK), .unset, .unset, .unset, .unset, .unset, .unset, .unset, .unset]) rfl (pc' := 66) rfl ?_
          refine Jvm.Own.iloadN G166.here hx (hb hby at_66) rfl (pc' := 67) rfl ?_
          refine Jvm.Own.sipush G166.here hx (hb hby at_67) (v := (255 : Int32)) rfl (pc' := 70) rfl ?_
          refine Jvm.Own.iand G166.here hx (hb hby at_70) (pc' := 71) rfl ?_
          refine Jvm.Own.i2c G166.here hx (hb hby at_71) (pc' := 72) rfl ?_
          refine Jvm.Own.callS1 (y := (⟨"java/lang/String", "valueOf", "(C)Ljava/lang/String;"⟩ : MethodName)) G166 hx (hb hby at_72) (hw _ (List.mem_of_getElem? (i := 3) rfl)) (hw _ (List.mem_of_getElem? (i := 4) rfl)) (hw _ (List.mem_of_getElem? (i := 5) rfl)) (hw _ (List.mem_of_getElem? (i := 6) rfl)) (by decide) (rm_vo l Z a0 hw (p1 &&& (255 : Int32)).toUInt32.toUInt16.toUInt32.toInt32 cs h0 G166.old (own_ch8 _) S_cs ncs) (by decide) (W := 0) (by decide) (by rw [hml]; rfl) (argsL := [(.int (p1 &&& (255 : Int32)).toUInt32.toUInt16.toUInt32.toInt32)]) (lenOf pd_11 rfl) rfl (Nat.le_of_eq rfl) (cells' := 2) rfl (by decide) (slots' := 5) rfl (by decide) (pc' := 75) rfl ?_
          intro T167 h167 r167 G167 Q167
          obtain ⟨s167, rfl, ge167, K167, E167⟩ := Q167
          have ga_s167 : Z.heap.size ≤ s167 := Nat.le_trans G166.old.1 ge167
          refine Jvm.Own.astore G167.here hx (hb hby at_75) rfl (Ls' := #[.val (.int p0), .val (.int p1), .val (.int (1 : Int32)), .val (.int kp), .val (.int hi), .val (.int (0 : Int32)), .val (.ref w_s_Making_Purpose_TYPE_CHECK), .val (.ref s167), .unset, .unset, .unset, .unset, .unset, .unset, .unset]) rfl (pc' := 77) rfl ?_
          refine Jvm.Own.new G167 hx (hb hby at_77) (hw _ (List.mem_of_getElem? (i := 29) rfl)) (hw _ (List.mem_of_getElem? (i := 30) rfl)) (hw _ (List.mem_of_getElem? (i := 31) rfl)) (cells' := 3) rfl (by decide) (slots' := 28) rfl (by decide) (pc' := 80) rfl ?_
          intro T168 h168 b168 z168 G168 X168 E168 D168
          have ga_b168 : Z.heap.size ≤ b168 := ge_new G167.old z168
          have ne169 : s167 ≠ b168 := ne_new (E167).lt z168
          have F170 : Fld Z h168 b168 "com/example/amphion/amphion/BeanDefinition" "propertyValues" "Lcom/example/amphion/amphion/MutablePropertyValues;" .null := D168 (Or.inr (hw _ (List.mem_of_getElem? (i := 72) rfl))) (ty := (.object "com/example/amphion/amphion/MutablePropertyValues")) (by decide)
          have F171 : Fld Z h168 b168 "com/example/amphion/amphion/BeanDefinition" "constructorArguments" "Ljava/util/List;" .null := D168 (Or.inr (hw _ (List.mem_of_getElem? (i := 98) rfl))) (ty := (.object "java/util/List")) (by decide)
          have F172 : Fld Z h168 b168 "com/example/amphion/amphion/BeanDefinition" "qualifiers" "Ljava/util/List;" .null := D168 (Or.inr (hw _ (List.mem_of_getElem? (i := 100) rfl))) (ty := (.object "java/util/List")) (by decide)
          have F173 : Fld Z h168 b168 "com/example/amphion/amphion/BeanDefinition" "dependsOn" "Ljava/util/List;" .null := D168 (Or.inl (hw _ (List.mem_of_getElem? (i := 108) rfl))) (ty := (.object "java/util/List")) (by decide)
          have F174 : Fld Z h168 b168 "com/example/amphion/amphion/BeanDefinition" "autowireMode" "Ljava/lang/String;" .null := D168 (Or.inl (hw _ (List.mem_of_getElem? (i := 113) rfl))) (ty := (.object "java/lang/String")) (by decide)
          have F175 : Fld Z h168 b168 "com/example/amphion/amphion/BeanDefinition" "autowireCandidate" "Z" (.int (0 : Int32)) := D168 (Or.inl (hw _ (List.mem_of_getElem? (i := 115) rfl))) (ty := .boolean) (by decide)
          have F176 : Fld Z h168 b168 "com/example/amphion/amphion/BeanDefinition" "beanClassName" "Ljava/lang/String;" .null := D168 (Or.inl (hw _ (List.mem_of_getElem? (i := 117) rfl))) (ty := (.object "java/lang/String")) (by decide)
          have F177 : Fld Z h168 b168 "com/example/amphion/amphion/BeanDefinition" "resource" "Ljava/lang/String;" .null := D168 (Or.inr (hw _ (List.mem_of_getElem? (i := 119) rfl))) (ty := (.object "java/lang/String")) (by decide)
          have F178 : Fld Z h168 b168 "com/example/amphion/amphion/BeanDefinition" "lineNumber" "I" (.int (0 : Int32)) := D168 (Or.inr (hw _ (List.mem_of_getElem? (i := 121) rfl))) (ty := .int) (by decide)
          have F179 : Fld Z h168 b168 "com/example/amphion/amphion/BeanDefinition" "scope" "Ljava/lang/String;" .null := D168 (Or.inl (hw _ (List.mem_of_getElem? (i := 172) rfl))) (ty := (.object "java/lang/String")) (by decide)
          refine Jvm.Own.dup G168.here hx (hb hby at_80) rfl (pc' := 81) rfl ?_
          refine Jvm.Own.aconstNull G168.here hx (hb hby at_81) (pc' := 82) rfl ?_
          refine Jvm.Own.aconstNull G168.here hx (hb hby at_82) (pc' := 83) rfl ?_
          refine Jvm.Own.iconst G168.here hx (hb hby at_83) (v := (-1 : Int32)) rfl (pc' := 84) rfl ?_
          refine Jvm.Own.callI0 (y := (⟨"com/example/amphion/amphion/BeanDefinition", "<init>", "(Ljava/lang/String;Ljava/lang/String;I)V"⟩ : MethodName)) G168 hx (hb hby at_84) rfl (hw _ (List.mem_of_getElem? (i := 32) rfl)) (hw _ (List.mem_of_getElem? (i := 33) rfl)) (hw _ (List.mem_of_getElem? (i := 31) rfl)) (hw _ (List.mem_of_getElem? (i := 34) rfl)) (by decide) (rm_bd l Z a0 hw b168 w_dc w_el h168 G168.old ga_b168 E168 F170 F171 F172 F173 F174 F175 F176 F177 F178 F179 S_dc S_el) (by decide) (W := 1) (by decide) (by rw [hml]; rfl) (argsL := [.null, .null, (.int (-1 : Int32))]) (lenOf pd_12 rfl) rfl (Nat.le_of_eq rfl) (cells' := 9) rfl (by decide) (slots' := 60) rfl (by decide) (pc' := 87) rfl ?_
          intro T180 h180 G180 Q180
          obtain ⟨K180, E180, Fscope180⟩ := Q180
          refine Jvm.Own.astore G180.here hx (hb hby at_87) rfl (Ls' := #[.val (.int p0), .val (.int p1), .val (.int (1 : Int32)), .val (.int kp), .val (.int hi), .val (.int (0 : Int32)), .val (.ref w_s_Making_Purpose_TYPE_CHECK), .val (.ref s167), .val (.ref b168), .unset, .unset, .unset, .unset, .unset, .unset]) rfl (pc' := 89) rfl ?_
          refine Jvm.Own.new G180 hx (hb hby at_89) (hw _ (List.mem_of_getElem? (i := 29) rfl)) (hw _ (List.mem_of_getElem? (i := 30) rfl)) (hw _ (List.mem_of_getElem? (i := 31) rfl)) (cells' := 10) rfl (by decide) (slots' := 83) rfl (by decide) (pc' := 92) rfl ?_
          intro T181 h181 b181 z181 G181 X181 E181 D181
          have ga_b181 : Z.heap.size ≤ b181 := ge_new G180.old z181
          have E183 := ((E167.ext X168).keep K180)
          have ne182 : s167 ≠ b181 := ne_new (E183).lt z181
          have ne184 : b168 ≠ b181 := ne_new (E180).lt z181
          have F185 : Fld Z h181 b181 "com/example/amphion/amphion/BeanDefinition" "propertyValues" "Lcom/example/amphion/amphion/MutablePropertyValues;" .null := D181 (Or.inr (hw _ (List.mem_of_getElem? (i := 72) rfl))) (ty := (.object "com/example/amphion/amphion/MutablePropertyValues")) (by decide)
          have F186 : Fld Z h181 b181 "com/example/amphion/amphion/BeanDefinition" "constructorArguments" "Ljava/util/List;" .null := D181 (Or.inr (hw _ (List.mem_of_getElem? (i := 98) rfl))) (ty := (.object "java/util/List")) (by decide)
          have F187 : Fld Z h181 b181 "com/example/amphion/amphion/BeanDefinition" "qualifiers" "Ljava/util/List;" .null := D181 (Or.inr (hw _ (List.mem_of_getElem? (i := 100) rfl))) (ty := (.object "java/util/List")) (by decide)
          have F188 : Fld Z h181 b181 "com/example/amphion/amphion/BeanDefinition" "dependsOn" "Ljava/util/List;" .null := D181 (Or.inl (hw _ (List.mem_of_getElem? (i := 108) rfl))) (ty := (.object "java/util/List")) (by decide)
          have F189 : Fld Z h181 b181 "com/example/amphion/amphion/BeanDefinition" "autowireMode" "Ljava/lang/String;" .null := D181 (Or.inl (hw _ (List.mem_of_getElem? (i := 113) rfl))) (ty := (.object "java/lang/String")) (by decide)
          have F190 : Fld Z h181 b181 "com/example/amphion/amphion/BeanDefinition" "autowireCandidate" "Z" (.int (0 : Int32)) := D181 (Or.inl (hw _ (List.mem_of_getElem? (i := 115) rfl))) (ty := .boolean) (by decide)
          have F191 : Fld Z h181 b181 "com/example/amphion/amphion/BeanDefinition" "beanClassName" "Ljava/lang/String;" .null := D181 (Or.inl (hw _ (List.mem_of_getElem? (i := 117) rfl))) (ty := (.object "java/lang/String")) (by decide)
          have F192 : Fld Z h181 b181 "com/example/amphion/amphion/BeanDefinition" "resource" "Ljava/lang/String;" .null := D181 (Or.inr (hw _ (List.mem_of_getElem? (i := 119) rfl))) (ty := (.object "java/lang/String")) (by decide)
          have F193 : Fld Z h181 b181 "com/example/amphion/amphion/BeanDefinition" "lineNumber" "I" (.int (0 : Int32)) := D181 (Or.inr (hw _ (List.mem_of_getElem? (i := 121) rfl))) (ty := .int) (by decide)
          have F194 : Fld Z h181 b181 "com/example/amphion/amphion/BeanDefinition" "scope" "Ljava/lang/String;" .null := D181 (Or.inl (hw _ (List.mem_of_getElem? (i := 172) rfl))) (ty := (.object "java/lang/String")) (by decide)
          refine Jvm.Own.dup G181.here hx (hb hby at_92) rfl (pc' := 93) rfl ?_
          refine Jvm.Own.aconstNull G181.here hx (hb hby at_93) (pc' := 94) rfl ?_
          refine Jvm.Own.aconstNull G181.here hx (hb hby at_94) (pc' := 95) rfl ?_
          refine Jvm.Own.iconst G181.here hx (hb hby at_95) (v := (-1 : Int32)) rfl (pc' := 96) rfl ?_
          refine Jvm.Own.callI0 (y := (⟨"com/example/amphion/amphion/BeanDefinition", "<init>", "(Ljava/lang/String;Ljava/lang/String;I)V"⟩ : MethodName)) G181 hx (hb hby at_96) rfl (hw _ (List.mem_of_getElem? (i := 32) rfl)) (hw _ (List.mem_of_getElem? (i := 33) rfl)) (hw _ (List.mem_of_getElem? (i := 31) rfl)) (hw _ (List.mem_of_getElem? (i := 34) rfl)) (by decide) (rm_bd l Z a0 hw b181 w_dc w_el h181 G181.old ga_b181 E181 F185 F186 F187 F188 F189 F190 F191 F192 F193 F194 S_dc S_el) (by decide) (W := 1) (by decide) (by rw [hml]; rfl) (argsL := [.null, .null, (.int (-1 : Int32))]) (lenOf pd_12 rfl) rfl (Nat.le_of_eq rfl) (cells' := 16) rfl (by decide) (slots' := 115) rfl (by decide) (pc' := 99) rfl ?_
          intro T195 h195 G195 Q195
          obtain ⟨K195, E195, Fscope195⟩ := Q195
          refine Jvm.Own.astore G195.here hx (hb hby at_99) rfl (Ls' := #[.val (.int p0), .val (.int p1), .val (.int (1 : Int32)), .val (.int kp), .val (.int hi), .val (.int (0 : Int32)), .val (.ref w_s_Making_Purpose_TYPE_CHECK), .val (.ref s167), .val (.ref b168), .val (.ref b181), .unset, .unset, .unset, .unset, .unset]) rfl (pc' := 101) rfl ?_
          refine Jvm.Own.iload G195.here hx (hb hby at_101) rfl (pc' := 103) rfl ?_
          refine Jvm.Own.ifY G195.here hx (hb hby at_103) ((if0 _ _).trans (teq (by decide : (0 : Int32) = (0 : Int32))).1) (pc' := 113) (by decide) (by decide) ?_
          refine Jvm.Own.iload G195.here hx (hb hby at_113) rfl (pc' := 115) rfl ?_
          have K196 : ∀ (T197 : State), Go true own_EL [b181, b168] p l e room_1 s m #[(.int p0), (.int p1)] below meth ck Z "com/example/amphion/amphion/MakingTakesUnfinishedPinLaw" T197 h195 16 115 → ∀ (inn : Value), (inn.isRef = true) → Fz true own_EL p e room_1 s below Z (fun v h' => ∃ w, v = some w ∧ q0 w h') (T197.setTop (mkF m 124 #[.val (.int p0), .val (.int p1), .val (.int (1 : Int32)), .val (.int kp), .val (.int hi), .val (.int (0 : Int32)), .val (.ref w_s_Making_Purpose_TYPE_CHECK), .val (.ref s167), .val (.ref b168), .val (.ref b181), .unset, .unset, .unset, .unset, .unset] [inn])) := by
            intro T197 G197 inn hin
            refine Jvm.Own.astore G197.here hx (hb hby at_124) hin (Ls' := #[.val (.int p0), .val (.int p1), .val (.int (1 : Int32)), .val (.int kp), .val (.int hi), .val (.int (0 : Int32)), .val (.ref w_s_Making_Purpose_TYPE_CHECK), .val (.ref s167), .val (.ref b168), .val (.ref b181), .val inn, .unset, .unset, .unset, .unset]) (by rcases ref_cases hin with rfl | ⟨_, rfl⟩ <;> rfl) (pc' := 126) rfl ?_
            refine Jvm.Own.new G197 hx (hb hby at_126) (hw _ (List.mem_of_getElem? (i := 122) rfl)) (hw _ (List.mem_of_getElem? (i := 123) rfl)) (hw _ (List.mem_of_getElem? (i := 124) rfl)) (cells' := 17) rfl (by decide) (slots' := 120) rfl (by decide) (pc' := 129) rfl ?_
            intro T198 h198 b198 z198 G198 X198 E198 D198
            have ga_b198 : Z.heap.size ≤ b198 := ge_new G197.old z198
            have E200 := ((E183.ext X181).keep K195)
            have ne199 : s167 ≠ b198 := ne_new (E200).lt z198
            have E202 := ((E180.ext X181).keep K195)
            have ne201 : b168 ≠ b198 := ne_new (E202).lt z198
            have ne203 : b181 ≠ b198 := ne_new (E195).lt z198
            have F204 : Fld Z h198 b198 "com/example/amphion/amphion/Making" "name" "Ljava/lang/String;" .null := D198 (Or.inr (hw _ (List.mem_of_getElem? (i := 135) rfl))) (ty := (.object "java/lang/String")) (by decide)
            have F205 : Fld Z h198 b198 "com/example/amphion/amphion/Making" "definition" "Lcom/example/amphion/amphion/BeanDefinition;" .null := D198 (Or.inr (hw _ (List.mem_of_getElem? (i := 137) rfl))) (ty := (.object "com/example/amphion/amphion/BeanDefinition")) (by decide)
            have F206 : Fld Z h198 b198 "com/example/amphion/amphion/Making" "kept" "Z" (.int (0 : Int32)) := D198 (Or.inr (hw _ (List.mem_of_getElem? (i := 139) rfl))) (ty := .boolean) (by decide)
            have F207 : Fld Z h198 b198 "com/example/amphion/amphion/Making" "purpose" "Lcom/example/amphion/amphion/Making$Purpose;" .null := D198 (Or.inr (hw _ (List.mem_of_getElem? (i := 141) rfl))) (ty := (.object "com/example/amphion/amphion/Making$Purpose")) (by decide)
            have F208 : Fld Z h198 b198 "com/example/amphion/amphion/Making" "inner" "Lcom/example/amphion/amphion/BeanDefinition;" .null := D198 (Or.inr (hw _ (List.mem_of_getElem? (i := 143) rfl))) (ty := (.object "com/example/amphion/amphion/BeanDefinition")) (by decide)
            refine Jvm.Own.dup G198.here hx (hb hby at_129) rfl (pc' := 130) rfl ?_
            refine Jvm.Own.aload G198.here hx (hb hby at_130) rfl rfl (pc' := 132) rfl ?_
            refine Jvm.Own.aload G198.here hx (hb hby at_132) rfl rfl (pc' := 134) rfl ?_
            refine Jvm.Own.iloadN G198.here hx (hb hby at_134) rfl (pc' := 135) rfl ?_
            refine Jvm.Own.aload G198.here hx (hb hby at_135) rfl rfl (pc' := 137) rfl ?_
            refine Jvm.Own.aload G198.here hx (hb hby at_137) rfl hin (pc' := 139) rfl ?_
            refine Jvm.Own.callI0 (y := (⟨"com/example/amphion/amphion/Making", "<init>", "(Ljava/lang/String;Lcom/example/amphion/amphion/BeanDefinition;ZLcom/example/amphion/amphion/Making$Purpose;Lcom/example/amphion/amphion/BeanDefinition;)V"⟩ : MethodName)) G198 hx (hb hby at_139) rfl (hw _ (List.mem_of_getElem? (i := 125) rfl)) (hw _ (List.mem_of_getElem? (i := 126) rfl)) (hw _ (List.mem_of_getElem? (i := 124) rfl)) (hw _ (List.mem_of_getElem? (i := 127) rfl)) (by decide) (rm_mk l Z a0 hw b198 s167 (.ref b168) kp w_s_Making_Purpose_TYPE_CHECK inn h198 G198.old ga_b198 E198 F204 F205 F206 F207 F208 rfl hin (own_n01 hk) (own_f01 hk)) (by decide) (W := 1) (by decide) (by rw [hml]; rfl) (argsL := [(.ref s167), (.ref b168), (.int kp), (.ref w_s_Making_Purpose_TYPE_CHECK), inn]) (lenOf pd_9 rfl) rfl (Nat.le_of_eq rfl) (cells' := 17) rfl (by decide) (slots' := 120) rfl (by decide) (pc' := 142) rfl ?_
            intro T209 h209 G209 Q209
            obtain ⟨K209, E209, Fp209, Fk209⟩ := Q209
            refine Jvm.Own.astore G209.here hx (hb hby at_142) rfl (Ls' := #[.val (.int p0), .val (.int p1), .val (.int (1 : Int32)), .val (.int kp), .val (.int hi), .val (.int (0 : Int32)), .val (.ref w_s_Making_Purpose_TYPE_CHECK), .val (.ref s167), .val (.ref b168), .val (.ref b181), .val inn, .val (.ref b198), .unset, .unset, .unset]) rfl (pc' := 144) rfl ?_
            refine Jvm.Own.aload G209.here hx (hb hby at_144) rfl rfl (pc' := 146) rfl ?_
            refine Jvm.Own.callVP (y := (⟨"com/example/amphion/amphion/Making", "takesUnfinished", "()Z"⟩ : MethodName)) (z := (⟨"com/example/amphion/amphion/Making", "takesUnfinished", "()Z"⟩ : MethodName)) G209 hx (hb hby at_146) (nfOf (y := (⟨"com/example/amphion/amphion/Making", "takesUnfinished", "()Z"⟩ : MethodName)) (z := (⟨"com/example/amphion/amphion/Making", "takesUnfinished", "()Z"⟩ : MethodName)) rfl (hw _ (List.mem_of_getElem? (i := 147) rfl))) (hw _ (List.mem_of_getElem? (i := 144) rfl)) (hw _ (List.mem_of_getElem? (i := 145) rfl)) (hw _ (List.mem_of_getElem? (i := 147) rfl)) (hw _ (List.mem_of_getElem? (i := 146) rfl)) (hw _ (List.mem_of_getElem? (i := 124) rfl)) (hw _ (List.mem_of_getElem? (i := 148) rfl)) (by decide) E209 (rm_tu l Z a0 hw b198 w_s_Making_Purpose_TYPE_CHECK w_s_Making_Purpose_SERVED w_s_Making_Purpose_TYPE_CHECK h209 G209.old Fp209 S_s_Making_Purpose_SERVED E_s_Making_Purpose_SERVED S_s_Making_Purpose_TYPE_CHECK E_s_Making_Purpose_TYPE_CHECK F_s_Making_Purpose_SERVED_ordinal F_s_Making_Purpose_TYPE_CHECK_ordinal) (by decide) (W := 0) (by decide) (by rw [hml]; rfl) (argsL := []) (lenOf pd_10 rfl) rfl (Nat.le_of_eq rfl) (cells' := 17) rfl (by decide) (slots' := 120) rfl (by decide) (pc' := 149) rfl ?_
            intro T210 r210 G210 Q210
            have hr210 : r210 = .int (own_tu w_s_Making_Purpose_TYPE_CHECK w_s_Making_Purpose_TYPE_CHECK) := Q210
            rw [show own_tu w_s_Making_Purpose_TYPE_CHECK w_s_Making_Purpose_TYPE_CHECK = (0 : Int32) from by simp [own_tu]] at hr210
            subst hr210
            refine Jvm.Own.istore G210.here hx (hb hby at_149) (Ls' := #[.val (.int p0), .val (.int p1), .val (.int (1 : Int32)), .val (.int kp), .val (.int hi), .val (.int (0 : Int32)), .val (.ref w_s_Making_Purpose_TYPE_CHECK), .val (.ref s167), .val (.ref b168), .val (.ref b181), .val inn, .val (.ref b198), .val (.int (0 : Int32)), .unset, .unset]) rfl (pc' := 151) rfl ?_
            refine Jvm.Own.iload G210.here hx (hb hby at_151) rfl (pc' := 153) rfl ?_
            refine Jvm.Own.iloadN G210.here hx (hb hby at_153) rfl (pc' := 154) rfl ?_
            refine Jvm.Own.ifY G210.here hx (hb hby at_154) ((if0 _ _).trans (feq (by decide : ¬ (1 : Int32) = (0 : Int32))).2) (pc' := 161) (by decide) (by decide) ?_
            refine Jvm.Own.iconst G210.here hx (hb hby at_161) (v := (0 : Int32)) rfl (pc' := 162) rfl ?_
            refine Jvm.Own.icmpY G210.here hx (hb hby at_162) (teq (by decide : (0 : Int32) = (0 : Int32))).1 (pc' := 167) (by decide) (by decide) ?_
            refine Jvm.Own.aload G210.here hx (hb hby at_167) rfl rfl (pc' := 169) rfl ?_
            refine Jvm.Own.aload G210.here hx (hb hby at_169) rfl rfl (pc' := 171) rfl ?_
            refine Jvm.Own.aload G210.here hx (hb hby at_171) rfl rfl (pc' := 173) rfl ?_
            refine Jvm.Own.aload G210.here hx (hb hby at_173) rfl rfl (pc' := 175) rfl ?_
            have E211 := ((E195.ext X198).keep K209)
            have F212 := ((Fscope195.ext X198).keep K209 (ninS ne203 nin0))
            refine Jvm.Own.callV1 (y := (⟨"com/example/amphion/amphion/Making", "inner", "(Ljava/lang/String;Lcom/example/amphion/amphion/BeanDefinition;Lcom/example/amphion/amphion/BeanDefinition;)Lcom/example/amphion/amphion/Making;"⟩ : MethodName)) (z := (⟨"com/example/amphion/amphion/Making", "inner", "(Ljava/lang/String;Lcom/example/amphion/amphion/BeanDefinition;Lcom/example/amphion/amphion/BeanDefinition;)Lcom/example/amphion/amphion/Making;"⟩ : MethodName)) G210 hx (hb hby at_175) (nfOf (y := (⟨"com/example/amphion/amphion/Making", "inner", "(Ljava/lang/String;Lcom/example/amphion/amphion/BeanDefinition;Lcom/example/amphion/amphion/BeanDefinition;)Lcom/example/amphion/amphion/Making;"⟩ : MethodName)) (z := (⟨"com/example/amphion/amphion/Making", "takesUnfinished", "()Z"⟩ : MethodName)) rfl (hw _ (List.mem_of_getElem? (i := 147) rfl))) (hw _ (List.mem_of_getElem? (i := 151) rfl)) (hw _ (List.mem_of_getElem? (i := 152) rfl)) (hw _ (List.mem_of_getElem? (i := 154) rfl)) (hw _ (List.mem_of_getElem? (i := 153) rfl)) (hw _ (List.mem_of_getElem? (i := 124) rfl)) (hw _ (List.mem_of_getElem? (i := 155) rfl)) (by decide) E209 (rm_in0 l Z a0 hw b198 s167 b168 b181 w_s_Making_Purpose_TYPE_CHECK kp  cs h209 G210.old Fk209 Fp209 E211 F212 S_cs ncs) (by decide) (W := 0) (by decide) (by rw [hml]; rfl) (argsL := [(.ref s167), (.ref b168), (.ref b181)]) (lenOf pd_13 rfl) rfl (Nat.le_of_eq rfl) (cells' := 22) rfl (by decide) (slots' := 205) rfl (by decide) (pc' := 178) rfl ?_
            intro T213 h213 r213 G213 Q213
            obtain ⟨x213, rfl, ge213, K213, E213, F213⟩ := Q213
            have ga_x213 : Z.heap.size ≤ x213 := Nat.le_trans G210.old.1 ge213
            have E215 := ((E200.ext X198).keep K209)
            have ne214 : s167 ≠ x213 := ne_ge (E215).lt ge213
            have E217 := ((E202.ext X198).keep K209)
            have ne216 : b168 ≠ x213 := ne_ge (E217).lt ge213
            have ne218 : b181 ≠ x213 := ne_ge (E211).lt ge213
            have ne219 : b198 ≠ x213 := ne_ge (E209).lt ge213
            refine Jvm.Own.astore G213.here hx (hb hby at_178) rfl (Ls' := #[.val (.int p0), .val (.int p1), .val (.int (1 : Int32)), .val (.int kp), .val (.int hi), .val (.int (0 : Int32)), .val (.ref w_s_Making_Purpose_TYPE_CHECK), .val (.ref s167), .val (.ref b168), .val (.ref b181), .val inn, .val (.ref b198), .val (.int (0 : Int32)), .val (.ref x213), .unset]) rfl (pc' := 180) rfl ?_
            refine Jvm.Own.aload G213.here hx (hb hby at_180) rfl rfl (pc' := 182) rfl ?_
            refine Jvm.Own.callVP (y := (⟨"com/example/amphion/amphion/Making", "takesUnfinished", "()Z"⟩ : MethodName)) (z := (⟨"com/example/amphion/amphion/Making", "takesUnfinished", "()Z"⟩ : MethodName)) G213 hx (hb hby at_182) (nfOf (y := (⟨"com/example/amphion/amphion/Making", "takesUnfinished", "()Z"⟩ : MethodName)) (z := (⟨"com/example/amphion/amphion/Making", "takesUnfinished", "()Z"⟩ : MethodName)) rfl (hw _ (List.mem_of_getElem? (i := 147) rfl))) (hw _ (List.mem_of_getElem? (i := 144) rfl)) (hw _ (List.mem_of_getElem? (i := 145) rfl)) (hw _ (List.mem_of_getElem? (i := 147) rfl)) (hw _ (List.mem_of_getElem? (i := 146) rfl)) (hw _ (List.mem_of_getElem? (i := 124) rfl)) (hw _ (List.mem_of_getElem? (i := 148) rfl)) (by decide) E213 (rm_tu l Z a0 hw x213 w_s_Making_Purpose_TYPE_CHECK w_s_Making_Purpose_SERVED w_s_Making_Purpose_TYPE_CHECK h213 G213.old F213 S_s_Making_Purpose_SERVED E_s_Making_Purpose_SERVED S_s_Making_Purpose_TYPE_CHECK E_s_Making_Purpose_TYPE_CHECK F_s_Making_Purpose_SERVED_ordinal F_s_Making_Purpose_TYPE_CHECK_ordinal) (by decide) (W := 0) (by decide) (by rw [hml]; rfl) (argsL := []) (lenOf pd_10 rfl) rfl (Nat.le_of_eq rfl) (cells' := 22) rfl (by decide) (slots' := 205) rfl (by decide) (pc' := 185) rfl ?_
            intro T220 r220 G220 Q220
            have hr220 : r220 = .int (own_tu w_s_Making_Purpose_TYPE_CHECK w_s_Making_Purpose_TYPE_CHECK) := Q220
            rw [show own_tu w_s_Making_Purpose_TYPE_CHECK w_s_Making_Purpose_TYPE_CHECK = (0 : Int32) from by simp [own_tu]] at hr220
            subst hr220
            refine Jvm.Own.iload G220.here hx (hb hby at_185) rfl (pc' := 187) rfl ?_
            refine Jvm.Own.icmpY G220.here hx (hb hby at_187) (teq (by decide : (0 : Int32) = (0 : Int32))).1 (pc' := 192) (by decide) (by decide) ?_
            refine Jvm.Own.iloadN G220.here hx (hb hby at_192) rfl (pc' := 193) rfl ?_
            refine Jvm.Own.ifN G220.here hx (hb hby at_193) ((if0 _ _).trans (feq (by decide : ¬ (1 : Int32) = (0 : Int32))).1) (pc' := 196) rfl ?_
            refine Jvm.Own.aload G220.here hx (hb hby at_196) rfl rfl (pc' := 198) rfl ?_
            refine Jvm.Own.aload G220.here hx (hb hby at_198) rfl rfl (pc' := 200) rfl ?_
            have E221 := (E211.keep K213)
            have F222 := (F212.keep K213 nin0)
            refine Jvm.Own.callS1 (y := (⟨"com/example/amphion/amphion/Making", "forTypeCheck", "(Ljava/lang/String;Lcom/example/amphion/amphion/BeanDefinition;)Lcom/example/amphion/amphion/Making;"⟩ : MethodName)) G220 hx (hb hby at_200) (hw _ (List.mem_of_getElem? (i := 191) rfl)) (hw _ (List.mem_of_getElem? (i := 192) rfl)) (hw _ (List.mem_of_getElem? (i := 124) rfl)) (hw _ (List.mem_of_getElem? (i := 193) rfl)) (by decide) (rm_tc0 l Z a0 hw s167 b181 w_s_Making_Purpose_SERVED w_s_Making_Purpose_TYPE_CHECK  cs h213 G220.old S_s_Making_Purpose_SERVED E_s_Making_Purpose_SERVED S_s_Making_Purpose_TYPE_CHECK E_s_Making_Purpose_TYPE_CHECK F_s_Making_Purpose_SERVED_ordinal F_s_Making_Purpose_TYPE_CHECK_ordinal E221 F222 S_cs ncs) (by decide) (W := 0) (by decide) (by rw [hml]; rfl) (argsL := [(.ref s167), (.ref b181)]) (lenOf pd_14 rfl) rfl (Nat.le_of_eq rfl) (cells' := 27) rfl (by decide) (slots' := 290) rfl (by decide) (pc' := 203) rfl ?_
            intro T223 h223 r223 G223 Q223
            obtain ⟨x223, rfl, ge223, K223, E223, F223⟩ := Q223
            have ga_x223 : Z.heap.size ≤ x223 := Nat.le_trans G220.old.1 ge223
            have E225 := (E215.keep K213)
            have ne224 : s167 ≠ x223 := ne_ge (E225).lt ge223
            have E227 := (E217.keep K213)
            have ne226 : b168 ≠ x223 := ne_ge (E227).lt ge223
            have ne228 : b181 ≠ x223 := ne_ge (E221).lt ge223
            have E230 := (E209.keep K213)
            have ne229 : b198 ≠ x223 := ne_ge (E230).lt ge223
            have ne231 : x213 ≠ x223 := ne_ge (E213).lt ge223
            refine Jvm.Own.goto G223.here hx (hb hby at_203) (pc' := 213) (by decide) (by decide) ?_
            refine Jvm.Own.astore G223.here hx (hb hby at_213) rfl (Ls' := #[.val (.int p0), .val (.int p1), .val (.int (1 : Int32)), .val (.int kp), .val (.int hi), .val (.int (0 : Int32)), .val (.ref w_s_Making_Purpose_TYPE_CHECK), .val (.ref s167), .val (.ref b168), .val (.ref b181), .val inn, .val (.ref b198), .val (.int (0 : Int32)), .val (.ref x213), .val (.ref x223)]) rfl (pc' := 215) rfl ?_
            refine Jvm.Own.aload G223.here hx (hb hby at_215) rfl rfl (pc' := 217) rfl ?_
            refine Jvm.Own.callVP (y := (⟨"com/example/amphion/amphion/Making", "takesUnfinished", "()Z"⟩ : MethodName)) (z := (⟨"com/example/amphion/amphion/Making", "takesUnfinished", "()Z"⟩ : MethodName)) G223 hx (hb hby at_217) (nfOf (y := (⟨"com/example/amphion/amphion/Making", "takesUnfinished", "()Z"⟩ : MethodName)) (z := (⟨"com/example/amphion/amphion/Making", "takesUnfinished", "()Z"⟩ : MethodName)) rfl (hw _ (List.mem_of_getElem? (i := 147) rfl))) (hw _ (List.mem_of_getElem? (i := 144) rfl)) (hw _ (List.mem_of_getElem? (i := 145) rfl)) (hw _ (List.mem_of_getElem? (i := 147) rfl)) (hw _ (List.mem_of_getElem? (i := 146) rfl)) (hw _ (List.mem_of_getElem? (i := 124) rfl)) (hw _ (List.mem_of_getElem? (i := 148) rfl)) (by decide) E223 (rm_tu l Z a0 hw x223 w_s_Making_Purpose_TYPE_CHECK w_s_Making_Purpose_SERVED w_s_Making_Purpose_TYPE_CHECK h223 G223.old F223 S_s_Making_Purpose_SERVED E_s_Making_Purpose_SERVED S_s_Making_Purpose_TYPE_CHECK E_s_Making_Purpose_TYPE_CHECK F_s_Making_Purpose_SERVED_ordinal F_s_Making_Purpose_TYPE_CHECK_ordinal) (by decide) (W := 0) (by decide) (by rw [hml]; rfl) (argsL := []) (lenOf pd_10 rfl) rfl (Nat.le_of_eq rfl) (cells' := 27) rfl (by decide) (slots' := 290) rfl (by decide) (pc' := 220) rfl ?_
            intro T232 r232 G232 Q232
            have hr232 : r232 = .int (own_tu w_s_Making_Purpose_TYPE_CHECK w_s_Making_Purpose_TYPE_CHECK) := Q232
            rw [show own_tu w_s_Making_Purpose_TYPE_CHECK w_s_Making_Purpose_TYPE_CHECK = (0 : Int32) from by simp [own_tu]] at hr232
            subst hr232
            refine Jvm.Own.iloadN G232.here hx (hb hby at_220) rfl (pc' := 221) rfl ?_
            refine Jvm.Own.ifY G232.here hx (hb hby at_221) ((if0 _ _).trans (feq (by decide : ¬ (1 : Int32) = (0 : Int32))).2) (pc' := 228) (by decide) (by decide) ?_
            refine Jvm.Own.iconst G232.here hx (hb hby at_228) (v := (0 : Int32)) rfl (pc' := 229) rfl ?_
            refine Jvm.Own.icmpN G232.here hx (hb hby at_229) (teq (by decide : (0 : Int32) = (0 : Int32))).2 (pc' := 232) rfl ?_
            refine Jvm.Own.iconst G232.here hx (hb hby at_232) (v := (1 : Int32)) rfl (pc' := 233) rfl ?_
            refine Jvm.Own.goto G232.here hx (hb hby at_233) (pc' := 237) (by decide) (by decide) ?_
            exact Jvm.Own.retI G232 hx (hb hby at_237) hret hlk (by simp) rfl (by decide) (by decide) ⟨_, rfl, rfl⟩
          by_cases hb115 : hi = (0 : Int32)
          · skip
            refine Jvm.Own.ifY G195.here hx (hb hby at_115) ((if0 _ _).trans (teq hb115).1) (pc' := 123) (by decide) (by decide) ?_
            refine Jvm.Own.aconstNull G195.here hx (hb hby at_123) (pc' := 124) rfl ?_
            exact K196 T195 G195 .null rfl
          · skip
            refine Jvm.Own.ifN G195.here hx (hb hby at_115) ((if0 _ _).trans (feq hb115).1) (pc' := 118) rfl ?_
            refine Jvm.Own.aload G195.here hx (hb hby at_118) rfl rfl (pc' := 120) rfl ?_
            refine Jvm.Own.goto G195.here hx (hb hby at_120) (pc' := 124) (by decide) (by decide) ?_
            exact K196 T195 G195 (.ref b168) rfl
        · skip
          refine Jvm.Own.ifN G165.here hx (hb hby at_41) ((if0 _ _).trans (feq hc41).1) (pc' := 44) rfl ?_
          refine Jvm.Own.iconst G165.here hx (hb hby at_44) (v := (1 : Int32)) rfl (pc' := 45) rfl ?_
          refine Jvm.Own.goto G165.here hx (hb hby at_45) (pc' := 49) (by decide) (by decide) ?_
          refine Jvm.Own.istore G165.here hx (hb hby at_49) (Ls' := #[.val (.int p0), .val (.int p1), .val (.int (1 : Int32)), .val (.int kp), .val (.int hi), .val (.int (1 : Int32)), .unset, .unset, .unset, .unset, .unset, .unset, .unset, .unset, .unset]) rfl (pc' := 51) rfl ?_
          refine Jvm.Own.iloadN G165.here hx (hb hby at_51) rfl (pc' := 52) rfl ?_
          refine Jvm.Own.ifN G165.here hx (hb hby at_52) ((if0 _ _).trans (feq (by decide : ¬ (1 : Int32) = (0 : Int32))).1) (pc' := 55) rfl ?_
          refine Jvm.Own.getstatic G165 hx (hb hby at_55) (host := "") (Or.inl (hw _ (List.mem_of_getElem? (i := 190) rfl))) Via.refl S_s_Making_Purpose_TYPE_CHECK (pc' := 58) rfl ?_
          intro T233 G233
          refine Jvm.Own.goto G233.here hx (hb hby at_58) (pc' := 64) (by decide) (by decide) ?_
          refine Jvm.Own.astore G233.here hx (hb hby at_64) rfl (Ls' := #[.val (.int p0), .val (.int p1), .val (.int (1 : Int32)), .val (.int kp), .val (.int hi), .val (.int (1 : Int32)), .val (.ref w_s_Making_Purpose_TYPE_CHECK), .unset, .unset, .unset, .unset, .unset, .unset, .unset, .unset]) rfl (pc' := 66) rfl ?_
          refine Jvm.Own.iloadN G233.here hx (hb hby at_66) rfl (pc' := 67) rfl ?_
          refine Jvm.Own.sipush G233.here hx (hb hby at_67) (v := (255 : Int32)) rfl (pc' := 70) rfl ?_
          refine Jvm.Own.iand G233.here hx (hb hby at_70) (pc' := 71) rfl ?_
          refine Jvm.Own.i2c G233.here hx (hb hby at_71) (pc' := 72) rfl ?_
          refine Jvm.Own.callS1 (y := (⟨"java/lang/String", "valueOf", "(C)Ljava/lang/String;"⟩ : MethodName)) G233 hx (hb hby at_72) (hw _ (List.mem_of_getElem? (i := 3) rfl)) (hw _ (List.mem_of_getElem? (i := 4) rfl)) (hw _ (List.mem_of_getElem? (i := 5) rfl)) (hw _ (List.mem_of_getElem? (i := 6) rfl)) (by decide) (rm_vo l Z a0 hw (p1 &&& (255 : Int32)).toUInt32.toUInt16.toUInt32.toInt32 cs h0 G233.old (own_ch8 _) S_cs ncs) (by decide) (W := 0) (by decide) (by rw [hml]; rfl) (argsL := [(.int (p1 &&& (255 : Int32)).toUInt32.toUInt16.toUInt32.toInt32)]) (lenOf pd_11 rfl) rfl (Nat.le_of_eq rfl) (cells' := 2) rfl (by decide) (slots' := 5) rfl (by decide) (pc' := 75) rfl ?_
          intro T234 h234 r234 G234 Q234
          obtain ⟨s234, rfl, ge234, K234, E234⟩ := Q234
          have ga_s234 : Z.heap.size ≤ s234 := Nat.le_trans G233.old.1 ge234
          refine Jvm.Own.astore G234.here hx (hb hby at_75) rfl (Ls' := #[.val (.int p0), .val (.int p1), .val (.int (1 : Int32)), .val (.int kp), .val (.int hi), .val (.int (1 : Int32)), .val (.ref w_s_Making_Purpose_TYPE_CHECK), .val (.ref s234), .unset, .unset, .unset, .unset, .unset, .unset, .unset]) rfl (pc' := 77) rfl ?_
          refine Jvm.Own.new G234 hx (hb hby at_77) (hw _ (List.mem_of_getElem? (i := 29) rfl)) (hw _ (List.mem_of_getElem? (i := 30) rfl)) (hw _ (List.mem_of_getElem? (i := 31) rfl)) (cells' := 3) rfl (by decide) (slots' := 28) rfl (by decide) (pc' := 80) rfl ?_
          intro T235 h235 b235 z235 G235 X235 E235 D235
          have ga_b235 : Z.heap.size ≤ b235 := ge_new G234.old z235
          have ne236 : s234 ≠ b235 := ne_new (E234).lt z235
          have F237 : Fld Z h235 b235 "com/example/amphion/amphion/BeanDefinition" "propertyValues" "Lcom/example/amphion/amphion/MutablePropertyValues;" .null := D235 (Or.inr (hw _ (List.mem_of_getElem? (i := 72) rfl))) (ty := (.object "com/example/amphion/amphion/MutablePropertyValues")) (by decide)
          have F238 : Fld Z h235 b235 "com/example/amphion/amphion/BeanDefinition" "constructorArguments" "Ljava/util/List;" .null := D235 (Or.inr (hw _ (List.mem_of_getElem? (i := 98) rfl))) (ty := (.object "java/util/List")) (by decide)
          have F239 : Fld Z h235 b235 "com/example/amphion/amphion/BeanDefinition" "qualifiers" "Ljava/util/List;" .null := D235 (Or.inr (hw _ (List.mem_of_getElem? (i := 100) rfl))) (ty := (.object "java/util/List")) (by decide)
          have F240 : Fld Z h235 b235 "com/example/amphion/amphion/BeanDefinition" "dependsOn" "Ljava/util/List;" .null := D235 (Or.inl (hw _ (List.mem_of_getElem? (i := 108) rfl))) (ty := (.object "java/util/List")) (by decide)
          have F241 : Fld Z h235 b235 "com/example/amphion/amphion/BeanDefinition" "autowireMode" "Ljava/lang/String;" .null := D235 (Or.inl (hw _ (List.mem_of_getElem? (i := 113) rfl))) (ty := (.object "java/lang/String")) (by decide)
          have F242 : Fld Z h235 b235 "com/example/amphion/amphion/BeanDefinition" "autowireCandidate" "Z" (.int (0 : Int32)) := D235 (Or.inl (hw _ (List.mem_of_getElem? (i := 115) rfl))) (ty := .boolean) (by decide)
          have F243 : Fld Z h235 b235 "com/example/amphion/amphion/BeanDefinition" "beanClassName" "Ljava/lang/String;" .null := D235 (Or.inl (hw _ (List.mem_of_getElem? (i := 117) rfl))) (ty := (.object "java/lang/String")) (by decide)
          have F244 : Fld Z h235 b235 "com/example/amphion/amphion/BeanDefinition" "resource" "Ljava/lang/String;" .null := D235 (Or.inr (hw _ (List.mem_of_getElem? (i := 119) rfl))) (ty := (.object "java/lang/String")) (by decide)
          have F245 : Fld Z h235 b235 "com/example/amphion/amphion/BeanDefinition" "lineNumber" "I" (.int (0 : Int32)) := D235 (Or.inr (hw _ (List.mem_of_getElem? (i := 121) rfl))) (ty := .int) (by decide)
          have F246 : Fld Z h235 b235 "com/example/amphion/amphion/BeanDefinition" "scope" "Ljava/lang/String;" .null := D235 (Or.inl (hw _ (List.mem_of_getElem? (i := 172) rfl))) (ty := (.object "java/lang/String")) (by decide)
          refine Jvm.Own.dup G235.here hx (hb hby at_80) rfl (pc' := 81) rfl ?_
          refine Jvm.Own.aconstNull G235.here hx (hb hby at_81) (pc' := 82) rfl ?_
          refine Jvm.Own.aconstNull G235.here hx (hb hby at_82) (pc' := 83) rfl ?_
          refine Jvm.Own.iconst G235.here hx (hb hby at_83) (v := (-1 : Int32)) rfl (pc' := 84) rfl ?_
          refine Jvm.Own.callI0 (y := (⟨"com/example/amphion/amphion/BeanDefinition", "<init>", "(Ljava/lang/String;Ljava/lang/String;I)V"⟩ : MethodName)) G235 hx (hb hby at_84) rfl (hw _ (List.mem_of_getElem? (i := 32) rfl)) (hw _ (List.mem_of_getElem? (i := 33) rfl)) (hw _ (List.mem_of_getElem? (i := 31) rfl)) (hw _ (List.mem_of_getElem? (i := 34) rfl)) (by decide) (rm_bd l Z a0 hw b235 w_dc w_el h235 G235.old ga_b235 E235 F237 F238 F239 F240 F241 F242 F243 F244 F245 F246 S_dc S_el) (by decide) (W := 1) (by decide) (by rw [hml]; rfl) (argsL := [.null, .null, (.int (-1 : Int32))]) (lenOf pd_12 rfl) rfl (Nat.le_of_eq rfl) (cells' := 9) rfl (by decide) (slots' := 60) rfl (by decide) (pc' := 87) rfl ?_
          intro T247 h247 G247 Q247
          obtain ⟨K247, E247, Fscope247⟩ := Q247
          refine Jvm.Own.astore G247.here hx (hb hby at_87) rfl (Ls' := #[.val (.int p0), .val (.int p1), .val (.int (1 : Int32)), .val (.int kp), .val (.int hi), .val (.int (1 : Int32)), .val (.ref w_s_Making_Purpose_TYPE_CHECK), .val (.ref s234), .val (.ref b235), .unset, .unset, .unset, .unset, .unset, .unset]) rfl (pc' := 89) rfl ?_
          refine Jvm.Own.new G247 hx (hb hby at_89) (hw _ (List.mem_of_getElem? (i := 29) rfl)) (hw _ (List.mem_of_getElem? (i := 30) rfl)) (hw _ (List.mem_of_getElem? (i := 31) rfl)) (cells' := 10) rfl (by decide) (slots' := 83) rfl (by decide) (pc' := 92) rfl ?_
          intro T248 h248 b248 z248 G248 X248 E248 D248
          have ga_b248 : Z.heap.size ≤ b248 := ge_new G247.old z248
          have E250 := ((E234.ext X235).keep K247)
          have ne249 : s234 ≠ b248 := ne_new (E250).lt z248
          have ne251 : b235 ≠ b248 := ne_new (E247).lt z248
          have F252 : Fld Z h248 b248 "com/example/amphion/amphion/BeanDefinition" "propertyValues" "Lcom/example/amphion/amphion/MutablePropertyValues;" .null := D248 (Or.inr (hw _ (List.mem_of_getElem? (i := 72) rfl))) (ty := (.object "com/example/amphion/amphion/MutablePropertyValues")) (by decide)
          have F253 : Fld Z h248 b248 "com/example/amphion/amphion/BeanDefinition" "constructorArguments" "Ljava/util/List;" .null := D248 (Or.inr (hw _ (List.mem_of_getElem? (i := 98) rfl))) (ty := (.object "java/util/List")) (by decide)
          have F254 : Fld Z h248 b248 "com/example/amphion/amphion/BeanDefinition" "qualifiers" "Ljava/util/List;" .null := D248 (Or.inr (hw _ (List.mem_of_getElem? (i := 100) rfl))) (ty := (.object "java/util/List")) (by decide)
          have F255 : Fld Z h248 b248 "com/example/amphion/amphion/BeanDefinition" "dependsOn" "Ljava/util/List;" .null := D248 (Or.inl (hw _ (List.mem_of_getElem? (i := 108) rfl))) (ty := (.object "java/util/List")) (by decide)
          have F256 : Fld Z h248 b248 "com/example/amphion/amphion/BeanDefinition" "autowireMode" "Ljava/lang/String;" .null := D248 (Or.inl (hw _ (List.mem_of_getElem? (i := 113) rfl))) (ty := (.object "java/lang/String")) (by decide)
          have F257 : Fld Z h248 b248 "com/example/amphion/amphion/BeanDefinition" "autowireCandidate" "Z" (.int (0 : Int32)) := D248 (Or.inl (hw _ (List.mem_of_getElem? (i := 115) rfl))) (ty := .boolean) (by decide)
          have F258 : Fld Z h248 b248 "com/example/amphion/amphion/BeanDefinition" "beanClassName" "Ljava/lang/String;" .null := D248 (Or.inl (hw _ (List.mem_of_getElem? (i := 117) rfl))) (ty := (.object "java/lang/String")) (by decide)
          have F259 : Fld Z h248 b248 "com/example/amphion/amphion/BeanDefinition" "resource" "Ljava/lang/String;" .null := D248 (Or.inr (hw _ (List.mem_of_getElem? (i := 119) rfl))) (ty := (.object "java/lang/String")) (by decide)
          have F260 : Fld Z h248 b248 "com/example/amphion/amphion/BeanDefinition" "lineNumber" "I" (.int (0 : Int32)) := D248 (Or.inr (hw _ (List.mem_of_getElem? (i := 121) rfl))) (ty := .int) (by decide)
          have F261 : Fld Z h248 b248 "com/example/amphion/amphion/BeanDefinition" "scope" "Ljava/lang/String;" .null := D248 (Or.inl (hw _ (List.mem_of_getElem? (i := 172) rfl))) (ty := (.object "java/lang/String")) (by decide)
          refine Jvm.Own.dup G248.here hx (hb hby at_92) rfl (pc' := 93) rfl ?_
          refine Jvm.Own.aconstNull G248.here hx (hb hby at_93) (pc' := 94) rfl ?_
          refine Jvm.Own.aconstNull G248.here hx (hb hby at_94) (pc' := 95) rfl ?_
          refine Jvm.Own.iconst G248.here hx (hb hby at_95) (v := (-1 : Int32)) rfl (pc' := 96) rfl ?_
          refine Jvm.Own.callI0 (y := (⟨"com/example/amphion/amphion/BeanDefinition", "<init>", "(Ljava/lang/String;Ljava/lang/String;I)V"⟩ : MethodName)) G248 hx (hb hby at_96) rfl (hw _ (List.mem_of_getElem? (i := 32) rfl)) (hw _ (List.mem_of_getElem? (i := 33) rfl)) (hw _ (List.mem_of_getElem? (i := 31) rfl)) (hw _ (List.mem_of_getElem? (i := 34) rfl)) (by decide) (rm_bd l Z a0 hw b248 w_dc w_el h248 G248.old ga_b248 E248 F252 F253 F254 F255 F256 F257 F258 F259 F260 F261 S_dc S_el) (by decide) (W := 1) (by decide) (by rw [hml]; rfl) (argsL := [.null, .null, (.int (-1 : Int32))]) (lenOf pd_12 rfl) rfl (Nat.le_of_eq rfl) (cells' := 16) rfl (by decide) (slots' := 115) rfl (by decide) (pc' := 99) rfl ?_
          intro T262 h262 G262 Q262
          obtain ⟨K262, E262, Fscope262⟩ := Q262
          refine Jvm.Own.astore G262.here hx (hb hby at_99) rfl (Ls' := #[.val (.int p0), .val (.int p1), .val (.int (1 : Int32)), .val (.int kp), .val (.int hi), .val (.int (1 : Int32)), .val (.ref w_s_Making_Purpose_TYPE_CHECK), .val (.ref s234), .val (.ref b235), .val (.ref b248), .unset, .unset, .unset, .unset, .unset]) rfl (pc' := 101) rfl ?_
          refine Jvm.Own.iload G262.here hx (hb hby at_101) rfl (pc' := 103) rfl ?_
          refine Jvm.Own.ifN G262.here hx (hb hby at_103) ((if0 _ _).trans (feq (by decide : ¬ (1 : Int32) = (0 : Int32))).1) (pc' := 106) rfl ?_
          refine Jvm.Own.aload G262.here hx (hb hby at_106) rfl rfl (pc' := 108) rfl ?_
          refine Jvm.Own.ldcH (n := 36) (vs := [(.int (112 : Int32)), (.int (114 : Int32)), (.int (111 : Int32)), (.int (116 : Int32)), (.int (111 : Int32)), (.int (116 : Int32)), (.int (121 : Int32)), (.int (112 : Int32)), (.int (101 : Int32))]) (z := (9 : Int32)) G262 hx (hb hby at_108) (hw _ (List.mem_of_getElem? (i := 184) rfl)) (own_wS hw) (List.mem_of_getElem? (i := 2) rfl) ⟨by decide, by rfl⟩ (by decide) (by decide) (by decide) (by decide) (cells' := 18) rfl (by decide) (slots' := 155) rfl (by decide) (pc' := 110) rfl ?_
          intro T263 h263 a263 c263 k263 G263 X263 E263 Fc263 Fv263 V263 N263
          have ne265 := N263 b248 (List.mem_of_getElem? (i := 0) rfl)
          have ne266 := N263 b235 (List.mem_of_getElem? (i := 1) rfl)
          have E267 := (E262.ext X263)
          have F268 := (Fscope262.ext X263)
          refine Jvm.Own.callV0 (y := (⟨"com/example/amphion/amphion/BeanDefinition", "setScope", "(Ljava/lang/String;)V"⟩ : MethodName)) (z := (⟨"com/example/amphion/amphion/BeanDefinition", "setScope", "(Ljava/lang/String;)V"⟩ : MethodName)) G263 hx (hb hby at_110) (nfOf (y := (⟨"com/example/amphion/amphion/BeanDefinition", "setScope", "(Ljava/lang/String;)V"⟩ : MethodName)) (z := (⟨"com/example/amphion/amphion/BeanDefinition", "isPrototype", "()Z"⟩ : MethodName)) rfl (hw _ (List.mem_of_getElem? (i := 164) rfl))) (hw _ (List.mem_of_getElem? (i := 185) rfl)) (hw _ (List.mem_of_getElem? (i := 186) rfl)) (hw _ (List.mem_of_getElem? (i := 188) rfl)) (hw _ (List.mem_of_getElem? (i := 187) rfl)) (hw _ (List.mem_of_getElem? (i := 31) rfl)) (hw _ (List.mem_of_getElem? (i := 189) rfl)) (by decide) E267 (rm_ss l Z a0 hw b248 a263 h263 G263.old ga_b248 E267 F268) (by decide) (W := 0) (by decide) (by rw [hml]; rfl) (argsL := [(.ref a263)]) (lenOf pd_15 rfl) rfl (Nat.le_of_eq rfl) (cells' := 18) rfl (by decide) (slots' := 155) rfl (by decide) (pc' := 113) rfl ?_
          intro T269 h269 G269 Q269
          obtain ⟨K269, E269, F269⟩ := Q269
          refine Jvm.Own.iload G269.here hx (hb hby at_113) rfl (pc' := 115) rfl ?_
          have K270 : ∀ (T271 : State), Go true own_EL [b248, b235] p l e room_1 s m #[(.int p0), (.int p1)] below meth ck Z "com/example/amphion/amphion/MakingTakesUnfinishedPinLaw" T271 h269 18 155 → ∀ (inn : Value), (inn.isRef = true) → Fz true own_EL p e room_1 s below Z (fun v h' => ∃ w, v = some w ∧ q0 w h') (T271.setTop (mkF m 124 #[.val (.int p0), .val (.int p1), .val (.int (1 : Int32)), .val (.int kp), .val (.int hi), .val (.int (1 : Int32)), .val (.ref w_s_Making_Purpose_TYPE_CHECK), .val (.ref s234), .val (.ref b235), .val (.ref b248), .unset, .unset, .unset, .unset, .unset] [inn])) := by
            intro T271 G271 inn hin
            refine Jvm.Own.astore G271.here hx (hb hby at_124) hin (Ls' := #[.val (.int p0), .val (.int p1), .val (.int (1 : Int32)), .val (.int kp), .val (.int hi), .val (.int (1 : Int32)), .val (.ref w_s_Making_Purpose_TYPE_CHECK), .val (.ref s234), .val (.ref b235), .val (.ref b248), .val inn, .unset, .unset, .unset, .unset]) (by rcases ref_cases hin with rfl | ⟨_, rfl⟩ <;> rfl) (pc' := 126) rfl ?_
            refine Jvm.Own.new G271 hx (hb hby at_126) (hw _ (List.mem_of_getElem? (i := 122) rfl)) (hw _ (List.mem_of_getElem? (i := 123) rfl)) (hw _ (List.mem_of_getElem? (i := 124) rfl)) (cells' := 19) rfl (by decide) (slots' := 160) rfl (by decide) (pc' := 129) rfl ?_
            intro T272 h272 b272 z272 G272 X272 E272 D272
            have ga_b272 : Z.heap.size ≤ b272 := ge_new G271.old z272
            have E274 := ((((E250.ext X248).keep K262).ext X263).keep K269)
            have ne273 : s234 ≠ b272 := ne_new (E274).lt z272
            have E276 := ((((E247.ext X248).keep K262).ext X263).keep K269)
            have ne275 : b235 ≠ b272 := ne_new (E276).lt z272
            have ne277 : b248 ≠ b272 := ne_new (E269).lt z272
            have E279 := (E263.keep K269)
            have ne278 : a263 ≠ b272 := ne_new (E279).lt z272
            have V281 := (V263.keep K269 (ninS (Ne.symm ne265.2) nin0))
            have ne280 : c263 ≠ b272 := ne_new (V281).lt z272
            have F282 : Fld Z h272 b272 "com/example/amphion/amphion/Making" "name" "Ljava/lang/String;" .null := D272 (Or.inr (hw _ (List.mem_of_getElem? (i := 135) rfl))) (ty := (.object "java/lang/String")) (by decide)
            have F283 : Fld Z h272 b272 "com/example/amphion/amphion/Making" "definition" "Lcom/example/amphion/amphion/BeanDefinition;" .null := D272 (Or.inr (hw _ (List.mem_of_getElem? (i := 137) rfl))) (ty := (.object "com/example/amphion/amphion/BeanDefinition")) (by decide)
            have F284 : Fld Z h272 b272 "com/example/amphion/amphion/Making" "kept" "Z" (.int (0 : Int32)) := D272 (Or.inr (hw _ (List.mem_of_getElem? (i := 139) rfl))) (ty := .boolean) (by decide)
            have F285 : Fld Z h272 b272 "com/example/amphion/amphion/Making" "purpose" "Lcom/example/amphion/amphion/Making$Purpose;" .null := D272 (Or.inr (hw _ (List.mem_of_getElem? (i := 141) rfl))) (ty := (.object "com/example/amphion/amphion/Making$Purpose")) (by decide)
            have F286 : Fld Z h272 b272 "com/example/amphion/amphion/Making" "inner" "Lcom/example/amphion/amphion/BeanDefinition;" .null := D272 (Or.inr (hw _ (List.mem_of_getElem? (i := 143) rfl))) (ty := (.object "com/example/amphion/amphion/BeanDefinition")) (by decide)
            refine Jvm.Own.dup G272.here hx (hb hby at_129) rfl (pc' := 130) rfl ?_
            refine Jvm.Own.aload G272.here hx (hb hby at_130) rfl rfl (pc' := 132) rfl ?_
            refine Jvm.Own.aload G272.here hx (hb hby at_132) rfl rfl (pc' := 134) rfl ?_
            refine Jvm.Own.iloadN G272.here hx (hb hby at_134) rfl (pc' := 135) rfl ?_
            refine Jvm.Own.aload G272.here hx (hb hby at_135) rfl rfl (pc' := 137) rfl ?_
            refine Jvm.Own.aload G272.here hx (hb hby at_137) rfl hin (pc' := 139) rfl ?_
            refine Jvm.Own.callI0 (y := (⟨"com/example/amphion/amphion/Making", "<init>", "(Ljava/lang/String;Lcom/example/amphion/amphion/BeanDefinition;ZLcom/example/amphion/amphion/Making$Purpose;Lcom/example/amphion/amphion/BeanDefinition;)V"⟩ : MethodName)) G272 hx (hb hby at_139) rfl (hw _ (List.mem_of_getElem? (i := 125) rfl)) (hw _ (List.mem_of_getElem? (i := 126) rfl)) (hw _ (List.mem_of_getElem? (i := 124) rfl)) (hw _ (List.mem_of_getElem? (i := 127) rfl)) (by decide) (rm_mk l Z a0 hw b272 s234 (.ref b235) kp w_s_Making_Purpose_TYPE_CHECK inn h272 G272.old ga_b272 E272 F282 F283 F284 F285 F286 rfl hin (own_n01 hk) (own_f01 hk)) (by decide) (W := 1) (by decide) (by rw [hml]; rfl) (argsL := [(.ref s234), (.ref b235), (.int kp), (.ref w_s_Making_Purpose_TYPE_CHECK), inn]) (lenOf pd_9 rfl) rfl (Nat.le_of_eq rfl) (cells' := 19) rfl (by decide) (slots' := 160) rfl (by decide) (pc' := 142) rfl ?_
            intro T287 h287 G287 Q287
            obtain ⟨K287, E287, Fp287, Fk287⟩ := Q287
            refine Jvm.Own.astore G287.here hx (hb hby at_142) rfl (Ls' := #[.val (.int p0), .val (.int p1), .val (.int (1 : Int32)), .val (.int kp), .val (.int hi), .val (.int (1 : Int32)), .val (.ref w_s_Making_Purpose_TYPE_CHECK), .val (.ref s234), .val (.ref b235), .val (.ref b248), .val inn, .val (.ref b272), .unset, .unset, .unset]) rfl (pc' := 144) rfl ?_
            refine Jvm.Own.aload G287.here hx (hb hby at_144) rfl rfl (pc' := 146) rfl ?_
            refine Jvm.Own.callVP (y := (⟨"com/example/amphion/amphion/Making", "takesUnfinished", "()Z"⟩ : MethodName)) (z := (⟨"com/example/amphion/amphion/Making", "takesUnfinished", "()Z"⟩ : MethodName)) G287 hx (hb hby at_146) (nfOf (y := (⟨"com/example/amphion/amphion/Making", "takesUnfinished", "()Z"⟩ : MethodName)) (z := (⟨"com/example/amphion/amphion/Making", "takesUnfinished", "()Z"⟩ : MethodName)) rfl (hw _ (List.mem_of_getElem? (i := 147) rfl))) (hw _ (List.mem_of_getElem? (i := 144) rfl)) (hw _ (List.mem_of_getElem? (i := 145) rfl)) (hw _ (List.mem_of_getElem? (i := 147) rfl)) (hw _ (List.mem_of_getElem? (i := 146) rfl)) (hw _ (List.mem_of_getElem? (i := 124) rfl)) (hw _ (List.mem_of_getElem? (i := 148) rfl)) (by decide) E287 (rm_tu l Z a0 hw b272 w_s_Making_Purpose_TYPE_CHECK w_s_Making_Purpose_SERVED w_s_Making_Purpose_TYPE_CHECK h287 G287.old Fp287 S_s_Making_Purpose_SERVED E_s_Making_Purpose_SERVED S_s_Making_Purpose_TYPE_CHECK E_s_Making_Purpose_TYPE_CHECK F_s_Making_Purpose_SERVED_ordinal F_s_Making_Purpose_TYPE_CHECK_ordinal) (by decide) (W := 0) (by decide) (by rw [hml]; rfl) (argsL := []) (lenOf pd_10 rfl) rfl (Nat.le_of_eq rfl) (cells' := 19) rfl (by decide) (slots' := 160) rfl (by decide) (pc' := 149) rfl ?_
            intro T288 r288 G288 Q288
            have hr288 : r288 = .int (own_tu w_s_Making_Purpose_TYPE_CHECK w_s_Making_Purpose_TYPE_CHECK) := Q288
            rw [show own_tu w_s_Making_Purpose_TYPE_CHECK w_s_Making_Purpose_TYPE_CHECK = (0 : Int32) from by simp [own_tu]] at hr288
            subst hr288
            refine Jvm.Own.istore G288.here hx (hb hby at_149) (Ls' := #[.val (.int p0), .val (.int p1), .val (.int (1 : Int32)), .val (.int kp), .val (.int hi), .val (.int (1 : Int32)), .val (.ref w_s_Making_Purpose_TYPE_CHECK), .val (.ref s234), .val (.ref b235), .val (.ref b248), .val inn, .val (.ref b272), .val (.int (0 : Int32)), .unset, .unset]) rfl (pc' := 151) rfl ?_
            refine Jvm.Own.iload G288.here hx (hb hby at_151) rfl (pc' := 153) rfl ?_
            refine Jvm.Own.iloadN G288.here hx (hb hby at_153) rfl (pc' := 154) rfl ?_
            refine Jvm.Own.ifY G288.here hx (hb hby at_154) ((if0 _ _).trans (feq (by decide : ¬ (1 : Int32) = (0 : Int32))).2) (pc' := 161) (by decide) (by decide) ?_
            refine Jvm.Own.iconst G288.here hx (hb hby at_161) (v := (0 : Int32)) rfl (pc' := 162) rfl ?_
            refine Jvm.Own.icmpY G288.here hx (hb hby at_162) (teq (by decide : (0 : Int32) = (0 : Int32))).1 (pc' := 167) (by decide) (by decide) ?_
            refine Jvm.Own.aload G288.here hx (hb hby at_167) rfl rfl (pc' := 169) rfl ?_
            refine Jvm.Own.aload G288.here hx (hb hby at_169) rfl rfl (pc' := 171) rfl ?_
            refine Jvm.Own.aload G288.here hx (hb hby at_171) rfl rfl (pc' := 173) rfl ?_
            refine Jvm.Own.aload G288.here hx (hb hby at_173) rfl rfl (pc' := 175) rfl ?_
            have E289 := ((E279.ext X272).keep K287)
            have F290 := (((Fc263.keep K269 (ninS (Ne.symm ne265.1) nin0)).ext X272).keep K287 (ninS ne278 nin0))
            have F291 := (((Fv263.keep K269 (ninS (Ne.symm ne265.1) nin0)).ext X272).keep K287 (ninS ne278 nin0))
            have V292 := ((V281.ext X272).keep K287 (ninS ne280 nin0))
            have E293 := ((E269.ext X272).keep K287)
            have F294 := ((F269.ext X272).keep K287 (ninS ne277 nin0))
            refine Jvm.Own.callV1 (y := (⟨"com/example/amphion/amphion/Making", "inner", "(Ljava/lang/String;Lcom/example/amphion/amphion/BeanDefinition;Lcom/example/amphion/amphion/BeanDefinition;)Lcom/example/amphion/amphion/Making;"⟩ : MethodName)) (z := (⟨"com/example/amphion/amphion/Making", "inner", "(Ljava/lang/String;Lcom/example/amphion/amphion/BeanDefinition;Lcom/example/amphion/amphion/BeanDefinition;)Lcom/example/amphion/amphion/Making;"⟩ : MethodName)) G288 hx (hb hby at_175) (nfOf (y := (⟨"com/example/amphion/amphion/Making", "inner", "(Ljava/lang/String;Lcom/example/amphion/amphion/BeanDefinition;Lcom/example/amphion/amphion/BeanDefinition;)Lcom/example/amphion/amphion/Making;"⟩ : MethodName)) (z := (⟨"com/example/amphion/amphion/Making", "takesUnfinished", "()Z"⟩ : MethodName)) rfl (hw _ (List.mem_of_getElem? (i := 147) rfl))) (hw _ (List.mem_of_getElem? (i := 151) rfl)) (hw _ (List.mem_of_getElem? (i := 152) rfl)) (hw _ (List.mem_of_getElem? (i := 154) rfl)) (hw _ (List.mem_of_getElem? (i := 153) rfl)) (hw _ (List.mem_of_getElem? (i := 124) rfl)) (hw _ (List.mem_of_getElem? (i := 155) rfl)) (by decide) E287 (rm_in1 l Z a0 hw b272 s234 b235 b248 w_s_Making_Purpose_TYPE_CHECK kp a263 c263 k263 cs h287 G288.old Fk287 Fp287 E293 F294 E289 F290 F291 V292 S_cs ncs) (by decide) (W := 0) (by decide) (by rw [hml]; rfl) (argsL := [(.ref s234), (.ref b235), (.ref b248)]) (lenOf pd_13 rfl) rfl (Nat.le_of_eq rfl) (cells' := 22) rfl (by decide) (slots' := 205) rfl (by decide) (pc' := 178) rfl ?_
            intro T295 h295 r295 G295 Q295
            obtain ⟨x295, rfl, ge295, K295, E295, F295⟩ := Q295
            have ga_x295 : Z.heap.size ≤ x295 := Nat.le_trans G288.old.1 ge295
            have E297 := ((E274.ext X272).keep K287)
            have ne296 : s234 ≠ x295 := ne_ge (E297).lt ge295
            have E299 := ((E276.ext X272).keep K287)
            have ne298 : b235 ≠ x295 := ne_ge (E299).lt ge295
            have ne300 : b248 ≠ x295 := ne_ge (E293).lt ge295
            have ne301 : a263 ≠ x295 := ne_ge (E289).lt ge295
            have ne302 : c263 ≠ x295 := ne_ge (V292).lt ge295
            have ne303 : b272 ≠ x295 := ne_ge (E287).lt ge295
            refine Jvm.Own.astore G295.here hx (hb hby at_178) rfl (Ls' := #[.val (.int p0), .val (.int p1), .val (.int (1 : Int32)), .val (.int kp), .val (.int hi), .val (.int (1 : Int32)), .val (.ref w_s_Making_Purpose_TYPE_CHECK), .val (.ref s234), .val (.ref b235), .val (.ref b248), .val inn, .val (.ref b272), .val (.int (0 : Int32)), .val (.ref x295), .unset]) rfl (pc' := 180) rfl ?_
            refine Jvm.Own.aload G295.here hx (hb hby at_180) rfl rfl (pc' := 182) rfl ?_
            refine Jvm.Own.callVP (y := (⟨"com/example/amphion/amphion/Making", "takesUnfinished", "()Z"⟩ : MethodName)) (z := (⟨"com/example/amphion/amphion/Making", "takesUnfinished", "()Z"⟩ : MethodName)) G295 hx (hb hby at_182) (nfOf (y := (⟨"com/example/amphion/amphion/Making", "takesUnfinished", "()Z"⟩ : MethodName)) (z := (⟨"com/example/amphion/amphion/Making", "takesUnfinished", "()Z"⟩ : MethodName)) rfl (hw _ (List.mem_of_getElem? (i := 147) rfl))) (hw _ (List.mem_of_getElem? (i := 144) rfl)) (hw _ (List.mem_of_getElem? (i := 145) rfl)) (hw _ (List.mem_of_getElem? (i := 147) rfl)) (hw _ (List.mem_of_getElem? (i := 146) rfl)) (hw _ (List.mem_of_getElem? (i := 124) rfl)) (hw _ (List.mem_of_getElem? (i := 148) rfl)) (by decide) E295 (rm_tu l Z a0 hw x295 w_s_Making_Purpose_TYPE_CHECK w_s_Making_Purpose_SERVED w_s_Making_Purpose_TYPE_CHECK h295 G295.old F295 S_s_Making_Purpose_SERVED E_s_Making_Purpose_SERVED S_s_Making_Purpose_TYPE_CHECK E_s_Making_Purpose_TYPE_CHECK F_s_Making_Purpose_SERVED_ordinal F_s_Making_Purpose_TYPE_CHECK_ordinal) (by decide) (W := 0) (by decide) (by rw [hml]; rfl) (argsL := []) (lenOf pd_10 rfl) rfl (Nat.le_of_eq rfl) (cells' := 22) rfl (by decide) (slots' := 205) rfl (by decide) (pc' := 185) rfl ?_
            intro T304 r304 G304 Q304
            have hr304 : r304 = .int (own_tu w_s_Making_Purpose_TYPE_CHECK w_s_Making_Purpose_TYPE_CHECK) := Q304
            rw [show own_tu w_s_Making_Purpose_TYPE_CHECK w_s_Making_Purpose_TYPE_CHECK = (0 : Int32) from by simp [own_tu]] at hr304
            subst hr304
            refine Jvm.Own.iload G304.here hx (hb hby at_185) rfl (pc' := 187) rfl ?_
            refine Jvm.Own.icmpY G304.here hx (hb hby at_187) (teq (by decide : (0 : Int32) = (0 : Int32))).1 (pc' := 192) (by decide) (by decide) ?_
            refine Jvm.Own.iloadN G304.here hx (hb hby at_192) rfl (pc' := 193) rfl ?_
            refine Jvm.Own.ifN G304.here hx (hb hby at_193) ((if0 _ _).trans (feq (by decide : ¬ (1 : Int32) = (0 : Int32))).1) (pc' := 196) rfl ?_
            refine Jvm.Own.aload G304.here hx (hb hby at_196) rfl rfl (pc' := 198) rfl ?_
            refine Jvm.Own.aload G304.here hx (hb hby at_198) rfl rfl (pc' := 200) rfl ?_
            have E305 := (E289.keep K295)
            have F306 := (F290.keep K295 nin0)
            have F307 := (F291.keep K295 nin0)
            have V308 := (V292.keep K295 nin0)
            have E309 := (E293.keep K295)
            have F310 := (F294.keep K295 nin0)
            refine Jvm.Own.callS1 (y := (⟨"com/example/amphion/amphion/Making", "forTypeCheck", "(Ljava/lang/String;Lcom/example/amphion/amphion/BeanDefinition;)Lcom/example/amphion/amphion/Making;"⟩ : MethodName)) G304 hx (hb hby at_200) (hw _ (List.mem_of_getElem? (i := 191) rfl)) (hw _ (List.mem_of_getElem? (i := 192) rfl)) (hw _ (List.mem_of_getElem? (i := 124) rfl)) (hw _ (List.mem_of_getElem? (i := 193) rfl)) (by decide) (rm_tc1 l Z a0 hw s234 b248 w_s_Making_Purpose_SERVED w_s_Making_Purpose_TYPE_CHECK a263 c263 k263 cs h295 G304.old S_s_Making_Purpose_SERVED E_s_Making_Purpose_SERVED S_s_Making_Purpose_TYPE_CHECK E_s_Making_Purpose_TYPE_CHECK F_s_Making_Purpose_SERVED_ordinal F_s_Making_Purpose_TYPE_CHECK_ordinal E309 F310 E305 F306 F307 V308 S_cs ncs) (by decide) (W := 0) (by decide) (by rw [hml]; rfl) (argsL := [(.ref s234), (.ref b248)]) (lenOf pd_14 rfl) rfl (Nat.le_of_eq rfl) (cells' := 25) rfl (by decide) (slots' := 250) rfl (by decide) (pc' := 203) rfl ?_
            intro T311 h311 r311 G311 Q311
            obtain ⟨x311, rfl, ge311, K311, E311, F311⟩ := Q311
            have ga_x311 : Z.heap.size ≤ x311 := Nat.le_trans G304.old.1 ge311
            have E313 := (E297.keep K295)
            have ne312 : s234 ≠ x311 := ne_ge (E313).lt ge311
            have E315 := (E299.keep K295)
            have ne314 : b235 ≠ x311 := ne_ge (E315).lt ge311
            have ne316 : b248 ≠ x311 := ne_ge (E309).lt ge311
            have ne317 : a263 ≠ x311 := ne_ge (E305).lt ge311
            have ne318 : c263 ≠ x311 := ne_ge (V308).lt ge311
            have E320 := (E287.keep K295)
            have ne319 : b272 ≠ x311 := ne_ge (E320).lt ge311
            have ne321 : x295 ≠ x311 := ne_ge (E295).lt ge311
            refine Jvm.Own.goto G311.here hx (hb hby at_203) (pc' := 213) (by decide) (by decide) ?_
            refine Jvm.Own.astore G311.here hx (hb hby at_213) rfl (Ls' := #[.val (.int p0), .val (.int p1), .val (.int (1 : Int32)), .val (.int kp), .val (.int hi), .val (.int (1 : Int32)), .val (.ref w_s_Making_Purpose_TYPE_CHECK), .val (.ref s234), .val (.ref b235), .val (.ref b248), .val inn, .val (.ref b272), .val (.int (0 : Int32)), .val (.ref x295), .val (.ref x311)]) rfl (pc' := 215) rfl ?_
            refine Jvm.Own.aload G311.here hx (hb hby at_215) rfl rfl (pc' := 217) rfl ?_
            refine Jvm.Own.callVP (y := (⟨"com/example/amphion/amphion/Making", "takesUnfinished", "()Z"⟩ : MethodName)) (z := (⟨"com/example/amphion/amphion/Making", "takesUnfinished", "()Z"⟩ : MethodName)) G311 hx (hb hby at_217) (nfOf (y := (⟨"com/example/amphion/amphion/Making", "takesUnfinished", "()Z"⟩ : MethodName)) (z := (⟨"com/example/amphion/amphion/Making", "takesUnfinished", "()Z"⟩ : MethodName)) rfl (hw _ (List.mem_of_getElem? (i := 147) rfl))) (hw _ (List.mem_of_getElem? (i := 144) rfl)) (hw _ (List.mem_of_getElem? (i := 145) rfl)) (hw _ (List.mem_of_getElem? (i := 147) rfl)) (hw _ (List.mem_of_getElem? (i := 146) rfl)) (hw _ (List.mem_of_getElem? (i := 124) rfl)) (hw _ (List.mem_of_getElem? (i := 148) rfl)) (by decide) E311 (rm_tu l Z a0 hw x311 w_s_Making_Purpose_TYPE_CHECK w_s_Making_Purpose_SERVED w_s_Making_Purpose_TYPE_CHECK h311 G311.old F311 S_s_Making_Purpose_SERVED E_s_Making_Purpose_SERVED S_s_Making_Purpose_TYPE_CHECK E_s_Making_Purpose_TYPE_CHECK F_s_Making_Purpose_SERVED_ordinal F_s_Making_Purpose_TYPE_CHECK_ordinal) (by decide) (W := 0) (by decide) (by rw [hml]; rfl) (argsL := []) (lenOf pd_10 rfl) rfl (Nat.le_of_eq rfl) (cells' := 25) rfl (by decide) (slots' := 250) rfl (by decide) (pc' := 220) rfl ?_
            intro T322 r322 G322 Q322
            have hr322 : r322 = .int (own_tu w_s_Making_Purpose_TYPE_CHECK w_s_Making_Purpose_TYPE_CHECK) := Q322
            rw [show own_tu w_s_Making_Purpose_TYPE_CHECK w_s_Making_Purpose_TYPE_CHECK = (0 : Int32) from by simp [own_tu]] at hr322
            subst hr322
            refine Jvm.Own.iloadN G322.here hx (hb hby at_220) rfl (pc' := 221) rfl ?_
            refine Jvm.Own.ifY G322.here hx (hb hby at_221) ((if0 _ _).trans (feq (by decide : ¬ (1 : Int32) = (0 : Int32))).2) (pc' := 228) (by decide) (by decide) ?_
            refine Jvm.Own.iconst G322.here hx (hb hby at_228) (v := (0 : Int32)) rfl (pc' := 229) rfl ?_
            refine Jvm.Own.icmpN G322.here hx (hb hby at_229) (teq (by decide : (0 : Int32) = (0 : Int32))).2 (pc' := 232) rfl ?_
            refine Jvm.Own.iconst G322.here hx (hb hby at_232) (v := (1 : Int32)) rfl (pc' := 233) rfl ?_
            refine Jvm.Own.goto G322.here hx (hb hby at_233) (pc' := 237) (by decide) (by decide) ?_
            exact Jvm.Own.retI G322 hx (hb hby at_237) hret hlk (by simp) rfl (by decide) (by decide) ⟨_, rfl, rfl⟩
          by_cases hb115 : hi = (0 : Int32)
          · skip
            refine Jvm.Own.ifY G269.here hx (hb hby at_115) ((if0 _ _).trans (teq hb115).1) (pc' := 123) (by decide) (by decide) ?_
            refine Jvm.Own.aconstNull G269.here hx (hb hby at_123) (pc' := 124) rfl ?_
            exact K270 T269 G269 .null rfl
          · skip
            refine Jvm.Own.ifN G269.here hx (hb hby at_115) ((if0 _ _).trans (feq hb115).1) (pc' := 118) rfl ?_
            refine Jvm.Own.aload G269.here hx (hb hby at_118) rfl rfl (pc' := 120) rfl ?_
            refine Jvm.Own.goto G269.here hx (hb hby at_120) (pc' := 124) (by decide) (by decide) ?_
            exact K270 T269 G269 (.ref b235) rfl
      by_cases hb27 : (p0 &&& (4 : Int32)) = (0 : Int32)
      · skip
        refine Jvm.Own.ifY G163.here hx (hb hby at_27) ((if0 _ _).trans (teq hb27).1) (pc' := 34) (by decide) (by decide) ?_
        refine Jvm.Own.iconst G163.here hx (hb hby at_34) (v := (0 : Int32)) rfl (pc' := 35) rfl ?_
        exact K164 T163 G163 (0 : Int32) (by decide)
      · skip
        refine Jvm.Own.ifN G163.here hx (hb hby at_27) ((if0 _ _).trans (feq hb27).1) (pc' := 30) rfl ?_
        refine Jvm.Own.iconst G163.here hx (hb hby at_30) (v := (1 : Int32)) rfl (pc' := 31) rfl ?_
        refine Jvm.Own.goto G163.here hx (hb hby at_31) (pc' := 35) (by decide) (by decide) ?_
        exact K164 T163 G163 (1 : Int32) (by decide)
    by_cases hb15 : (p0 &&& (2 : Int32)) = (0 : Int32)
    · skip
      refine Jvm.Own.ifY G0.here hx (hb hby at_15) ((if0 _ _).trans (teq hb15).1) (pc' := 22) (by decide) (by decide) ?_
      refine Jvm.Own.iconst G0.here hx (hb hby at_22) (v := (0 : Int32)) rfl (pc' := 23) rfl ?_
      exact K162 T0 G0 (0 : Int32) (by decide)
    · skip
      refine Jvm.Own.ifN G0.here hx (hb hby at_15) ((if0 _ _).trans (feq hb15).1) (pc' := 18) rfl ?_
      refine Jvm.Own.iconst G0.here hx (hb hby at_18) (v := (1 : Int32)) rfl (pc' := 19) rfl ?_
      refine Jvm.Own.goto G0.here hx (hb hby at_19) (pc' := 23) (by decide) (by decide) ?_
      exact K162 T0 G0 (1 : Int32) (by decide)
set_option maxRecDepth 65536 in
set_option maxHeartbeats 4000000 in
theorem comes_1 {Post : Tables → Env → Array Value → State → Outcome → State → Prop} (hpost : ∀ tb e args s v u, (limb_1_1.after args s (.returned v) u = true ∧ limb_1_2.after args s (.returned v) u = true ∧ True) → ReturnedEndW s (.returned v) u (Jvm.fieldLocs frame_1_writes args s ++ Jvm.arrayLocs frame_1_arrays args s ++ Jvm.staticLocs frame_1_statics s) 48 4416 → Post tb e args s (.returned v) u) :
    ArmFor flags0 classFile x code maxLocals ret World_1 tables_1 room_1 Calls_1 rest_1 Pre_1 Post := by
  intro l hfl _ _ p e ha hc hk s m args below hf hA hF happ hP
  obtain ⟨hcalls, hrest, hpre⟩ := hP
  obtain ⟨-, -, -, hnamed, -, -, -, hat⟩ := (Spec.applies_iff hf).mp happ
  obtain ⟨hg, hn⟩ := and_e (Cond.before_iff.mp (show (Jvm.Cond.and given_1 narrow_1).before args s = true from hpre))
  obtain ⟨hcount, hq0⟩ := and_e hg
  obtain ⟨ha0, ha1⟩ := and_e hq0
  obtain ⟨v0, v1, rfl⟩ : ∃ v0 v1 : Value, args = #[v0, v1] := by
    have hs : args.size = 2 := by simpa [Cond.value, given_1] using hcount
    obtain ⟨L⟩ := args
    match L, hs with
    | [v0, v1], _ => exact ⟨v0, v1, rfl⟩
  have hw := fun d (hd : d ∈ tables_1) => atoms_spec (ws := Jvm.Cond.code x code maxLocals ret :: tables_1) hat d (List.mem_cons_of_mem _ hd)
  have hfit : Fit s := fun {y c} hc i hi => by
    obtain ⟨ha, rfl⟩ := Array.getElem?_eq_some_iff.mp hc
    have q := List.all_eq_true.mp ((Array.all_eq_true_iff_forall_mem.mp hF) _ (Array.getElem_mem ha)) i (List.mem_range.mpr hi)
    simpa [Array.getElem?_eq_getElem hi] using q
  obtain ⟨hsets, hown0⟩ := atoms_of _ (rest_1_c_eq ▸ (show rest_1_c.before _ s = true from hrest))
  obtain ⟨i0, ei0⟩ := is_v ha0
  obtain rfl : v0 = (.int i0) := Option.some.inj ei0
  obtain ⟨i1, ei1⟩ := is_v ha1
  obtain rfl : v1 = (.int i1) := Option.some.inj ei1
  obtain ⟨n0a, n0b⟩ := and_e hn
  obtain ⟨n1a, n1b⟩ := and_e n0b
  obtain ⟨n2a, n2b⟩ := and_e n1b
  obtain ⟨w_s_Making_Purpose_SERVED, ev_s_Making_Purpose_SERVED⟩ := exa_v n0a
  have S_s_Making_Purpose_SERVED := sta_of ev_s_Making_Purpose_SERVED (hw _ (List.mem_of_getElem? (i := 1) rfl)) (hw _ (List.mem_of_getElem? (i := 2) rfl))
  have E_s_Making_Purpose_SERVED := Exa.start ev_s_Making_Purpose_SERVED n0a
  obtain ⟨w_s_Making_Purpose_TYPE_CHECK, ev_s_Making_Purpose_TYPE_CHECK⟩ := exa_v n1a
  have S_s_Making_Purpose_TYPE_CHECK := sta_of ev_s_Making_Purpose_TYPE_CHECK (hw _ (List.mem_of_getElem? (i := 1) rfl)) (hw _ (List.mem_of_getElem? (i := 150) rfl))
  have E_s_Making_Purpose_TYPE_CHECK := Exa.start ev_s_Making_Purpose_TYPE_CHECK n1a
  have ev_s_Making_Purpose_SERVED_ordinal := eq_to n2a (Term.int_eval _)
  have F_s_Making_Purpose_SERVED_ordinal := fld_of ev_s_Making_Purpose_SERVED ev_s_Making_Purpose_SERVED_ordinal
  have ev_s_Making_Purpose_TYPE_CHECK_ordinal := eq_to n2b (Term.int_eval _)
  have F_s_Making_Purpose_TYPE_CHECK_ordinal := fld_of ev_s_Making_Purpose_TYPE_CHECK ev_s_Making_Purpose_TYPE_CHECK_ordinal
  obtain ⟨w_dc, ev_dc⟩ := exa_v (Cond.before_iff.mp (hsets _ (List.mem_of_getElem? (i := 16) rfl)))
  have S_dc := sta_of ev_dc (hw _ (List.mem_of_getElem? (i := 75) rfl)) (hsets _ (List.mem_of_getElem? (i := 11) rfl))
  obtain ⟨w_el, ev_el⟩ := exa_v (Cond.before_iff.mp (hsets _ (List.mem_of_getElem? (i := 20) rfl)))
  have S_el := sta_for ev_el (hsets _ (List.mem_of_getElem? (i := 19) rfl))
  obtain ⟨cs, ev_cs⟩ := is_v (Cond.before_iff.mp (hsets _ (List.mem_of_getElem? (i := 1) rfl)))
  have S_cs := sta_for ev_cs (hsets _ (List.mem_of_getElem? (i := 0) rfl))
  have qcs := not_v (Cond.before_iff.mp (hsets _ (List.mem_of_getElem? (i := 2) rfl)))
  have ncs : ¬ cs = (0 : Int32) := fun q => by subst q; simp [Cond.value, ev_cs, Term.int_eval] at qcs
  have own_cw : Jvm.Lit.compactW.before _ s = true := (hsets _ (List.mem_of_getElem? (i := 2) rfl))
  obtain ⟨n, o, h1, h2, h3, v, L, rfl, ⟨N, -, w, rfl, hv⟩, -, hq⟩ := rm0 l s _ hw i0 i1 w_s_Making_Purpose_SERVED w_s_Making_Purpose_TYPE_CHECK w_dc w_el cs s.heap (Ext.refl _) S_s_Making_Purpose_SERVED E_s_Making_Purpose_SERVED S_s_Making_Purpose_TYPE_CHECK E_s_Making_Purpose_TYPE_CHECK F_s_Making_Purpose_SERVED_ordinal F_s_Making_Purpose_TYPE_CHECK_ordinal S_dc S_el S_cs ncs p e ha hc hk s m _ below hf ((Spec.applies_iff_loose hf).mp happ).1 ⟨rfl, State.Warmed39.refl s, rfl, CHv.start (own_EW hw) (fun p hp => hcalls.1 p ((by decide : ∀ p ∈ own_EL, p ∈ consts_1) p hp)) own_cw (hw _ (List.mem_of_getElem? (i := 17) rfl)) (hw _ (List.mem_of_getElem? (i := 13) rfl))⟩ trivial
  obtain rfl : w = .int 1 := hv
  refine ⟨n, _, h1, h2, h3, hpost _ _ _ _ _ _ ⟨Cond.after_iff.mpr rfl, Cond.after_iff.mpr (eq_i res_at (Term.int_eval (1)) rfl), trivial⟩ ⟨hq.1, hq.2.1, hq.2.2.1, (hq.2.2.2.sift fun y hy => Or.inr (N y hy)).mono (by decide) (by decide)⟩⟩
theorem main_1_1 : Claimed_1_1 := comes_1 fun _ _ _ _ _ _ h hF => ⟨h.1, hF⟩
theorem main_1_2 : Claimed_1_2 := comes_1 fun _ _ _ _ _ _ h hF => ⟨h.2.1, hF⟩
end Jvm.Pilot.@@N@@
namespace Jvm.Pilot.@@N@@
open Jvm Jvm.ClassFile Sem Op Lib Jvm.Free Jvm.Stand Jvm.Pilot.@@N@@.Jvm.D
/-! MADE BY PROGRAM (witnessworld.py) out of the Statement's table words and the real class files: 40 classes; the members and pool entries that the words name. The judged class is class 1, her method 1. -/
namespace start1
open Jvm.ClassFile
def u (s : String) : CpInfo := .utf8 (stringToUtf16 s)
/-- a pool by its gaps: so many unusable entries, then the entry; so many at the end -/
def gap : Nat → List CpInfo → List CpInfo
  | 0, r => r
  | n + 1, r => .unusable :: gap n r
def poolList (es : List (Nat × CpInfo)) (last : Nat) : List CpInfo := es.foldr (fun e r => gap e.1 (e.2 :: r)) (gap last [])
def pool (es : List (Nat × CpInfo)) (last : Nat) : Array CpInfo := ⟨poolList es last⟩
def fileOf (pool : Array CpInfo) (this : Nat) (attrs : Array Attribute := #[]) (ms : Array MethodInfo := #[]) (fl : Nat := 33) (sup : Nat := 0) (ifs : Array Nat := #[]) (fds : Array FieldInfo := #[]) : ClassFile where
  minorVersion := 0
  majorVersion := 65
  constantPool := pool
  accessFlags := fl
  thisClass := this
  superClass := sup
  interfaces := ifs
  fields := fds
  methods := ms
  attributes := attrs
def plain (name : String) (sup : Option ClassId) : Class where
  name := name
  kind := .ordinary
  loader := none
  accessFlags := 33
  super := sup
  interfaces := #[]
  cf := none
  fields := #[]
  methods := #[]
  instanceTypes := #[]
  staticTypes := #[]
  resolved := #[]
  callSites := []
  init := .initialized
  statics := none
  mirror := none

def pool0 : Array CpInfo := pool [(5, u "<init>"), (0, u "()V"), (1, .class_ 10), (1, u "java/lang/Object")] 113

def k0c0 : Code := { maxStack := 0, maxLocals := 1, code := object_method_1_code, exceptionTable := #[], attributes := #[] }
def k0m0 : Method := { name := "<init>", desc := "()V", sig := { parameters := [], returnType := none }, accessFlags := 1, code := some k0c0 }
/-- java/lang/Object -/
def k0 : Class := { plain "java/lang/Object" none with
  accessFlags := 33
  interfaces := #[]
  cf := some (fileOf pool0 8 #[] #[{ accessFlags := 1, nameIndex := 5, descriptorIndex := 6, attributes := #[] }] 33 0 #[] #[])
  fields := #[]
  methods := #[k0m0]
  instanceTypes := #[]
  staticTypes := #[]
  resolved := Array.replicate 124 none
  statics := none }

def pool1 : Array CpInfo := pool [(2, .class_ 4), (1, u "java/lang/Object"), (0, u "<init>"), (0, u "()V"), (0, .fieldref 8 9), (0, .class_ 10), (0, .nameAndType 11 12), (0, u "com/example/amphion/amphion/Making$Purpose"), (0, u "TYPE_CHECK"), (0, u "Lcom/example/amphion/amphion/Making$Purpose;"), (0, .fieldref 8 14), (0, .nameAndType 15 12), (0, u "SERVED"), (0, .methodref 17 18), (0, .class_ 19), (0, .nameAndType 20 21), (0, u "java/lang/String"), (0, u "valueOf"), (0, u "(C)Ljava/lang/String;"), (0, .class_ 23), (0, u "com/example/amphion/amphion/BeanDefinition"), (0, .methodref 22 25), (0, .nameAndType 5 26), (0, u "(Ljava/lang/String;Ljava/lang/String;I)V"), (0, .string 28), (0, u "prototype"), (0, .methodref 22 30), (0, .nameAndType 31 32), (0, u "setScope"), (0, u "(Ljava/lang/String;)V"), (0, .class_ 34), (0, u "com/example/amphion/amphion/Making"), (0, .methodref 33 36), (0, .nameAndType 5 37), (0, u "(Ljava/lang/String;Lcom/example/amphion/amphion/BeanDefinition;ZLcom/example/amphion/amphion/Making$Purpose;Lcom/example/amphion/amphion/BeanDefinition;)V"), (0, .methodref 33 39), (0, .nameAndType 40 41), (0, u "takesUnfinished"), (0, u "()Z"), (0, .methodref 33 43), (0, .nameAndType 44 45), (0, u "inner"), (0, u "(Ljava/lang/String;Lcom/example/amphion/amphion/BeanDefinition;Lcom/example/amphion/amphion/BeanDefinition;)Lcom/example/amphion/amphion/Making;"), (0, .methodref 33 47), (0, .nameAndType 48 49), (0, u "forTypeCheck"), (0, u "(Ljava/lang/String;Lcom/example/amphion/amphion/BeanDefinition;)Lcom/example/amphion/amphion/Making;"), (0, .methodref 33 51), (0, .nameAndType 52 49), (0, u "of"), (0, .class_ 54), (0, u "com/example/amphion/amphion/MakingTakesUnfinishedPinLaw"), (2, u "law"), (0, u "(II)Z")] 5

def k1m0 : Method := { name := "<init>", desc := "()V", sig := { parameters := [], returnType := none }, accessFlags := 2, code := none }
def k1c1 : Code := { maxStack := 7, maxLocals := 15, code := code, exceptionTable := #[], attributes := #[] }
def k1m1 : Method := { name := "law", desc := "(II)Z", sig := { parameters := [.int, .int], returnType := some .boolean }, accessFlags := 9, code := some k1c1 }
/-- com/example/amphion/amphion/MakingTakesUnfinishedPinLaw -/
def k1 : Class := { plain "com/example/amphion/amphion/MakingTakesUnfinishedPinLaw" (some 0) with
  accessFlags := 49
  interfaces := #[]
  cf := some (fileOf pool1 53 #[] #[{ accessFlags := 2, nameIndex := 5, descriptorIndex := 6, attributes := #[] }, { accessFlags := 9, nameIndex := 57, descriptorIndex := 58, attributes := #[] }] 49 2 #[] #[])
  fields := #[]
  methods := #[k1m0, k1m1]
  instanceTypes := #[]
  staticTypes := #[]
  resolved := Array.replicate 64 none
  statics := none }

def pool2 : Array CpInfo := pool [(1, .class_ 2), (0, u "java/lang/constant/Constable"), (0, .class_ 4), (0, u "java/lang/Object")] 6

/-- java/lang/constant/Constable -/
def k2 : Class := { plain "java/lang/constant/Constable" (some 0) with
  accessFlags := 1537
  interfaces := #[]
  cf := some (fileOf pool2 1 #[] #[] 1537 3 #[] #[])
  fields := #[]
  methods := #[]
  instanceTypes := #[]
  staticTypes := #[]
  resolved := Array.replicate 11 none
  statics := none }

def pool3 : Array CpInfo := pool [(1, .class_ 2), (0, u "java/lang/Comparable"), (0, .class_ 4), (0, u "java/lang/Object")] 7

/-- java/lang/Comparable -/
def k3 : Class := { plain "java/lang/Comparable" (some 0) with
  accessFlags := 1537
  interfaces := #[]
  cf := some (fileOf pool3 1 #[] #[] 1537 3 #[] #[])
  fields := #[]
  methods := #[]
  instanceTypes := #[]
  staticTypes := #[]
  resolved := Array.replicate 12 none
  statics := none }

def pool4 : Array CpInfo := pool [(1, .class_ 2), (0, u "java/io/Serializable"), (0, .class_ 4), (0, u "java/lang/Object")] 2

/-- java/io/Serializable -/
def k4 : Class := { plain "java/io/Serializable" (some 0) with
  accessFlags := 1537
  interfaces := #[]
  cf := some (fileOf pool4 1 #[] #[] 1537 3 #[] #[])
  fields := #[]
  methods := #[]
  instanceTypes := #[]
  staticTypes := #[]
  resolved := Array.replicate 7 none
  statics := none }

def pool5 : Array CpInfo := pool [(2, .class_ 4), (1, u "java/lang/Enum"), (0, u "name"), (0, u "Ljava/lang/String;"), (2, u "ordinal"), (0, u "I"), (1, .class_ 14), (1, u "java/lang/Object"), (4, u "hash"), (86, .class_ 108), (1, u "java/lang/Enum$EnumDesc"), (2, .class_ 112), (0, u "java/lang/constant/Constable"), (0, .class_ 114), (0, u "java/lang/Comparable"), (0, .class_ 116), (0, u "java/io/Serializable")] 87

/-- java/lang/Enum -/
def k5 : Class := { plain "java/lang/Enum" (some 0) with
  accessFlags := 1057
  interfaces := #[2, 3, 4]
  cf := some (fileOf pool5 2 #[.nestMembers #[106]] #[] 1057 12 #[111, 113, 115] #[{ accessFlags := 18, nameIndex := 5, descriptorIndex := 6, attributes := #[] }, { accessFlags := 18, nameIndex := 9, descriptorIndex := 10, attributes := #[] }, { accessFlags := 2, nameIndex := 19, descriptorIndex := 10, attributes := #[] }])
  fields := #[{ name := "name", type := (.object "java/lang/String"), accessFlags := 18, slot := 0, constantValue := 0 }, { name := "ordinal", type := .int, accessFlags := 18, slot := 1, constantValue := 0 }, { name := "hash", type := .int, accessFlags := 2, slot := 2, constantValue := 0 }]
  methods := #[]
  instanceTypes := #[(.object "java/lang/String"), .int, .int]
  staticTypes := #[]
  resolved := Array.replicate 204 none
  statics := none }

def pool6 : Array CpInfo := pool [(1, .class_ 2), (0, u "com/example/amphion/amphion/Making$Purpose"), (2, u "SERVED"), (0, u "Lcom/example/amphion/amphion/Making$Purpose;"), (2, u "TYPE_CHECK"), (2, u "$VALUES"), (0, u "[Lcom/example/amphion/amphion/Making$Purpose;"), (6, .class_ 22), (1, u "java/lang/Enum"), (25, .class_ 49), (0, u "com/example/amphion/amphion/Making")] 2

/-- com/example/amphion/amphion/Making$Purpose -/
def k6 : Class := { plain "com/example/amphion/amphion/Making$Purpose" (some 5) with
  accessFlags := 16432
  interfaces := #[]
  cf := some (fileOf pool6 1 #[.nestHost 48] #[] 16432 20 #[] #[{ accessFlags := 16409, nameIndex := 5, descriptorIndex := 6, attributes := #[] }, { accessFlags := 16409, nameIndex := 9, descriptorIndex := 6, attributes := #[] }, { accessFlags := 4122, nameIndex := 12, descriptorIndex := 13, attributes := #[] }])
  fields := #[{ name := "SERVED", type := (.object "com/example/amphion/amphion/Making$Purpose"), accessFlags := 16409, slot := 0, constantValue := 0 }, { name := "TYPE_CHECK", type := (.object "com/example/amphion/amphion/Making$Purpose"), accessFlags := 16409, slot := 1, constantValue := 0 }, { name := "$VALUES", type := (.array (.object "com/example/amphion/amphion/Making$Purpose")), accessFlags := 4122, slot := 2, constantValue := 0 }]
  methods := #[]
  instanceTypes := #[(.object "java/lang/String"), .int, .int]
  staticTypes := #[(.object "com/example/amphion/amphion/Making$Purpose"), (.object "com/example/amphion/amphion/Making$Purpose"), (.array (.object "com/example/amphion/amphion/Making$Purpose"))]
  resolved := Array.replicate 52 none
  statics := some 0 }

def pool7 : Array CpInfo := pool [(2, .class_ 4), (1, u "java/lang/CharSequence"), (42, .class_ 48), (0, u "java/lang/CharSequence$1CodePointIterator"), (10, .class_ 60), (0, u "java/lang/CharSequence$1CharIterator"), (5, .class_ 67), (0, u "java/lang/Object")] 63

/-- java/lang/CharSequence -/
def k7 : Class := { plain "java/lang/CharSequence" (some 0) with
  accessFlags := 1537
  interfaces := #[]
  cf := some (fileOf pool7 2 #[.nestMembers #[47, 59]] #[] 1537 66 #[] #[])
  fields := #[]
  methods := #[]
  instanceTypes := #[]
  staticTypes := #[]
  resolved := Array.replicate 131 none
  statics := none }

def pool8 : Array CpInfo := pool [(1, .class_ 2), (0, u "java/lang/constant/ConstantDesc"), (0, .class_ 4), (0, u "java/lang/Object")] 32

/-- java/lang/constant/ConstantDesc -/
def k8 : Class := { plain "java/lang/constant/ConstantDesc" (some 0) with
  accessFlags := 1537
  interfaces := #[]
  cf := some (fileOf pool8 1 #[] #[] 1537 3 #[] #[])
  fields := #[]
  methods := #[]
  instanceTypes := #[]
  staticTypes := #[]
  resolved := Array.replicate 37 none
  statics := none }

def pool9 : Array CpInfo := pool [(1, .methodref 2 3), (0, .class_ 4), (0, .nameAndType 5 6), (0, u "java/lang/Object"), (0, u "<init>"), (0, u "()V"), (2, .fieldref 10 11), (0, .class_ 12), (0, .nameAndType 13 14), (0, u "java/lang/String"), (0, u "value"), (0, u "[B"), (0, .fieldref 10 16), (0, .nameAndType 17 18), (0, u "coder"), (0, u "B"), (2, u "hash"), (0, u "I"), (2, u "hashIsZero"), (0, u "Z"), (11, .fieldref 10 39), (0, .nameAndType 40 26), (0, u "COMPACT_STRINGS"), (12, u "toBytes"), (53, .class_ 109), (1, u "java/lang/StringLatin1"), (99, .methodref 10 210), (0, .nameAndType 5 211), (0, u "([BB)V"), (157, u "(C)Z"), (171, .methodref 107 542), (0, .nameAndType 543 544), (0, u "equals"), (0, u "([B[B)Z"), (28, u "(Ljava/lang/Object;)Z"), (1, .class_ 576), (0, u "java/lang/CharSequence"), (22, u "CASE_INSENSITIVE_ORDER"), (0, u "Ljava/util/Comparator;"), (181, u "valueOf"), (0, u "(C)Ljava/lang/String;"), (231, .methodref 107 1016), (0, .nameAndType 1017 369), (0, u "canEncode"), (0, .methodref 107 1019), (0, .nameAndType 53 1020), (0, u "(C)[B"), (80, u "serialPersistentFields"), (0, u "[Ljava/io/ObjectStreamField;"), (0, .class_ 1104), (0, u "java/lang/String$CaseInsensitiveComparator"), (1, .class_ 1107), (0, u "java/io/Serializable"), (0, .class_ 1109), (0, u "java/lang/Comparable"), (0, .class_ 1111), (0, u "java/lang/constant/Constable"), (0, .class_ 1113), (0, u "java/lang/constant/ConstantDesc"), (2, u "serialVersionUID"), (0, u "J"), (3, u "REPL"), (0, u "C"), (2, u "LATIN1"), (1, u "UTF16")] 323

def k9m0 : Method := { name := "<init>", desc := "()V", sig := { parameters := [], returnType := none }, accessFlags := 1, code := none }
def k9c1 : Code := { maxStack := 2, maxLocals := 3, code := jdk_42_method_66_code, exceptionTable := #[], attributes := #[] }
def k9m1 : Method := { name := "equals", desc := "(Ljava/lang/Object;)Z", sig := { parameters := [(.object "java/lang/Object")], returnType := some .boolean }, accessFlags := 1, code := some k9c1 }
def k9c2 : Code := { maxStack := 4, maxLocals := 1, code := jdk_42_method_139_code, exceptionTable := #[], attributes := #[] }
def k9m2 : Method := { name := "valueOf", desc := "(C)Ljava/lang/String;", sig := { parameters := [.char], returnType := some (.object "java/lang/String") }, accessFlags := 9, code := some k9c2 }
def k9c3 : Code := { maxStack := 2, maxLocals := 3, code := jdk_42_method_151_code, exceptionTable := #[], attributes := #[] }
def k9m3 : Method := { name := "<init>", desc := "([BB)V", sig := { parameters := [(.array .byte), .byte], returnType := none }, accessFlags := 0, code := some k9c3 }
/-- java/lang/String -/
def k9 : Class := { plain "java/lang/String" (some 0) with
  accessFlags := 49
  interfaces := #[4, 3, 7, 2, 8]
  cf := some (fileOf pool9 10 #[.nestMembers #[1103]] #[{ accessFlags := 1, nameIndex := 5, descriptorIndex := 6, attributes := #[] }, { accessFlags := 1, nameIndex := 543, descriptorIndex := 573, attributes := #[] }, { accessFlags := 9, nameIndex := 782, descriptorIndex := 783, attributes := #[] }, { accessFlags := 0, nameIndex := 5, descriptorIndex := 211, attributes := #[] }] 49 2 #[1106, 1108, 575, 1110, 1112] #[{ accessFlags := 18, nameIndex := 13, descriptorIndex := 14, attributes := #[] }, { accessFlags := 18, nameIndex := 17, descriptorIndex := 18, attributes := #[] }, { accessFlags := 2, nameIndex := 21, descriptorIndex := 22, attributes := #[] }, { accessFlags := 2, nameIndex := 25, descriptorIndex := 26, attributes := #[] }, { accessFlags := 26, nameIndex := 1116, descriptorIndex := 1117, attributes := #[] }, { accessFlags := 24, nameIndex := 40, descriptorIndex := 26, attributes := #[] }, { accessFlags := 26, nameIndex := 1101, descriptorIndex := 1102, attributes := #[] }, { accessFlags := 26, nameIndex := 1121, descriptorIndex := 1122, attributes := #[] }, { accessFlags := 25, nameIndex := 599, descriptorIndex := 600, attributes := #[] }, { accessFlags := 24, nameIndex := 1125, descriptorIndex := 18, attributes := #[] }, { accessFlags := 24, nameIndex := 1127, descriptorIndex := 18, attributes := #[] }])
  fields := #[{ name := "value", type := (.array .byte), accessFlags := 18, slot := 0, constantValue := 0 }, { name := "coder", type := .byte, accessFlags := 18, slot := 1, constantValue := 0 }, { name := "hash", type := .int, accessFlags := 2, slot := 2, constantValue := 0 }, { name := "hashIsZero", type := .boolean, accessFlags := 2, slot := 3, constantValue := 0 }, { name := "serialVersionUID", type := .long, accessFlags := 26, slot := 0, constantValue := 0 }, { name := "COMPACT_STRINGS", type := .boolean, accessFlags := 24, slot := 1, constantValue := 0 }, { name := "serialPersistentFields", type := (.array (.object "java/io/ObjectStreamField")), accessFlags := 26, slot := 2, constantValue := 0 }, { name := "REPL", type := .char, accessFlags := 26, slot := 3, constantValue := 0 }, { name := "CASE_INSENSITIVE_ORDER", type := (.object "java/util/Comparator"), accessFlags := 25, slot := 4, constantValue := 0 }, { name := "LATIN1", type := .byte, accessFlags := 24, slot := 5, constantValue := 0 }, { name := "UTF16", type := .byte, accessFlags := 24, slot := 6, constantValue := 0 }]
  methods := #[k9m0, k9m1, k9m2, k9m3]
  instanceTypes := #[(.array .byte), .byte, .int, .boolean]
  staticTypes := #[.long, .boolean, (.array (.object "java/io/ObjectStreamField")), .char, (.object "java/util/Comparator"), .byte, .byte]
  resolved := Array.replicate 1451 none
  statics := some 1 }

def pool10 : Array CpInfo := pool [(4, .class_ 6), (1, u "java/lang/Object"), (0, u "<init>"), (0, u "()V"), (5, .class_ 16), (1, u "java/lang/StringLatin1"), (73, u "canEncode"), (14, u "(C)Z"), (15, u "$assertionsDisabled"), (0, u "Z"), (98, .class_ 223), (1, u "java/lang/StringLatin1$LinesSpliterator"), (57, u "equals"), (0, u "([B[B)Z"), (97, u "toBytes"), (1, u "(C)[B"), (7, .class_ 391), (0, u "java/lang/StringLatin1$CharsSpliterator")] 3

def k10m0 : Method := { name := "<init>", desc := "()V", sig := { parameters := [], returnType := none }, accessFlags := 0, code := none }
def k10c1 : Code := { maxStack := 2, maxLocals := 1, code := jdk_43_method_3_code, exceptionTable := #[], attributes := #[] }
def k10m1 : Method := { name := "canEncode", desc := "(C)Z", sig := { parameters := [.char], returnType := some .boolean }, accessFlags := 9, code := some k10c1 }
def k10c2 : Code := { maxStack := 3, maxLocals := 3, code := jdk_43_method_13_code, exceptionTable := #[], attributes := #[] }
def k10m2 : Method := { name := "equals", desc := "([B[B)Z", sig := { parameters := [(.array .byte), (.array .byte)], returnType := some .boolean }, accessFlags := 9, code := some k10c2 }
def k10c3 : Code := { maxStack := 4, maxLocals := 1, code := jdk_43_method_46_code, exceptionTable := #[], attributes := #[] }
def k10m3 : Method := { name := "toBytes", desc := "(C)[B", sig := { parameters := [.char], returnType := some (.array .byte) }, accessFlags := 9, code := some k10c3 }
/-- java/lang/StringLatin1 -/
def k10 : Class := { plain "java/lang/StringLatin1" (some 0) with
  accessFlags := 48
  interfaces := #[]
  cf := some (fileOf pool10 14 #[.nestMembers #[390, 221]] #[{ accessFlags := 0, nameIndex := 7, descriptorIndex := 8, attributes := #[] }, { accessFlags := 9, nameIndex := 90, descriptorIndex := 105, attributes := #[] }, { accessFlags := 9, nameIndex := 281, descriptorIndex := 282, attributes := #[] }, { accessFlags := 9, nameIndex := 380, descriptorIndex := 382, attributes := #[] }] 48 4 #[] #[{ accessFlags := 4120, nameIndex := 121, descriptorIndex := 122, attributes := #[] }])
  fields := #[{ name := "$assertionsDisabled", type := .boolean, accessFlags := 4120, slot := 0, constantValue := 0 }]
  methods := #[k10m0, k10m1, k10m2, k10m3]
  instanceTypes := #[]
  staticTypes := #[.boolean]
  resolved := Array.replicate 395 none
  statics := none }

def pool11 : Array CpInfo := pool [(1, .methodref 2 3), (0, .class_ 4), (0, .nameAndType 5 6), (0, u "java/lang/Object"), (0, u "<init>"), (0, u "()V"), (0, .class_ 8), (0, u "com/example/amphion/amphion/MutablePropertyValues"), (0, .methodref 7 3), (0, .fieldref 11 12), (0, .class_ 13), (0, .nameAndType 14 15), (0, u "com/example/amphion/amphion/BeanDefinition"), (0, u "propertyValues"), (0, u "Lcom/example/amphion/amphion/MutablePropertyValues;"), (0, .class_ 17), (0, u "java/util/ArrayList"), (0, .methodref 16 3), (0, .fieldref 11 20), (0, .nameAndType 21 22), (0, u "constructorArguments"), (0, u "Ljava/util/List;"), (0, .fieldref 11 24), (0, .nameAndType 25 22), (0, u "qualifiers"), (0, .interfaceMethodref 27 28), (0, .class_ 29), (0, .nameAndType 30 31), (0, u "java/util/List"), (0, u "of"), (0, u "()Ljava/util/List;"), (0, .fieldref 11 33), (0, .nameAndType 34 22), (0, u "dependsOn"), (0, .string 36), (0, u "no"), (0, .fieldref 11 38), (0, .nameAndType 39 40), (0, u "autowireMode"), (0, u "Ljava/lang/String;"), (0, .fieldref 11 42), (0, .nameAndType 43 44), (0, u "autowireCandidate"), (0, u "Z"), (0, .fieldref 11 46), (0, .nameAndType 47 40), (0, u "beanClassName"), (0, .fieldref 11 49), (0, .nameAndType 50 40), (0, u "resource"), (0, .fieldref 11 52), (0, .nameAndType 53 54), (0, u "lineNumber"), (0, u "I"), (4, u "equals"), (13, u "(Ljava/lang/Object;)Z"), (5, .nameAndType 59 73), (15, .fieldref 11 96), (0, .nameAndType 97 40), (0, u "scope"), (0, .string 99), (0, u "singleton"), (0, .methodref 11 101), (0, .nameAndType 102 103), (0, u "getScope"), (0, u "()Ljava/lang/String;"), (0, .string 105), (0, u "prototype"), (0, .methodref 107 79), (0, .class_ 108), (0, u "java/lang/String"), (2, u "lazyInit"), (2, u "parentName"), (2, u "abstractDefinition"), (2, u "primary"), (2, u "factoryBeanName"), (2, u "factoryMethodName"), (2, u "value"), (0, u "Ljava/lang/Object;"), (2, u "changeListener"), (0, u "Ljava/lang/Runnable;"), (6, u "editListener"), (13, u "()Z"), (29, u "initMethodName"), (2, u "initMethodRequired"), (2, u "destroyMethodName"), (2, u "destroyMethodRequired"), (2, u "(Ljava/lang/String;Ljava/lang/String;I)V"), (73, u "SINGLETON"), (1, u "PROTOTYPE"), (0, u "AUTOWIRE_NO"), (0, u "AUTOWIRE_BY_NAME"), (2, u "AUTOWIRE_BY_TYPE"), (2, u "AUTOWIRE_CONSTRUCTOR"), (10, u "(Ljava/lang/String;)V"), (11, u "setScope"), (0, u "isPrototype")] 74

def k11c0 : Code := { maxStack := 3, maxLocals := 4, code := prog_3_method_1_code, exceptionTable := #[], attributes := #[] }
def k11m0 : Method := { name := "<init>", desc := "(Ljava/lang/String;Ljava/lang/String;I)V", sig := { parameters := [(.object "java/lang/String"), (.object "java/lang/String"), .int], returnType := none }, accessFlags := 0, code := some k11c0 }
def k11c1 : Code := { maxStack := 1, maxLocals := 1, code := prog_3_method_10_code, exceptionTable := #[], attributes := #[] }
def k11m1 : Method := { name := "getScope", desc := "()Ljava/lang/String;", sig := { parameters := [], returnType := some (.object "java/lang/String") }, accessFlags := 1, code := some k11c1 }
def k11c2 : Code := { maxStack := 2, maxLocals := 2, code := prog_3_method_11_code, exceptionTable := #[], attributes := #[] }
def k11m2 : Method := { name := "setScope", desc := "(Ljava/lang/String;)V", sig := { parameters := [(.object "java/lang/String")], returnType := none }, accessFlags := 0, code := some k11c2 }
def k11c3 : Code := { maxStack := 2, maxLocals := 1, code := prog_3_method_12_code, exceptionTable := #[], attributes := #[] }
def k11m3 : Method := { name := "isPrototype", desc := "()Z", sig := { parameters := [], returnType := some .boolean }, accessFlags := 1, code := some k11c3 }
/-- com/example/amphion/amphion/BeanDefinition -/
def k11 : Class := { plain "com/example/amphion/amphion/BeanDefinition" (some 0) with
  accessFlags := 49
  interfaces := #[]
  cf := some (fileOf pool11 11 #[] #[{ accessFlags := 0, nameIndex := 5, descriptorIndex := 197, attributes := #[] }, { accessFlags := 1, nameIndex := 102, descriptorIndex := 103, attributes := #[] }, { accessFlags := 0, nameIndex := 304, descriptorIndex := 292, attributes := #[] }, { accessFlags := 1, nameIndex := 305, descriptorIndex := 155, attributes := #[] }] 49 2 #[] #[{ accessFlags := 24, nameIndex := 271, descriptorIndex := 40, attributes := #[] }, { accessFlags := 24, nameIndex := 273, descriptorIndex := 40, attributes := #[] }, { accessFlags := 24, nameIndex := 274, descriptorIndex := 40, attributes := #[] }, { accessFlags := 24, nameIndex := 275, descriptorIndex := 40, attributes := #[] }, { accessFlags := 24, nameIndex := 278, descriptorIndex := 40, attributes := #[] }, { accessFlags := 24, nameIndex := 281, descriptorIndex := 40, attributes := #[] }, { accessFlags := 2, nameIndex := 47, descriptorIndex := 40, attributes := #[] }, { accessFlags := 18, nameIndex := 14, descriptorIndex := 15, attributes := #[] }, { accessFlags := 18, nameIndex := 21, descriptorIndex := 22, attributes := #[] }, { accessFlags := 18, nameIndex := 25, descriptorIndex := 22, attributes := #[] }, { accessFlags := 18, nameIndex := 50, descriptorIndex := 40, attributes := #[] }, { accessFlags := 18, nameIndex := 53, descriptorIndex := 54, attributes := #[] }, { accessFlags := 2, nameIndex := 97, descriptorIndex := 40, attributes := #[] }, { accessFlags := 2, nameIndex := 111, descriptorIndex := 44, attributes := #[] }, { accessFlags := 2, nameIndex := 114, descriptorIndex := 40, attributes := #[] }, { accessFlags := 2, nameIndex := 117, descriptorIndex := 44, attributes := #[] }, { accessFlags := 2, nameIndex := 34, descriptorIndex := 22, attributes := #[] }, { accessFlags := 2, nameIndex := 39, descriptorIndex := 40, attributes := #[] }, { accessFlags := 2, nameIndex := 43, descriptorIndex := 44, attributes := #[] }, { accessFlags := 2, nameIndex := 120, descriptorIndex := 44, attributes := #[] }, { accessFlags := 2, nameIndex := 123, descriptorIndex := 40, attributes := #[] }, { accessFlags := 2, nameIndex := 126, descriptorIndex := 40, attributes := #[] }, { accessFlags := 2, nameIndex := 129, descriptorIndex := 130, attributes := #[] }, { accessFlags := 2, nameIndex := 185, descriptorIndex := 40, attributes := #[] }, { accessFlags := 2, nameIndex := 188, descriptorIndex := 44, attributes := #[] }, { accessFlags := 2, nameIndex := 191, descriptorIndex := 40, attributes := #[] }, { accessFlags := 2, nameIndex := 194, descriptorIndex := 44, attributes := #[] }, { accessFlags := 2, nameIndex := 133, descriptorIndex := 134, attributes := #[] }, { accessFlags := 2, nameIndex := 141, descriptorIndex := 134, attributes := #[] }])
  fields := #[{ name := "SINGLETON", type := (.object "java/lang/String"), accessFlags := 24, slot := 0, constantValue := 0 }, { name := "PROTOTYPE", type := (.object "java/lang/String"), accessFlags := 24, slot := 1, constantValue := 0 }, { name := "AUTOWIRE_NO", type := (.object "java/lang/String"), accessFlags := 24, slot := 2, constantValue := 0 }, { name := "AUTOWIRE_BY_NAME", type := (.object "java/lang/String"), accessFlags := 24, slot := 3, constantValue := 0 }, { name := "AUTOWIRE_BY_TYPE", type := (.object "java/lang/String"), accessFlags := 24, slot := 4, constantValue := 0 }, { name := "AUTOWIRE_CONSTRUCTOR", type := (.object "java/lang/String"), accessFlags := 24, slot := 5, constantValue := 0 }, { name := "beanClassName", type := (.object "java/lang/String"), accessFlags := 2, slot := 0, constantValue := 0 }, { name := "propertyValues", type := (.object "com/example/amphion/amphion/MutablePropertyValues"), accessFlags := 18, slot := 1, constantValue := 0 }, { name := "constructorArguments", type := (.object "java/util/List"), accessFlags := 18, slot := 2, constantValue := 0 }, { name := "qualifiers", type := (.object "java/util/List"), accessFlags := 18, slot := 3, constantValue := 0 }, { name := "resource", type := (.object "java/lang/String"), accessFlags := 18, slot := 4, constantValue := 0 }, { name := "lineNumber", type := .int, accessFlags := 18, slot := 5, constantValue := 0 }, { name := "scope", type := (.object "java/lang/String"), accessFlags := 2, slot := 6, constantValue := 0 }, { name := "lazyInit", type := .boolean, accessFlags := 2, slot := 7, constantValue := 0 }, { name := "parentName", type := (.object "java/lang/String"), accessFlags := 2, slot := 8, constantValue := 0 }, { name := "abstractDefinition", type := .boolean, accessFlags := 2, slot := 9, constantValue := 0 }, { name := "dependsOn", type := (.object "java/util/List"), accessFlags := 2, slot := 10, constantValue := 0 }, { name := "autowireMode", type := (.object "java/lang/String"), accessFlags := 2, slot := 11, constantValue := 0 }, { name := "autowireCandidate", type := .boolean, accessFlags := 2, slot := 12, constantValue := 0 }, { name := "primary", type := .boolean, accessFlags := 2, slot := 13, constantValue := 0 }, { name := "factoryBeanName", type := (.object "java/lang/String"), accessFlags := 2, slot := 14, constantValue := 0 }, { name := "factoryMethodName", type := (.object "java/lang/String"), accessFlags := 2, slot := 15, constantValue := 0 }, { name := "value", type := (.object "java/lang/Object"), accessFlags := 2, slot := 16, constantValue := 0 }, { name := "initMethodName", type := (.object "java/lang/String"), accessFlags := 2, slot := 17, constantValue := 0 }, { name := "initMethodRequired", type := .boolean, accessFlags := 2, slot := 18, constantValue := 0 }, { name := "destroyMethodName", type := (.object "java/lang/String"), accessFlags := 2, slot := 19, constantValue := 0 }, { name := "destroyMethodRequired", type := .boolean, accessFlags := 2, slot := 20, constantValue := 0 }, { name := "changeListener", type := (.object "java/lang/Runnable"), accessFlags := 2, slot := 21, constantValue := 0 }, { name := "editListener", type := (.object "java/lang/Runnable"), accessFlags := 2, slot := 22, constantValue := 0 }]
  methods := #[k11m0, k11m1, k11m2, k11m3]
  instanceTypes := #[(.object "java/lang/String"), (.object "com/example/amphion/amphion/MutablePropertyValues"), (.object "java/util/List"), (.object "java/util/List"), (.object "java/lang/String"), .int, (.object "java/lang/String"), .boolean, (.object "java/lang/String"), .boolean, (.object "java/util/List"), (.object "java/lang/String"), .boolean, .boolean, (.object "java/lang/String"), (.object "java/lang/String"), (.object "java/lang/Object"), (.object "java/lang/String"), .boolean, (.object "java/lang/String"), .boolean, (.object "java/lang/Runnable"), (.object "java/lang/Runnable")]
  staticTypes := #[(.object "java/lang/String"), (.object "java/lang/String"), (.object "java/lang/String"), (.object "java/lang/String"), (.object "java/lang/String"), (.object "java/lang/String")]
  resolved := Array.replicate 380 none
  statics := none }

def pool12 : Array CpInfo := pool [(1, .methodref 2 3), (0, .class_ 4), (0, .nameAndType 5 6), (0, u "java/lang/Object"), (0, u "<init>"), (0, u "()V"), (0, .class_ 8), (0, u "java/util/LinkedHashMap"), (0, .methodref 7 3), (0, .fieldref 11 12), (0, .class_ 13), (0, .nameAndType 14 15), (0, u "com/example/amphion/amphion/MutablePropertyValues"), (0, u "values"), (0, u "Ljava/util/Map;"), (6, .class_ 23), (0, u "com/example/amphion/amphion/MutablePropertyValues$Given"), (21, u "editListener"), (0, u "Ljava/lang/Runnable;")] 66

def k12c0 : Code := { maxStack := 3, maxLocals := 1, code := prog_60_method_1_code, exceptionTable := #[], attributes := #[] }
def k12m0 : Method := { name := "<init>", desc := "()V", sig := { parameters := [], returnType := none }, accessFlags := 1, code := some k12c0 }
/-- com/example/amphion/amphion/MutablePropertyValues -/
def k12 : Class := { plain "com/example/amphion/amphion/MutablePropertyValues" (some 0) with
  accessFlags := 49
  interfaces := #[]
  cf := some (fileOf pool12 11 #[.nestMembers #[22]] #[{ accessFlags := 1, nameIndex := 5, descriptorIndex := 6, attributes := #[] }] 49 2 #[] #[{ accessFlags := 18, nameIndex := 14, descriptorIndex := 15, attributes := #[] }, { accessFlags := 2, nameIndex := 45, descriptorIndex := 46, attributes := #[] }])
  fields := #[{ name := "values", type := (.object "java/util/Map"), accessFlags := 18, slot := 0, constantValue := 0 }, { name := "editListener", type := (.object "java/lang/Runnable"), accessFlags := 2, slot := 1, constantValue := 0 }]
  methods := #[k12m0]
  instanceTypes := #[(.object "java/util/Map"), (.object "java/lang/Runnable")]
  staticTypes := #[]
  resolved := Array.replicate 113 none
  statics := none }

def pool13 : Array CpInfo := pool [(2, .class_ 4), (1, u "java/util/Map"), (31, .class_ 37), (0, u "java/util/Map$Entry"), (55, .class_ 94), (0, u "java/lang/Object")] 168

/-- java/util/Map -/
def k13 : Class := { plain "java/util/Map" (some 0) with
  accessFlags := 1537
  interfaces := #[]
  cf := some (fileOf pool13 2 #[.nestMembers #[36]] #[] 1537 93 #[] #[])
  fields := #[]
  methods := #[]
  instanceTypes := #[]
  staticTypes := #[]
  resolved := Array.replicate 263 none
  statics := none }

def pool14 : Array CpInfo := pool [(1, .methodref 2 3), (0, .class_ 4), (0, .nameAndType 5 6), (0, u "java/lang/Object"), (0, u "<init>"), (0, u "()V"), (1, .class_ 10), (1, u "java/util/AbstractMap"), (42, .class_ 54), (0, u "java/util/Map"), (9, u "keySet"), (0, u "Ljava/util/Set;"), (0, .class_ 67), (0, u "java/util/AbstractMap$1"), (5, u "values"), (0, u "Ljava/util/Collection;"), (0, .class_ 76), (0, u "java/util/AbstractMap$2"), (104, .class_ 182), (0, u "java/util/AbstractMap$ViewCollection"), (0, .class_ 184), (0, u "java/util/AbstractMap$SimpleImmutableEntry"), (0, .class_ 186), (0, u "java/util/AbstractMap$SimpleEntry"), (0, .class_ 188), (0, u "java/util/AbstractMap$2$1"), (0, .class_ 190), (0, u "java/util/AbstractMap$1$1")] 5

def k14c0 : Code := { maxStack := 1, maxLocals := 1, code := jdk_71_method_1_code, exceptionTable := #[], attributes := #[] }
def k14m0 : Method := { name := "<init>", desc := "()V", sig := { parameters := [], returnType := none }, accessFlags := 4, code := some k14c0 }
/-- java/util/AbstractMap -/
def k14 : Class := { plain "java/util/AbstractMap" (some 0) with
  accessFlags := 1057
  interfaces := #[13]
  cf := some (fileOf pool14 8 #[.nestMembers #[181, 183, 185, 75, 187, 66, 189]] #[{ accessFlags := 4, nameIndex := 5, descriptorIndex := 6, attributes := #[] }] 1057 2 #[53] #[{ accessFlags := 128, nameIndex := 64, descriptorIndex := 65, attributes := #[] }, { accessFlags := 128, nameIndex := 73, descriptorIndex := 74, attributes := #[] }])
  fields := #[{ name := "keySet", type := (.object "java/util/Set"), accessFlags := 128, slot := 0, constantValue := 0 }, { name := "values", type := (.object "java/util/Collection"), accessFlags := 128, slot := 1, constantValue := 0 }]
  methods := #[k14m0]
  instanceTypes := #[(.object "java/util/Set"), (.object "java/util/Collection")]
  staticTypes := #[]
  resolved := Array.replicate 196 none
  statics := none }

def pool15 : Array CpInfo := pool [(1, .class_ 2), (0, u "java/lang/Cloneable"), (0, .class_ 4), (0, u "java/lang/Object")] 2

/-- java/lang/Cloneable -/
def k15 : Class := { plain "java/lang/Cloneable" (some 0) with
  accessFlags := 1537
  interfaces := #[]
  cf := some (fileOf pool15 1 #[] #[] 1537 3 #[] #[])
  fields := #[]
  methods := #[]
  instanceTypes := #[]
  staticTypes := #[]
  resolved := Array.replicate 7 none
  statics := none }

def pool16 : Array CpInfo := pool [(40, .class_ 41), (0, u "java/util/HashMap"), (1, .methodref 44 45), (0, .class_ 46), (0, .nameAndType 47 48), (0, u "java/util/AbstractMap"), (0, u "<init>"), (0, u "()V"), (32, .fieldref 40 82), (0, .nameAndType 83 84), (0, u "loadFactor"), (0, u "F"), (5, u "threshold"), (0, u "I"), (0, .float 1061158912), (8, .class_ 103), (1, u "java/util/Map"), (0, u "size"), (2, u "table"), (0, u "[Ljava/util/HashMap$Node;"), (14, u "entrySet"), (39, .class_ 165), (1, u "java/util/HashMap$Node"), (14, .class_ 181), (0, u "java/util/HashMap$TreeNode"), (22, u "modCount"), (37, u "Ljava/util/Set;"), (0, .class_ 244), (0, u "java/util/HashMap$KeySet"), (18, .class_ 264), (0, u "java/util/HashMap$Values"), (3, .class_ 269), (0, u "java/util/HashMap$EntrySet"), (76, .class_ 348), (1, u "java/util/HashMap$UnsafeHolder"), (43, .class_ 393), (0, u "java/lang/Cloneable"), (0, .class_ 395), (0, u "java/io/Serializable"), (0, u "serialVersionUID"), (0, u "J"), (3, u "DEFAULT_INITIAL_CAPACITY"), (1, u "MAXIMUM_CAPACITY"), (0, u "DEFAULT_LOAD_FACTOR"), (0, u "TREEIFY_THRESHOLD"), (1, u "UNTREEIFY_THRESHOLD"), (1, u "MIN_TREEIFY_CAPACITY"), (186, .class_ 597), (0, u "java/util/HashMap$EntrySpliterator"), (0, .class_ 599), (0, u "java/util/HashMap$ValueSpliterator"), (0, .class_ 601), (0, u "java/util/HashMap$KeySpliterator"), (0, .class_ 603), (0, u "java/util/HashMap$HashMapSpliterator"), (0, .class_ 605), (0, u "java/util/HashMap$EntryIterator"), (0, .class_ 607), (0, u "java/util/HashMap$ValueIterator"), (0, .class_ 609), (0, u "java/util/HashMap$KeyIterator"), (0, .class_ 611), (0, u "java/util/HashMap$HashIterator")] 17

def k16c0 : Code := { maxStack := 2, maxLocals := 1, code := jdk_69_method_7_code, exceptionTable := #[], attributes := #[] }
def k16m0 : Method := { name := "<init>", desc := "()V", sig := { parameters := [], returnType := none }, accessFlags := 1, code := some k16c0 }
/-- java/util/HashMap -/
def k16 : Class := { plain "java/util/HashMap" (some 14) with
  accessFlags := 33
  interfaces := #[13, 15, 4]
  cf := some (fileOf pool16 40 #[.nestMembers #[180, 596, 598, 600, 602, 604, 606, 608, 610, 346, 268, 263, 243, 163]] #[{ accessFlags := 1, nameIndex := 47, descriptorIndex := 48, attributes := #[] }] 33 44 #[101, 392, 394] #[{ accessFlags := 26, nameIndex := 396, descriptorIndex := 397, attributes := #[] }, { accessFlags := 24, nameIndex := 401, descriptorIndex := 91, attributes := #[] }, { accessFlags := 24, nameIndex := 403, descriptorIndex := 91, attributes := #[] }, { accessFlags := 24, nameIndex := 404, descriptorIndex := 84, attributes := #[] }, { accessFlags := 24, nameIndex := 405, descriptorIndex := 91, attributes := #[] }, { accessFlags := 24, nameIndex := 407, descriptorIndex := 91, attributes := #[] }, { accessFlags := 24, nameIndex := 409, descriptorIndex := 91, attributes := #[] }, { accessFlags := 128, nameIndex := 107, descriptorIndex := 108, attributes := #[] }, { accessFlags := 128, nameIndex := 123, descriptorIndex := 242, attributes := #[] }, { accessFlags := 128, nameIndex := 104, descriptorIndex := 91, attributes := #[] }, { accessFlags := 128, nameIndex := 204, descriptorIndex := 91, attributes := #[] }, { accessFlags := 0, nameIndex := 90, descriptorIndex := 91, attributes := #[] }, { accessFlags := 16, nameIndex := 83, descriptorIndex := 84, attributes := #[] }])
  fields := #[{ name := "serialVersionUID", type := .long, accessFlags := 26, slot := 0, constantValue := 0 }, { name := "DEFAULT_INITIAL_CAPACITY", type := .int, accessFlags := 24, slot := 1, constantValue := 0 }, { name := "MAXIMUM_CAPACITY", type := .int, accessFlags := 24, slot := 2, constantValue := 0 }, { name := "DEFAULT_LOAD_FACTOR", type := .float, accessFlags := 24, slot := 3, constantValue := 0 }, { name := "TREEIFY_THRESHOLD", type := .int, accessFlags := 24, slot := 4, constantValue := 0 }, { name := "UNTREEIFY_THRESHOLD", type := .int, accessFlags := 24, slot := 5, constantValue := 0 }, { name := "MIN_TREEIFY_CAPACITY", type := .int, accessFlags := 24, slot := 6, constantValue := 0 }, { name := "table", type := (.array (.object "java/util/HashMap$Node")), accessFlags := 128, slot := 2, constantValue := 0 }, { name := "entrySet", type := (.object "java/util/Set"), accessFlags := 128, slot := 3, constantValue := 0 }, { name := "size", type := .int, accessFlags := 128, slot := 4, constantValue := 0 }, { name := "modCount", type := .int, accessFlags := 128, slot := 5, constantValue := 0 }, { name := "threshold", type := .int, accessFlags := 0, slot := 6, constantValue := 0 }, { name := "loadFactor", type := .float, accessFlags := 16, slot := 7, constantValue := 0 }]
  methods := #[k16m0]
  instanceTypes := #[(.object "java/util/Set"), (.object "java/util/Collection"), (.array (.object "java/util/HashMap$Node")), (.object "java/util/Set"), .int, .int, .int, .float]
  staticTypes := #[.long, .int, .int, .float, .int, .int, .int]
  resolved := Array.replicate 629 none
  statics := none }

def pool17 : Array CpInfo := pool [(2, .class_ 4), (1, u "java/util/SequencedMap"), (38, .class_ 44), (0, u "java/util/SequencedMap$1SeqKeySet"), (3, .class_ 49), (0, u "java/util/SequencedMap$1SeqValues"), (1, .class_ 52), (0, u "java/util/SequencedMap$1SeqEntrySet"), (1, .class_ 55), (0, u "java/lang/Object"), (0, .class_ 57), (0, u "java/util/Map")] 48

/-- java/util/SequencedMap -/
def k17 : Class := { plain "java/util/SequencedMap" (some 0) with
  accessFlags := 1537
  interfaces := #[13]
  cf := some (fileOf pool17 2 #[.nestMembers #[51, 48, 43]] #[] 1537 54 #[56] #[])
  fields := #[]
  methods := #[]
  instanceTypes := #[]
  staticTypes := #[]
  resolved := Array.replicate 106 none
  statics := none }

def pool18 : Array CpInfo := pool [(1, .fieldref 2 3), (0, .class_ 4), (0, .nameAndType 5 6), (0, u "java/util/LinkedHashMap"), (0, u "putMode"), (0, u "I"), (2, u "head"), (0, u "Ljava/util/LinkedHashMap$Entry;"), (2, u "tail"), (1, .class_ 17), (1, u "java/util/LinkedHashMap$Entry"), (5, .class_ 25), (1, u "java/util/HashMap"), (1, u "()V"), (2, u "<init>"), (33, .fieldref 2 65), (0, .nameAndType 66 67), (0, u "accessOrder"), (0, u "Z"), (19, .methodref 23 88), (0, .nameAndType 30 27), (32, .class_ 122), (0, u "java/util/LinkedHashMap$LinkedKeySet"), (20, .class_ 144), (0, u "java/util/LinkedHashMap$LinkedValues"), (9, .class_ 155), (0, u "java/util/LinkedHashMap$LinkedEntrySet"), (44, .class_ 201), (0, u "java/util/LinkedHashMap$ReversedLinkedHashMapView"), (3, .class_ 206), (0, u "java/util/SequencedMap"), (0, u "serialVersionUID"), (0, u "J"), (5, u "PUT_NORM"), (1, u "PUT_FIRST"), (1, u "PUT_LAST"), (143, .class_ 363), (0, u "java/util/LinkedHashMap$LinkedEntryIterator"), (0, .class_ 365), (0, u "java/util/LinkedHashMap$LinkedValueIterator"), (0, .class_ 367), (0, u "java/util/LinkedHashMap$LinkedKeyIterator"), (0, .class_ 369), (0, u "java/util/LinkedHashMap$LinkedHashIterator")] 16

def k18c0 : Code := { maxStack := 2, maxLocals := 1, code := jdk_94_method_16_code, exceptionTable := #[], attributes := #[] }
def k18m0 : Method := { name := "<init>", desc := "()V", sig := { parameters := [], returnType := none }, accessFlags := 1, code := some k18c0 }
/-- java/util/LinkedHashMap -/
def k18 : Class := { plain "java/util/LinkedHashMap" (some 16) with
  accessFlags := 33
  interfaces := #[17]
  cf := some (fileOf pool18 2 #[.nestMembers #[200, 362, 364, 366, 368, 154, 143, 121, 15]] #[{ accessFlags := 1, nameIndex := 30, descriptorIndex := 27, attributes := #[] }] 33 23 #[205] #[{ accessFlags := 26, nameIndex := 207, descriptorIndex := 208, attributes := #[] }, { accessFlags := 128, nameIndex := 9, descriptorIndex := 10, attributes := #[] }, { accessFlags := 128, nameIndex := 13, descriptorIndex := 10, attributes := #[] }, { accessFlags := 16, nameIndex := 66, descriptorIndex := 67, attributes := #[] }, { accessFlags := 24, nameIndex := 214, descriptorIndex := 6, attributes := #[] }, { accessFlags := 24, nameIndex := 216, descriptorIndex := 6, attributes := #[] }, { accessFlags := 24, nameIndex := 218, descriptorIndex := 6, attributes := #[] }, { accessFlags := 128, nameIndex := 5, descriptorIndex := 6, attributes := #[] }])
  fields := #[{ name := "serialVersionUID", type := .long, accessFlags := 26, slot := 0, constantValue := 0 }, { name := "head", type := (.object "java/util/LinkedHashMap$Entry"), accessFlags := 128, slot := 8, constantValue := 0 }, { name := "tail", type := (.object "java/util/LinkedHashMap$Entry"), accessFlags := 128, slot := 9, constantValue := 0 }, { name := "accessOrder", type := .boolean, accessFlags := 16, slot := 10, constantValue := 0 }, { name := "PUT_NORM", type := .int, accessFlags := 24, slot := 1, constantValue := 0 }, { name := "PUT_FIRST", type := .int, accessFlags := 24, slot := 2, constantValue := 0 }, { name := "PUT_LAST", type := .int, accessFlags := 24, slot := 3, constantValue := 0 }, { name := "putMode", type := .int, accessFlags := 128, slot := 11, constantValue := 0 }]
  methods := #[k18m0]
  instanceTypes := #[(.object "java/util/Set"), (.object "java/util/Collection"), (.array (.object "java/util/HashMap$Node")), (.object "java/util/Set"), .int, .int, .int, .float, (.object "java/util/LinkedHashMap$Entry"), (.object "java/util/LinkedHashMap$Entry"), .boolean, .int]
  staticTypes := #[.long, .int, .int, .int]
  resolved := Array.replicate 386 none
  statics := none }

def pool19 : Array CpInfo := pool [(8, .class_ 10), (1, u "java/lang/Iterable"), (24, .class_ 36), (0, u "java/lang/Object")] 25

/-- java/lang/Iterable -/
def k19 : Class := { plain "java/lang/Iterable" (some 0) with
  accessFlags := 1537
  interfaces := #[]
  cf := some (fileOf pool19 8 #[] #[] 1537 35 #[] #[])
  fields := #[]
  methods := #[]
  instanceTypes := #[]
  staticTypes := #[]
  resolved := Array.replicate 62 none
  statics := none }

def pool20 : Array CpInfo := pool [(10, .class_ 12), (1, u "java/util/Collection"), (47, .class_ 61), (0, u "java/lang/Object"), (0, .class_ 63), (0, u "java/lang/Iterable")] 51

/-- java/util/Collection -/
def k20 : Class := { plain "java/util/Collection" (some 0) with
  accessFlags := 1537
  interfaces := #[19]
  cf := some (fileOf pool20 10 #[] #[] 1537 60 #[62] #[])
  fields := #[]
  methods := #[]
  instanceTypes := #[]
  staticTypes := #[]
  resolved := Array.replicate 115 none
  statics := none }

def pool21 : Array CpInfo := pool [(1, .methodref 2 3), (0, .class_ 4), (0, .nameAndType 5 6), (0, u "java/lang/Object"), (0, u "<init>"), (0, u "()V"), (1, .class_ 10), (1, u "java/util/AbstractCollection"), (66, .class_ 78), (0, u "java/util/Collection")] 81

def k21c0 : Code := { maxStack := 1, maxLocals := 1, code := jdk_22_method_1_code, exceptionTable := #[], attributes := #[] }
def k21m0 : Method := { name := "<init>", desc := "()V", sig := { parameters := [], returnType := none }, accessFlags := 4, code := some k21c0 }
/-- java/util/AbstractCollection -/
def k21 : Class := { plain "java/util/AbstractCollection" (some 0) with
  accessFlags := 1057
  interfaces := #[20]
  cf := some (fileOf pool21 8 #[] #[{ accessFlags := 4, nameIndex := 5, descriptorIndex := 6, attributes := #[] }] 1057 2 #[77] #[])
  fields := #[]
  methods := #[k21m0]
  instanceTypes := #[]
  staticTypes := #[]
  resolved := Array.replicate 160 none
  statics := none }

def pool22 : Array CpInfo := pool [(8, .class_ 10), (1, u "java/util/SequencedCollection"), (15, .class_ 27), (0, u "java/lang/Object"), (0, .class_ 29), (0, u "java/util/Collection")] 27

/-- java/util/SequencedCollection -/
def k22 : Class := { plain "java/util/SequencedCollection" (some 0) with
  accessFlags := 1537
  interfaces := #[20]
  cf := some (fileOf pool22 8 #[] #[] 1537 26 #[28] #[])
  fields := #[]
  methods := #[]
  instanceTypes := #[]
  staticTypes := #[]
  resolved := Array.replicate 57 none
  statics := none }

def pool23 : Array CpInfo := pool [(8, .class_ 10), (1, u "java/util/List"), (77, u "of"), (1, .fieldref 91 92), (0, .class_ 93), (0, .nameAndType 94 95), (0, u "java/util/ImmutableCollections"), (0, u "EMPTY_LIST"), (0, u "Ljava/util/ImmutableCollections$ListN;"), (7, .class_ 104), (0, u "java/lang/Object"), (14, u "()Ljava/util/List;"), (0, .class_ 121), (0, u "java/util/SequencedCollection")] 129

def k23c0 : Code := { maxStack := 1, maxLocals := 0, code := jdk_40_method_36_code, exceptionTable := #[], attributes := #[] }
def k23m0 : Method := { name := "of", desc := "()Ljava/util/List;", sig := { parameters := [], returnType := some (.object "java/util/List") }, accessFlags := 9, code := some k23c0 }
/-- java/util/List -/
def k23 : Class := { plain "java/util/List" (some 0) with
  accessFlags := 1537
  interfaces := #[22]
  cf := some (fileOf pool23 8 #[] #[{ accessFlags := 9, nameIndex := 88, descriptorIndex := 119, attributes := #[] }] 1537 103 #[120] #[])
  fields := #[]
  methods := #[k23m0]
  instanceTypes := #[]
  staticTypes := #[]
  resolved := Array.replicate 251 none
  statics := none }

def pool24 : Array CpInfo := pool [(1, .methodref 2 3), (0, .class_ 4), (0, .nameAndType 5 6), (0, u "java/util/AbstractCollection"), (0, u "<init>"), (0, u "()V"), (0, .fieldref 8 9), (0, .class_ 10), (0, .nameAndType 11 12), (0, u "java/util/AbstractList"), (0, u "modCount"), (0, u "I"), (64, .class_ 78), (0, u "java/util/AbstractList$Itr"), (3, .class_ 83), (0, u "java/util/AbstractList$ListItr"), (9, .class_ 94), (0, u "java/util/AbstractList$RandomAccessSubList"), (3, .class_ 99), (0, u "java/util/AbstractList$SubList"), (33, .class_ 134), (0, u "java/util/List"), (73, .class_ 209), (0, u "java/util/AbstractList$SubList$1"), (0, .class_ 211), (0, u "java/util/AbstractList$RandomAccessSpliterator")] 6

def k24c0 : Code := { maxStack := 2, maxLocals := 1, code := jdk_39_method_1_code, exceptionTable := #[], attributes := #[] }
def k24m0 : Method := { name := "<init>", desc := "()V", sig := { parameters := [], returnType := none }, accessFlags := 4, code := some k24c0 }
/-- java/util/AbstractList -/
def k24 : Class := { plain "java/util/AbstractList" (some 21) with
  accessFlags := 1057
  interfaces := #[23]
  cf := some (fileOf pool24 8 #[.nestMembers #[93, 98, 208, 210, 82, 77]] #[{ accessFlags := 4, nameIndex := 5, descriptorIndex := 6, attributes := #[] }] 1057 2 #[133] #[{ accessFlags := 132, nameIndex := 11, descriptorIndex := 12, attributes := #[] }])
  fields := #[{ name := "modCount", type := .int, accessFlags := 132, slot := 0, constantValue := 0 }]
  methods := #[k24m0]
  instanceTypes := #[.int]
  staticTypes := #[]
  resolved := Array.replicate 218 none
  statics := none }

def pool25 : Array CpInfo := pool [(1, .class_ 2), (0, u "java/util/RandomAccess"), (0, .class_ 4), (0, u "java/lang/Object")] 2

/-- java/util/RandomAccess -/
def k25 : Class := { plain "java/util/RandomAccess" (some 0) with
  accessFlags := 1537
  interfaces := #[]
  cf := some (fileOf pool25 1 #[] #[] 1537 3 #[] #[])
  fields := #[]
  methods := #[]
  instanceTypes := #[]
  staticTypes := #[]
  resolved := Array.replicate 7 none
  statics := none }

def pool26 : Array CpInfo := pool [(1, .methodref 2 3), (0, .class_ 4), (0, .nameAndType 5 6), (0, u "java/util/AbstractList"), (0, u "<init>"), (0, u "()V"), (2, .fieldref 10 11), (0, .class_ 12), (0, .nameAndType 13 14), (0, u "java/util/ArrayList"), (0, u "elementData"), (0, u "[Ljava/lang/Object;"), (2, u "EMPTY_ELEMENTDATA"), (21, .fieldref 10 40), (0, .nameAndType 41 14), (0, u "DEFAULTCAPACITY_EMPTY_ELEMENTDATA"), (8, u "size"), (0, u "I"), (96, .class_ 149), (0, u "java/util/List"), (112, .class_ 263), (0, u "java/util/ArrayList$ListItr"), (3, .class_ 268), (0, u "java/util/ArrayList$Itr"), (7, .class_ 277), (0, u "java/util/ArrayList$SubList"), (12, .class_ 291), (0, u "java/util/ArrayList$ArrayListSpliterator"), (37, .class_ 330), (0, u "java/util/RandomAccess"), (0, .class_ 332), (0, u "java/lang/Cloneable"), (0, .class_ 334), (0, u "java/io/Serializable"), (0, u "serialVersionUID"), (0, u "J"), (3, u "DEFAULT_CAPACITY"), (159, .class_ 501), (0, u "java/util/ArrayList$SubList$2"), (0, .class_ 503), (0, u "java/util/ArrayList$SubList$1")] 5

def k26c0 : Code := { maxStack := 2, maxLocals := 1, code := jdk_38_method_2_code, exceptionTable := #[], attributes := #[] }
def k26m0 : Method := { name := "<init>", desc := "()V", sig := { parameters := [], returnType := none }, accessFlags := 1, code := some k26c0 }
/-- java/util/ArrayList -/
def k26 : Class := { plain "java/util/ArrayList" (some 24) with
  accessFlags := 33
  interfaces := #[23, 25, 15, 4]
  cf := some (fileOf pool26 10 #[.nestMembers #[290, 276, 500, 502, 262, 267]] #[{ accessFlags := 1, nameIndex := 5, descriptorIndex := 6, attributes := #[] }] 33 2 #[148, 329, 331, 333] #[{ accessFlags := 26, nameIndex := 335, descriptorIndex := 336, attributes := #[] }, { accessFlags := 26, nameIndex := 340, descriptorIndex := 51, attributes := #[] }, { accessFlags := 26, nameIndex := 17, descriptorIndex := 14, attributes := #[] }, { accessFlags := 26, nameIndex := 41, descriptorIndex := 14, attributes := #[] }, { accessFlags := 128, nameIndex := 13, descriptorIndex := 14, attributes := #[] }, { accessFlags := 2, nameIndex := 50, descriptorIndex := 51, attributes := #[] }])
  fields := #[{ name := "serialVersionUID", type := .long, accessFlags := 26, slot := 0, constantValue := 0 }, { name := "DEFAULT_CAPACITY", type := .int, accessFlags := 26, slot := 1, constantValue := 0 }, { name := "EMPTY_ELEMENTDATA", type := (.array (.object "java/lang/Object")), accessFlags := 26, slot := 2, constantValue := 0 }, { name := "DEFAULTCAPACITY_EMPTY_ELEMENTDATA", type := (.array (.object "java/lang/Object")), accessFlags := 26, slot := 3, constantValue := 0 }, { name := "elementData", type := (.array (.object "java/lang/Object")), accessFlags := 128, slot := 1, constantValue := 0 }, { name := "size", type := .int, accessFlags := 2, slot := 2, constantValue := 0 }]
  methods := #[k26m0]
  instanceTypes := #[.int, (.array (.object "java/lang/Object")), .int]
  staticTypes := #[.long, .int, (.array (.object "java/lang/Object")), (.array (.object "java/lang/Object"))]
  resolved := Array.replicate 509 none
  statics := some 2 }

def pool27 : Array CpInfo := pool [(2, .class_ 4), (1, u "java/lang/Object"), (0, u "<init>"), (0, u "()V"), (3, .class_ 11), (0, u "java/util/ImmutableCollections$List12"), (0, .class_ 13), (0, u "java/util/ImmutableCollections$ListN"), (3, u "Z"), (29, .class_ 49), (1, u "java/util/ImmutableCollections"), (0, u "$assertionsDisabled"), (5, u "[Ljava/lang/Object;"), (5, u "EMPTY_LIST"), (0, u "Ljava/util/ImmutableCollections$ListN;"), (8, u "EMPTY_LIST_NULLS"), (22, u "SALT32L"), (0, u "J"), (2, u "REVERSE"), (6, u "archivedObjects"), (2, u "EMPTY"), (0, u "Ljava/lang/Object;"), (0, .class_ 112), (0, u "java/util/ImmutableCollections$SetN"), (5, u "EMPTY_SET"), (0, u "Ljava/util/ImmutableCollections$SetN;"), (0, .class_ 121), (0, u "java/util/ImmutableCollections$MapN"), (3, u "EMPTY_MAP"), (0, u "Ljava/util/ImmutableCollections$MapN;"), (4, u "EXPAND_FACTOR"), (0, u "I"), (36, .class_ 170), (0, u "java/util/ImmutableCollections$MapN$MapNIterator"), (0, .class_ 172), (0, u "java/util/ImmutableCollections$MapN$1"), (0, .class_ 174), (0, u "java/util/ImmutableCollections$Map1"), (0, .class_ 176), (0, u "java/util/ImmutableCollections$AbstractImmutableMap"), (0, .class_ 178), (0, u "java/util/ImmutableCollections$SetN$SetNIterator"), (0, .class_ 180), (0, u "java/util/ImmutableCollections$Set12"), (0, .class_ 182), (0, u "java/util/ImmutableCollections$Set12$1"), (0, .class_ 184), (0, u "java/util/ImmutableCollections$AbstractImmutableSet"), (0, .class_ 186), (0, u "java/util/ImmutableCollections$SubList"), (0, .class_ 188), (0, u "java/util/ImmutableCollections$ListItr"), (0, .class_ 190), (0, u "java/util/ImmutableCollections$AbstractImmutableList"), (0, .class_ 192), (0, u "java/util/ImmutableCollections$AbstractImmutableCollection"), (0, .class_ 194), (0, u "java/util/ImmutableCollections$Access"), (0, .class_ 196), (0, u "java/util/ImmutableCollections$Access$1")] 16

def k27m0 : Method := { name := "<init>", desc := "()V", sig := { parameters := [], returnType := none }, accessFlags := 2, code := none }
/-- java/util/ImmutableCollections -/
def k27 : Class := { plain "java/util/ImmutableCollections" (some 0) with
  accessFlags := 32
  interfaces := #[]
  cf := some (fileOf pool27 47 #[.nestMembers #[120, 169, 171, 173, 175, 111, 177, 179, 181, 183, 12, 10, 185, 187, 189, 191, 193, 195]] #[{ accessFlags := 2, nameIndex := 5, descriptorIndex := 6, attributes := #[] }] 32 2 #[] #[{ accessFlags := 26, nameIndex := 95, descriptorIndex := 96, attributes := #[] }, { accessFlags := 26, nameIndex := 99, descriptorIndex := 17, attributes := #[] }, { accessFlags := 10, nameIndex := 106, descriptorIndex := 56, attributes := #[] }, { accessFlags := 26, nameIndex := 109, descriptorIndex := 110, attributes := #[] }, { accessFlags := 24, nameIndex := 62, descriptorIndex := 63, attributes := #[] }, { accessFlags := 24, nameIndex := 72, descriptorIndex := 63, attributes := #[] }, { accessFlags := 24, nameIndex := 118, descriptorIndex := 119, attributes := #[] }, { accessFlags := 24, nameIndex := 125, descriptorIndex := 126, attributes := #[] }, { accessFlags := 24, nameIndex := 131, descriptorIndex := 132, attributes := #[] }, { accessFlags := 4120, nameIndex := 50, descriptorIndex := 17, attributes := #[] }])
  fields := #[{ name := "SALT32L", type := .long, accessFlags := 26, slot := 0, constantValue := 0 }, { name := "REVERSE", type := .boolean, accessFlags := 26, slot := 1, constantValue := 0 }, { name := "archivedObjects", type := (.array (.object "java/lang/Object")), accessFlags := 10, slot := 2, constantValue := 0 }, { name := "EMPTY", type := (.object "java/lang/Object"), accessFlags := 26, slot := 3, constantValue := 0 }, { name := "EMPTY_LIST", type := (.object "java/util/ImmutableCollections$ListN"), accessFlags := 24, slot := 4, constantValue := 0 }, { name := "EMPTY_LIST_NULLS", type := (.object "java/util/ImmutableCollections$ListN"), accessFlags := 24, slot := 5, constantValue := 0 }, { name := "EMPTY_SET", type := (.object "java/util/ImmutableCollections$SetN"), accessFlags := 24, slot := 6, constantValue := 0 }, { name := "EMPTY_MAP", type := (.object "java/util/ImmutableCollections$MapN"), accessFlags := 24, slot := 7, constantValue := 0 }, { name := "EXPAND_FACTOR", type := .int, accessFlags := 24, slot := 8, constantValue := 0 }, { name := "$assertionsDisabled", type := .boolean, accessFlags := 4120, slot := 9, constantValue := 0 }]
  methods := #[k27m0]
  instanceTypes := #[]
  staticTypes := #[.long, .boolean, (.array (.object "java/lang/Object")), (.object "java/lang/Object"), (.object "java/util/ImmutableCollections$ListN"), (.object "java/util/ImmutableCollections$ListN"), (.object "java/util/ImmutableCollections$SetN"), (.object "java/util/ImmutableCollections$MapN"), .int, .boolean]
  resolved := Array.replicate 213 none
  statics := some 3 }

def pool28 : Array CpInfo := pool [(1, .methodref 2 3), (0, .class_ 4), (0, .nameAndType 5 6), (0, u "java/lang/Object"), (0, u "<init>"), (0, u "()V"), (0, .class_ 8), (0, u "java/lang/Record")] 13

def k28c0 : Code := { maxStack := 1, maxLocals := 1, code := jdk_30_method_1_code, exceptionTable := #[], attributes := #[] }
def k28m0 : Method := { name := "<init>", desc := "()V", sig := { parameters := [], returnType := none }, accessFlags := 4, code := some k28c0 }
/-- java/lang/Record -/
def k28 : Class := { plain "java/lang/Record" (some 0) with
  accessFlags := 1057
  interfaces := #[]
  cf := some (fileOf pool28 7 #[] #[{ accessFlags := 4, nameIndex := 5, descriptorIndex := 6, attributes := #[] }] 1057 2 #[] #[])
  fields := #[]
  methods := #[k28m0]
  instanceTypes := #[]
  staticTypes := #[]
  resolved := Array.replicate 22 none
  statics := none }

def pool29 : Array CpInfo := pool [(1, .methodref 2 3), (0, .class_ 4), (0, .nameAndType 5 6), (0, u "java/lang/Record"), (0, u "<init>"), (0, u "()V"), (0, .fieldref 8 9), (0, .class_ 10), (0, .nameAndType 11 12), (0, u "com/example/amphion/amphion/Making"), (0, u "name"), (0, u "Ljava/lang/String;"), (0, .fieldref 8 14), (0, .nameAndType 15 16), (0, u "definition"), (0, u "Lcom/example/amphion/amphion/BeanDefinition;"), (0, .fieldref 8 18), (0, .nameAndType 19 20), (0, u "kept"), (0, u "Z"), (0, .fieldref 8 22), (0, .nameAndType 23 24), (0, u "purpose"), (0, u "Lcom/example/amphion/amphion/Making$Purpose;"), (0, .fieldref 8 26), (0, .nameAndType 27 16), (0, u "inner"), (0, .methodref 29 30), (0, .class_ 31), (0, .nameAndType 32 33), (0, u "com/example/amphion/amphion/BeanDefinition"), (0, u "isPrototype"), (0, u "()Z"), (0, .fieldref 35 36), (0, .class_ 37), (0, .nameAndType 38 24), (0, u "com/example/amphion/amphion/Making$Purpose"), (0, u "SERVED"), (0, .methodref 8 40), (0, .nameAndType 5 41), (0, u "(Ljava/lang/String;Lcom/example/amphion/amphion/BeanDefinition;ZLcom/example/amphion/amphion/Making$Purpose;Lcom/example/amphion/amphion/BeanDefinition;)V"), (0, .fieldref 35 43), (0, .nameAndType 44 24), (0, u "TYPE_CHECK"), (16, u "INNER_SUFFIX"), (6, u "of"), (0, u "(Ljava/lang/String;Lcom/example/amphion/amphion/BeanDefinition;)Lcom/example/amphion/amphion/Making;"), (3, u "forTypeCheck"), (1, u "(Ljava/lang/String;Lcom/example/amphion/amphion/BeanDefinition;Lcom/example/amphion/amphion/BeanDefinition;)Lcom/example/amphion/amphion/Making;"), (1, u "takesUnfinished")] 39

def k29c0 : Code := { maxStack := 2, maxLocals := 6, code := prog_50_method_1_code, exceptionTable := #[], attributes := #[] }
def k29m0 : Method := { name := "<init>", desc := "(Ljava/lang/String;Lcom/example/amphion/amphion/BeanDefinition;ZLcom/example/amphion/amphion/Making$Purpose;Lcom/example/amphion/amphion/BeanDefinition;)V", sig := { parameters := [(.object "java/lang/String"), (.object "com/example/amphion/amphion/BeanDefinition"), .boolean, (.object "com/example/amphion/amphion/Making$Purpose"), (.object "com/example/amphion/amphion/BeanDefinition")], returnType := none }, accessFlags := 0, code := some k29c0 }
def k29c1 : Code := { maxStack := 7, maxLocals := 2, code := prog_50_method_2_code, exceptionTable := #[], attributes := #[] }
def k29m1 : Method := { name := "of", desc := "(Ljava/lang/String;Lcom/example/amphion/amphion/BeanDefinition;)Lcom/example/amphion/amphion/Making;", sig := { parameters := [(.object "java/lang/String"), (.object "com/example/amphion/amphion/BeanDefinition")], returnType := some (.object "com/example/amphion/amphion/Making") }, accessFlags := 8, code := some k29c1 }
def k29c2 : Code := { maxStack := 7, maxLocals := 2, code := prog_50_method_3_code, exceptionTable := #[], attributes := #[] }
def k29m2 : Method := { name := "forTypeCheck", desc := "(Ljava/lang/String;Lcom/example/amphion/amphion/BeanDefinition;)Lcom/example/amphion/amphion/Making;", sig := { parameters := [(.object "java/lang/String"), (.object "com/example/amphion/amphion/BeanDefinition")], returnType := some (.object "com/example/amphion/amphion/Making") }, accessFlags := 8, code := some k29c2 }
def k29c3 : Code := { maxStack := 7, maxLocals := 4, code := prog_50_method_5_code, exceptionTable := #[], attributes := #[] }
def k29m3 : Method := { name := "inner", desc := "(Ljava/lang/String;Lcom/example/amphion/amphion/BeanDefinition;Lcom/example/amphion/amphion/BeanDefinition;)Lcom/example/amphion/amphion/Making;", sig := { parameters := [(.object "java/lang/String"), (.object "com/example/amphion/amphion/BeanDefinition"), (.object "com/example/amphion/amphion/BeanDefinition")], returnType := some (.object "com/example/amphion/amphion/Making") }, accessFlags := 0, code := some k29c3 }
def k29c4 : Code := { maxStack := 2, maxLocals := 1, code := prog_50_method_7_code, exceptionTable := #[], attributes := #[] }
def k29m4 : Method := { name := "takesUnfinished", desc := "()Z", sig := { parameters := [], returnType := some .boolean }, accessFlags := 0, code := some k29c4 }
/-- com/example/amphion/amphion/Making -/
def k29 : Class := { plain "com/example/amphion/amphion/Making" (some 28) with
  accessFlags := 48
  interfaces := #[]
  cf := some (fileOf pool29 8 #[.nestMembers #[35]] #[{ accessFlags := 0, nameIndex := 5, descriptorIndex := 41, attributes := #[] }, { accessFlags := 8, nameIndex := 68, descriptorIndex := 69, attributes := #[] }, { accessFlags := 8, nameIndex := 73, descriptorIndex := 69, attributes := #[] }, { accessFlags := 0, nameIndex := 27, descriptorIndex := 75, attributes := #[] }, { accessFlags := 0, nameIndex := 77, descriptorIndex := 33, attributes := #[] }] 48 2 #[] #[{ accessFlags := 18, nameIndex := 11, descriptorIndex := 12, attributes := #[] }, { accessFlags := 18, nameIndex := 15, descriptorIndex := 16, attributes := #[] }, { accessFlags := 18, nameIndex := 19, descriptorIndex := 20, attributes := #[] }, { accessFlags := 18, nameIndex := 23, descriptorIndex := 24, attributes := #[] }, { accessFlags := 18, nameIndex := 27, descriptorIndex := 16, attributes := #[] }, { accessFlags := 26, nameIndex := 61, descriptorIndex := 12, attributes := #[] }])
  fields := #[{ name := "name", type := (.object "java/lang/String"), accessFlags := 18, slot := 0, constantValue := 0 }, { name := "definition", type := (.object "com/example/amphion/amphion/BeanDefinition"), accessFlags := 18, slot := 1, constantValue := 0 }, { name := "kept", type := .boolean, accessFlags := 18, slot := 2, constantValue := 0 }, { name := "purpose", type := (.object "com/example/amphion/amphion/Making$Purpose"), accessFlags := 18, slot := 3, constantValue := 0 }, { name := "inner", type := (.object "com/example/amphion/amphion/BeanDefinition"), accessFlags := 18, slot := 4, constantValue := 0 }, { name := "INNER_SUFFIX", type := (.object "java/lang/String"), accessFlags := 26, slot := 0, constantValue := 0 }]
  methods := #[k29m0, k29m1, k29m2, k29m3, k29m4]
  instanceTypes := #[(.object "java/lang/String"), (.object "com/example/amphion/amphion/BeanDefinition"), .boolean, (.object "com/example/amphion/amphion/Making$Purpose"), (.object "com/example/amphion/amphion/BeanDefinition")]
  staticTypes := #[(.object "java/lang/String")]
  resolved := Array.replicate 117 none
  statics := none }

def pool30 : Array CpInfo := pool [(2, .class_ 4), (1, u "java/lang/Object"), (0, u "<init>"), (0, u "()V"), (17, .class_ 26), (1, u "jdk/internal/util/Preconditions"), (28, .class_ 56), (0, u "jdk/internal/util/Preconditions$4"), (57, .class_ 115), (0, u "jdk/internal/util/Preconditions$1"), (7, u "SIOOBE_FORMATTER"), (0, u "Ljava/util/function/BiFunction;"), (0, .class_ 126), (0, u "jdk/internal/util/Preconditions$2"), (3, u "AIOOBE_FORMATTER"), (0, .class_ 132), (0, u "jdk/internal/util/Preconditions$3"), (3, u "IOOBE_FORMATTER")] 57

def k30m0 : Method := { name := "<init>", desc := "()V", sig := { parameters := [], returnType := none }, accessFlags := 1, code := none }
/-- jdk/internal/util/Preconditions -/
def k30 : Class := { plain "jdk/internal/util/Preconditions" (some 0) with
  accessFlags := 33
  interfaces := #[]
  cf := some (fileOf pool30 24 #[.nestMembers #[55, 131, 125, 114]] #[{ accessFlags := 1, nameIndex := 5, descriptorIndex := 6, attributes := #[] }] 33 2 #[] #[{ accessFlags := 25, nameIndex := 123, descriptorIndex := 124, attributes := #[] }, { accessFlags := 25, nameIndex := 130, descriptorIndex := 124, attributes := #[] }, { accessFlags := 25, nameIndex := 136, descriptorIndex := 124, attributes := #[] }])
  fields := #[{ name := "SIOOBE_FORMATTER", type := (.object "java/util/function/BiFunction"), accessFlags := 25, slot := 0, constantValue := 0 }, { name := "AIOOBE_FORMATTER", type := (.object "java/util/function/BiFunction"), accessFlags := 25, slot := 1, constantValue := 0 }, { name := "IOOBE_FORMATTER", type := (.object "java/util/function/BiFunction"), accessFlags := 25, slot := 2, constantValue := 0 }]
  methods := #[k30m0]
  instanceTypes := #[]
  staticTypes := #[(.object "java/util/function/BiFunction"), (.object "java/util/function/BiFunction"), (.object "java/util/function/BiFunction")]
  resolved := Array.replicate 194 none
  statics := some 4 }

def pool31 : Array CpInfo := pool [(9, u "<init>"), (6, .class_ 18), (1, u "java/lang/Object"), (0, u "()V"), (1, .class_ 23), (1, u "jdk/internal/util/ArraysSupport"), (0, u "LOG2_ARRAY_LONG_INDEX_SCALE"), (0, u "I"), (2, u "U"), (0, u "Ljdk/internal/misc/Unsafe;"), (8, u "BIG_ENDIAN"), (0, u "Z"), (8, u "LOG2_BYTE_BIT_SIZE"), (4, u "LOG2_ARRAY_INT_INDEX_SCALE"), (54, u "JLA"), (0, u "Ljdk/internal/access/JavaLangAccess;"), (11, u "LOG2_ARRAY_BOOLEAN_INDEX_SCALE"), (9, u "LOG2_ARRAY_BYTE_INDEX_SCALE"), (5, u "LOG2_ARRAY_CHAR_INDEX_SCALE"), (5, u "LOG2_ARRAY_SHORT_INDEX_SCALE"), (18, u "LOG2_ARRAY_FLOAT_INDEX_SCALE"), (24, u "LOG2_ARRAY_DOUBLE_INDEX_SCALE"), (89, u "T_BOOLEAN"), (2, u "T_CHAR"), (1, u "T_FLOAT"), (1, u "T_DOUBLE"), (1, u "T_BYTE"), (1, u "T_SHORT"), (1, u "T_INT"), (1, u "T_LONG"), (1, u "SOFT_MAX_ARRAY_LENGTH")] 83

def k31m0 : Method := { name := "<init>", desc := "()V", sig := { parameters := [], returnType := none }, accessFlags := 2, code := none }
/-- jdk/internal/util/ArraysSupport -/
def k31 : Class := { plain "jdk/internal/util/ArraysSupport" (some 0) with
  accessFlags := 33
  interfaces := #[]
  cf := some (fileOf pool31 21 #[] #[{ accessFlags := 2, nameIndex := 9, descriptorIndex := 19, attributes := #[] }] 33 16 #[] #[{ accessFlags := 24, nameIndex := 28, descriptorIndex := 29, attributes := #[] }, { accessFlags := 26, nameIndex := 38, descriptorIndex := 39, attributes := #[] }, { accessFlags := 25, nameIndex := 121, descriptorIndex := 25, attributes := #[] }, { accessFlags := 25, nameIndex := 131, descriptorIndex := 25, attributes := #[] }, { accessFlags := 25, nameIndex := 137, descriptorIndex := 25, attributes := #[] }, { accessFlags := 25, nameIndex := 143, descriptorIndex := 25, attributes := #[] }, { accessFlags := 25, nameIndex := 53, descriptorIndex := 25, attributes := #[] }, { accessFlags := 25, nameIndex := 24, descriptorIndex := 25, attributes := #[] }, { accessFlags := 25, nameIndex := 162, descriptorIndex := 25, attributes := #[] }, { accessFlags := 25, nameIndex := 187, descriptorIndex := 25, attributes := #[] }, { accessFlags := 26, nameIndex := 48, descriptorIndex := 25, attributes := #[] }, { accessFlags := 25, nameIndex := 277, descriptorIndex := 25, attributes := #[] }, { accessFlags := 25, nameIndex := 280, descriptorIndex := 25, attributes := #[] }, { accessFlags := 25, nameIndex := 282, descriptorIndex := 25, attributes := #[] }, { accessFlags := 25, nameIndex := 284, descriptorIndex := 25, attributes := #[] }, { accessFlags := 25, nameIndex := 286, descriptorIndex := 25, attributes := #[] }, { accessFlags := 25, nameIndex := 288, descriptorIndex := 25, attributes := #[] }, { accessFlags := 25, nameIndex := 290, descriptorIndex := 25, attributes := #[] }, { accessFlags := 25, nameIndex := 292, descriptorIndex := 25, attributes := #[] }, { accessFlags := 26, nameIndex := 108, descriptorIndex := 109, attributes := #[] }, { accessFlags := 25, nameIndex := 294, descriptorIndex := 25, attributes := #[] }])
  fields := #[{ name := "U", type := (.object "jdk/internal/misc/Unsafe"), accessFlags := 24, slot := 0, constantValue := 0 }, { name := "BIG_ENDIAN", type := .boolean, accessFlags := 26, slot := 1, constantValue := 0 }, { name := "LOG2_ARRAY_BOOLEAN_INDEX_SCALE", type := .int, accessFlags := 25, slot := 2, constantValue := 0 }, { name := "LOG2_ARRAY_BYTE_INDEX_SCALE", type := .int, accessFlags := 25, slot := 3, constantValue := 0 }, { name := "LOG2_ARRAY_CHAR_INDEX_SCALE", type := .int, accessFlags := 25, slot := 4, constantValue := 0 }, { name := "LOG2_ARRAY_SHORT_INDEX_SCALE", type := .int, accessFlags := 25, slot := 5, constantValue := 0 }, { name := "LOG2_ARRAY_INT_INDEX_SCALE", type := .int, accessFlags := 25, slot := 6, constantValue := 0 }, { name := "LOG2_ARRAY_LONG_INDEX_SCALE", type := .int, accessFlags := 25, slot := 7, constantValue := 0 }, { name := "LOG2_ARRAY_FLOAT_INDEX_SCALE", type := .int, accessFlags := 25, slot := 8, constantValue := 0 }, { name := "LOG2_ARRAY_DOUBLE_INDEX_SCALE", type := .int, accessFlags := 25, slot := 9, constantValue := 0 }, { name := "LOG2_BYTE_BIT_SIZE", type := .int, accessFlags := 26, slot := 10, constantValue := 0 }, { name := "T_BOOLEAN", type := .int, accessFlags := 25, slot := 11, constantValue := 0 }, { name := "T_CHAR", type := .int, accessFlags := 25, slot := 12, constantValue := 0 }, { name := "T_FLOAT", type := .int, accessFlags := 25, slot := 13, constantValue := 0 }, { name := "T_DOUBLE", type := .int, accessFlags := 25, slot := 14, constantValue := 0 }, { name := "T_BYTE", type := .int, accessFlags := 25, slot := 15, constantValue := 0 }, { name := "T_SHORT", type := .int, accessFlags := 25, slot := 16, constantValue := 0 }, { name := "T_INT", type := .int, accessFlags := 25, slot := 17, constantValue := 0 }, { name := "T_LONG", type := .int, accessFlags := 25, slot := 18, constantValue := 0 }, { name := "JLA", type := (.object "jdk/internal/access/JavaLangAccess"), accessFlags := 26, slot := 19, constantValue := 0 }, { name := "SOFT_MAX_ARRAY_LENGTH", type := .int, accessFlags := 25, slot := 20, constantValue := 0 }]
  methods := #[k31m0]
  instanceTypes := #[]
  staticTypes := #[(.object "jdk/internal/misc/Unsafe"), .boolean, .int, .int, .int, .int, .int, .int, .int, .int, .int, .int, .int, .int, .int, .int, .int, .int, .int, (.object "jdk/internal/access/JavaLangAccess"), .int]
  resolved := Array.replicate 378 none
  statics := none }

def pool32 : Array CpInfo := pool [(2, .class_ 4), (1, u "java/util/AbstractCollection"), (0, u "<init>"), (0, u "()V"), (1, .class_ 10), (1, u "java/util/ImmutableCollections"), (2, .class_ 14), (0, u "java/util/ImmutableCollections$AbstractImmutableCollection")] 41

def k32m0 : Method := { name := "<init>", desc := "()V", sig := { parameters := [], returnType := none }, accessFlags := 0, code := none }
/-- java/util/ImmutableCollections$AbstractImmutableCollection -/
def k32 : Class := { plain "java/util/ImmutableCollections$AbstractImmutableCollection" (some 21) with
  accessFlags := 1056
  interfaces := #[]
  cf := some (fileOf pool32 13 #[.nestHost 8] #[{ accessFlags := 0, nameIndex := 5, descriptorIndex := 6, attributes := #[] }] 1056 2 #[] #[])
  fields := #[]
  methods := #[k32m0]
  instanceTypes := #[]
  staticTypes := #[]
  resolved := Array.replicate 56 none
  statics := none }

def pool33 : Array CpInfo := pool [(2, .class_ 4), (1, u "java/util/ImmutableCollections$AbstractImmutableCollection"), (0, u "<init>"), (0, u "()V"), (1, .class_ 10), (1, u "java/util/ImmutableCollections"), (3, .class_ 16), (1, u "java/util/ImmutableCollections$AbstractImmutableList"), (60, .class_ 78), (0, u "java/util/List"), (45, .class_ 125), (0, u "java/util/RandomAccess")] 70

def k33m0 : Method := { name := "<init>", desc := "()V", sig := { parameters := [], returnType := none }, accessFlags := 0, code := none }
/-- java/util/ImmutableCollections$AbstractImmutableList -/
def k33 : Class := { plain "java/util/ImmutableCollections$AbstractImmutableList" (some 32) with
  accessFlags := 1056
  interfaces := #[23, 25]
  cf := some (fileOf pool33 14 #[.nestHost 8] #[{ accessFlags := 0, nameIndex := 5, descriptorIndex := 6, attributes := #[] }] 1056 2 #[77, 124] #[])
  fields := #[]
  methods := #[k33m0]
  instanceTypes := #[]
  staticTypes := #[]
  resolved := Array.replicate 196 none
  statics := none }

def pool34 : Array CpInfo := pool [(2, .class_ 4), (1, u "java/util/ImmutableCollections$AbstractImmutableList"), (3, .class_ 10), (1, u "java/util/ImmutableCollections$ListN"), (0, u "elements"), (0, u "[Ljava/lang/Object;"), (2, u "allowNulls"), (0, u "Z"), (42, .class_ 60), (0, u "java/io/Serializable"), (53, .class_ 115), (0, u "java/util/ImmutableCollections")] 3

/-- java/util/ImmutableCollections$ListN -/
def k34 : Class := { plain "java/util/ImmutableCollections$ListN" (some 33) with
  accessFlags := 48
  interfaces := #[4]
  cf := some (fileOf pool34 8 #[.nestHost 114] #[] 48 2 #[59] #[{ accessFlags := 18, nameIndex := 11, descriptorIndex := 12, attributes := #[] }, { accessFlags := 18, nameIndex := 15, descriptorIndex := 16, attributes := #[] }])
  fields := #[{ name := "elements", type := (.array (.object "java/lang/Object")), accessFlags := 18, slot := 0, constantValue := 0 }, { name := "allowNulls", type := .boolean, accessFlags := 18, slot := 1, constantValue := 0 }]
  methods := #[]
  instanceTypes := #[(.array (.object "java/lang/Object")), .boolean]
  staticTypes := #[]
  resolved := Array.replicate 119 none
  statics := none }

/-- the primitive byte -/
def k35 : Class := { plain "byte" none with kind := .primitive 'B', accessFlags := 0x411 }
/-- [B -/
def k36 : Class := { plain "[B" (some 0) with kind := .array 35 .byte, interfaces := #[15, 4], accessFlags := 1041 }

/-- the primitive int -/
def k37 : Class := { plain "int" none with kind := .primitive 'I', accessFlags := 0x411 }
/-- [I -/
def k38 : Class := { plain "[I" (some 0) with kind := .array 37 .int, interfaces := #[15, 4], accessFlags := 1041 }

/-- [Ljava/lang/Object; -/
def k39 : Class := { plain "[Ljava/lang/Object;" (some 0) with kind := .array 0 (.object "java/lang/Object"), interfaces := #[15, 4], accessFlags := 1041 }

def heap : Heap := #[{ cls := 6, slots := #[.ref 8, .ref 9, .null], vm := .statics 6 },
  { cls := 9, slots := #[.long 0, .int 1, .null, .int 0, .null, .int 0, .int 0], vm := .statics 9 },
  { cls := 26, slots := #[.long 0, .int 0, .ref 5, .ref 6], vm := .statics 26 },
  { cls := 27, slots := #[.long 0, .int 0, .null, .null, .ref 7, .null, .null, .null, .int 0, .int 0], vm := .statics 27 },
  { cls := 30, slots := #[.null, .null, .null], vm := .statics 30 },
  { cls := 39, slots := #[], vm := .none },
  { cls := 39, slots := #[], vm := .none },
  { cls := 34, slots := #[.ref 5, .int 0], vm := .none },
  { cls := 6, slots := #[.null, .int 0, .int 0], vm := .none },
  { cls := 6, slots := #[.null, .int 1, .int 0], vm := .none }]
def classes : Array Class := #[k0, k1, k2, k3, k4, k5, k6, k7, k8, k9, k10, k11, k12, k13, k14, k15, k16, k17, k18, k19, k20, k21, k22, k23, k24, k25, k26, k27, k28, k29, k30, k31, k32, k33, k34, k35, k36, k37, k38, k39]
def interned : List (Array UInt16 × Addr) := []
def slotsUsed : Nat := 35
def theMethod : MethodId := ⟨1, 1⟩
def args0 : Array Value := #[.int 5, .int 65]
def aboutOver (below : List Frame) : State where
  vm := { classes := classes, interned := interned.toArray }
  heap := heap
  slotsUsed := slotsUsed
  threads := #[{ frames := .invoking theMethod args0 :: below }]
def below0 : List Frame := [.native { method := ⟨0, 0⟩, args := #[] }]
def about1 : State := aboutOver below0
def p0 : Program := .bare "" "" ""
def e0 : Env := launch0.env 0 0 0
theorem w_frames : about1.frames = Frame.invoking theMethod args0 :: below0 := rfl
set_option maxRecDepth 65536 in
theorem w_args : argsFit about1.vm theMethod args0 = true := by decide +kernel
set_option maxRecDepth 65536 in
theorem w_heap : heapFits about1 = true := by decide +kernel
set_option maxRecDepth 65536 in
theorem w_runnable : about1.curStatus? = some .runnable := by decide +kernel
set_option maxRecDepth 65536 in
theorem w_alone : about1.alone = true := by decide +kernel
set_option maxRecDepth 65536 in
theorem w_named : about1.methodNamed? x = some theMethod := by decide +kernel
set_option maxRecDepth 65536 in
theorem w_hears : about1.hears theMethod below0 = true := by decide +kernel
set_option maxRecDepth 65536 in
theorem w_ripe : about1.ripe theMethod args0 below0 = true := by decide +kernel
theorem w_running : about1.status = .running := rfl
set_option maxRecDepth 65536 in
theorem w_room : about1.hasRoom e0.platform room_1 = true :=
  launch0.hasRoom_least _ room_1 (by decide +kernel) (by decide +kernel) (by decide +kernel) (by decide +kernel) (by decide +kernel) (by decide +kernel)
theorem allAtoms_all (ts : List Jvm.Cond) (a : Array Jvm.Value) (st : Jvm.State) : (allAtoms ts).before a st = ts.all (fun c => c.before a st) := by
  induction ts with
  | nil => rfl
  | cons c t ih =>
    show (Jvm.Cond.and c (allAtoms t)).before a st = _
    rw [Jvm.Cond.before_and, ih, List.all_cons]
def words1 : List Jvm.Cond := Jvm.Cond.code x code maxLocals ret :: tables_1
/-- a 'code' word, met by the world's own term for the bytes: nothing is compared byte by byte -/
theorem code_word {y : MethodName} {bytes : ByteArray} {mx : Nat} {rt : Option FieldType} {a : Array Value} {s : State} {m : MethodId} {meth : Method} {c : Code} (h1 : s.methodNamed? y = some m) (h2 : s.vm.method? m = some meth) (h3 : meth.code = some c) (h4 : c.code = bytes)
    (h5 : (c.maxLocals == mx && c.exceptionTable.isEmpty && decide (c.maxStack ≤ mostOperands) && decide (meth.sig.returnType = rt) && !meth.locks && decide (parseMethodDescriptor y.desc = some meth.sig)) = true) : (Jvm.Cond.code y bytes mx rt).before a s = true := by
  simp only [Bool.and_eq_true, beq_iff_eq, Bool.not_eq_true', decide_eq_true_eq] at h5
  obtain ⟨⟨⟨⟨⟨g1, g2⟩, g3⟩, g4⟩, g5⟩, g6⟩ := h5
  simp [Cond.before, Cond.holds, Cond.value, h1, h2, h3, h4, g1, g2, g3, g4, g5, g6]
def isCode : Jvm.Cond → Bool
  | .code _ _ _ _ => true
  | _ => false
theorem all_split {L : List Jvm.Cond} {P : Jvm.Cond → Bool} (h1 : L.all (fun c => isCode c || P c) = true) (h2 : ∀ c ∈ L.filter isCode, P c = true) : L.all P = true := by
  refine List.all_eq_true.mpr fun c hc => ?_
  have h := List.all_eq_true.mp h1 c hc
  rcases Bool.eq_false_or_eq_true (isCode c) with hi | hi
  · exact h2 c (List.mem_filter.mpr ⟨hc, hi⟩)
  · simpa [hi] using h
set_option maxRecDepth 65536 in
theorem w_c0 : (Jvm.Cond.code x code maxLocals ret).before args0 about1 = true := code_word (m := ⟨1, 1⟩) (meth := k1m1) (c := k1c1) (by decide +kernel) rfl rfl rfl (by decide +kernel)
set_option maxRecDepth 65536 in
theorem w_c1 : (Jvm.Cond.code ({ cls := "java/lang/String", name := "valueOf", desc := "(C)Ljava/lang/String;" } : Jvm.MethodName) jdk_42_method_139_code (1 : Nat) (Option.some (Jvm.ClassFile.FieldType.object "java/lang/String"))).before args0 about1 = true := code_word (m := ⟨9, 2⟩) (meth := k9m2) (c := k9c2) (by decide +kernel) rfl rfl rfl (by decide +kernel)
set_option maxRecDepth 65536 in
theorem w_c2 : (Jvm.Cond.code ({ cls := "java/lang/StringLatin1", name := "canEncode", desc := "(C)Z" } : Jvm.MethodName) jdk_43_method_3_code (1 : Nat) (Option.some Jvm.ClassFile.FieldType.boolean)).before args0 about1 = true := code_word (m := ⟨10, 1⟩) (meth := k10m1) (c := k10c1) (by decide +kernel) rfl rfl rfl (by decide +kernel)
set_option maxRecDepth 65536 in
theorem w_c3 : (Jvm.Cond.code ({ cls := "java/lang/StringLatin1", name := "toBytes", desc := "(C)[B" } : Jvm.MethodName) jdk_43_method_46_code (1 : Nat) (Option.some (Jvm.ClassFile.FieldType.array Jvm.ClassFile.FieldType.byte))).before args0 about1 = true := code_word (m := ⟨10, 3⟩) (meth := k10m3) (c := k10c3) (by decide +kernel) rfl rfl rfl (by decide +kernel)
set_option maxRecDepth 65536 in
theorem w_c4 : (Jvm.Cond.code ({ cls := "java/lang/String", name := "<init>", desc := "([BB)V" } : Jvm.MethodName) jdk_42_method_151_code (3 : Nat) (Option.none : Option Jvm.ClassFile.FieldType)).before args0 about1 = true := code_word (m := ⟨9, 3⟩) (meth := k9m3) (c := k9c3) (by decide +kernel) rfl rfl rfl (by decide +kernel)
set_option maxRecDepth 65536 in
theorem w_c5 : (Jvm.Cond.code ({ cls := "java/lang/Object", name := "<init>", desc := "()V" } : Jvm.MethodName) object_method_1_code (1 : Nat) (Option.none : Option Jvm.ClassFile.FieldType)).before args0 about1 = true := code_word (m := ⟨0, 0⟩) (meth := k0m0) (c := k0c0) (by decide +kernel) rfl rfl rfl (by decide +kernel)
set_option maxRecDepth 65536 in
theorem w_c6 : (Jvm.Cond.code ({ cls := "com/example/amphion/amphion/BeanDefinition", name := "<init>", desc := "(Ljava/lang/String;Ljava/lang/String;I)V" } : Jvm.MethodName) prog_3_method_1_code (4 : Nat) (Option.none : Option Jvm.ClassFile.FieldType)).before args0 about1 = true := code_word (m := ⟨11, 0⟩) (meth := k11m0) (c := k11c0) (by decide +kernel) rfl rfl rfl (by decide +kernel)
set_option maxRecDepth 65536 in
theorem w_c7 : (Jvm.Cond.code ({ cls := "com/example/amphion/amphion/MutablePropertyValues", name := "<init>", desc := "()V" } : Jvm.MethodName) prog_60_method_1_code (1 : Nat) (Option.none : Option Jvm.ClassFile.FieldType)).before args0 about1 = true := code_word (m := ⟨12, 0⟩) (meth := k12m0) (c := k12c0) (by decide +kernel) rfl rfl rfl (by decide +kernel)
set_option maxRecDepth 65536 in
theorem w_c8 : (Jvm.Cond.code ({ cls := "java/util/LinkedHashMap", name := "<init>", desc := "()V" } : Jvm.MethodName) jdk_94_method_16_code (1 : Nat) (Option.none : Option Jvm.ClassFile.FieldType)).before args0 about1 = true := code_word (m := ⟨18, 0⟩) (meth := k18m0) (c := k18c0) (by decide +kernel) rfl rfl rfl (by decide +kernel)
set_option maxRecDepth 65536 in
theorem w_c9 : (Jvm.Cond.code ({ cls := "java/util/HashMap", name := "<init>", desc := "()V" } : Jvm.MethodName) jdk_69_method_7_code (1 : Nat) (Option.none : Option Jvm.ClassFile.FieldType)).before args0 about1 = true := code_word (m := ⟨16, 0⟩) (meth := k16m0) (c := k16c0) (by decide +kernel) rfl rfl rfl (by decide +kernel)
set_option maxRecDepth 65536 in
theorem w_c10 : (Jvm.Cond.code ({ cls := "java/util/AbstractMap", name := "<init>", desc := "()V" } : Jvm.MethodName) jdk_71_method_1_code (1 : Nat) (Option.none : Option Jvm.ClassFile.FieldType)).before args0 about1 = true := code_word (m := ⟨14, 0⟩) (meth := k14m0) (c := k14c0) (by decide +kernel) rfl rfl rfl (by decide +kernel)
set_option maxRecDepth 65536 in
theorem w_c11 : (Jvm.Cond.code ({ cls := "java/util/ArrayList", name := "<init>", desc := "()V" } : Jvm.MethodName) jdk_38_method_2_code (1 : Nat) (Option.none : Option Jvm.ClassFile.FieldType)).before args0 about1 = true := code_word (m := ⟨26, 0⟩) (meth := k26m0) (c := k26c0) (by decide +kernel) rfl rfl rfl (by decide +kernel)
set_option maxRecDepth 65536 in
theorem w_c12 : (Jvm.Cond.code ({ cls := "java/util/AbstractList", name := "<init>", desc := "()V" } : Jvm.MethodName) jdk_39_method_1_code (1 : Nat) (Option.none : Option Jvm.ClassFile.FieldType)).before args0 about1 = true := code_word (m := ⟨24, 0⟩) (meth := k24m0) (c := k24c0) (by decide +kernel) rfl rfl rfl (by decide +kernel)
set_option maxRecDepth 65536 in
theorem w_c13 : (Jvm.Cond.code ({ cls := "java/util/AbstractCollection", name := "<init>", desc := "()V" } : Jvm.MethodName) jdk_22_method_1_code (1 : Nat) (Option.none : Option Jvm.ClassFile.FieldType)).before args0 about1 = true := code_word (m := ⟨21, 0⟩) (meth := k21m0) (c := k21c0) (by decide +kernel) rfl rfl rfl (by decide +kernel)
set_option maxRecDepth 65536 in
theorem w_c14 : (Jvm.Cond.code ({ cls := "java/util/List", name := "of", desc := "()Ljava/util/List;" } : Jvm.MethodName) jdk_40_method_36_code (0 : Nat) (Option.some (Jvm.ClassFile.FieldType.object "java/util/List"))).before args0 about1 = true := code_word (m := ⟨23, 0⟩) (meth := k23m0) (c := k23c0) (by decide +kernel) rfl rfl rfl (by decide +kernel)
set_option maxRecDepth 65536 in
theorem w_c15 : (Jvm.Cond.code ({ cls := "com/example/amphion/amphion/Making", name := "<init>", desc := "(Ljava/lang/String;Lcom/example/amphion/amphion/BeanDefinition;ZLcom/example/amphion/amphion/Making$Purpose;Lcom/example/amphion/amphion/BeanDefinition;)V" } : Jvm.MethodName) prog_50_method_1_code (6 : Nat) (Option.none : Option Jvm.ClassFile.FieldType)).before args0 about1 = true := code_word (m := ⟨29, 0⟩) (meth := k29m0) (c := k29c0) (by decide +kernel) rfl rfl rfl (by decide +kernel)
set_option maxRecDepth 65536 in
theorem w_c16 : (Jvm.Cond.code ({ cls := "java/lang/Record", name := "<init>", desc := "()V" } : Jvm.MethodName) jdk_30_method_1_code (1 : Nat) (Option.none : Option Jvm.ClassFile.FieldType)).before args0 about1 = true := code_word (m := ⟨28, 0⟩) (meth := k28m0) (c := k28c0) (by decide +kernel) rfl rfl rfl (by decide +kernel)
set_option maxRecDepth 65536 in
theorem w_c17 : (Jvm.Cond.code ({ cls := "com/example/amphion/amphion/Making", name := "takesUnfinished", desc := "()Z" } : Jvm.MethodName) prog_50_method_7_code (1 : Nat) (Option.some Jvm.ClassFile.FieldType.boolean)).before args0 about1 = true := code_word (m := ⟨29, 4⟩) (meth := k29m4) (c := k29c4) (by decide +kernel) rfl rfl rfl (by decide +kernel)
set_option maxRecDepth 65536 in
theorem w_c18 : (Jvm.Cond.code ({ cls := "com/example/amphion/amphion/Making", name := "inner", desc := "(Ljava/lang/String;Lcom/example/amphion/amphion/BeanDefinition;Lcom/example/amphion/amphion/BeanDefinition;)Lcom/example/amphion/amphion/Making;" } : Jvm.MethodName) prog_50_method_5_code (4 : Nat) (Option.some (Jvm.ClassFile.FieldType.object "com/example/amphion/amphion/Making"))).before args0 about1 = true := code_word (m := ⟨29, 3⟩) (meth := k29m3) (c := k29c3) (by decide +kernel) rfl rfl rfl (by decide +kernel)
set_option maxRecDepth 65536 in
theorem w_c19 : (Jvm.Cond.code ({ cls := "com/example/amphion/amphion/Making", name := "of", desc := "(Ljava/lang/String;Lcom/example/amphion/amphion/BeanDefinition;)Lcom/example/amphion/amphion/Making;" } : Jvm.MethodName) prog_50_method_2_code (2 : Nat) (Option.some (Jvm.ClassFile.FieldType.object "com/example/amphion/amphion/Making"))).before args0 about1 = true := code_word (m := ⟨29, 1⟩) (meth := k29m1) (c := k29c1) (by decide +kernel) rfl rfl rfl (by decide +kernel)
set_option maxRecDepth 65536 in
theorem w_c20 : (Jvm.Cond.code ({ cls := "com/example/amphion/amphion/BeanDefinition", name := "isPrototype", desc := "()Z" } : Jvm.MethodName) prog_3_method_12_code (1 : Nat) (Option.some Jvm.ClassFile.FieldType.boolean)).before args0 about1 = true := code_word (m := ⟨11, 3⟩) (meth := k11m3) (c := k11c3) (by decide +kernel) rfl rfl rfl (by decide +kernel)
set_option maxRecDepth 65536 in
theorem w_c21 : (Jvm.Cond.code ({ cls := "com/example/amphion/amphion/BeanDefinition", name := "getScope", desc := "()Ljava/lang/String;" } : Jvm.MethodName) prog_3_method_10_code (1 : Nat) (Option.some (Jvm.ClassFile.FieldType.object "java/lang/String"))).before args0 about1 = true := code_word (m := ⟨11, 1⟩) (meth := k11m1) (c := k11c1) (by decide +kernel) rfl rfl rfl (by decide +kernel)
set_option maxRecDepth 65536 in
theorem w_c22 : (Jvm.Cond.code ({ cls := "java/lang/String", name := "equals", desc := "(Ljava/lang/Object;)Z" } : Jvm.MethodName) jdk_42_method_66_code (3 : Nat) (Option.some Jvm.ClassFile.FieldType.boolean)).before args0 about1 = true := code_word (m := ⟨9, 1⟩) (meth := k9m1) (c := k9c1) (by decide +kernel) rfl rfl rfl (by decide +kernel)
set_option maxRecDepth 65536 in
theorem w_c23 : (Jvm.Cond.code ({ cls := "java/lang/StringLatin1", name := "equals", desc := "([B[B)Z" } : Jvm.MethodName) jdk_43_method_13_code (3 : Nat) (Option.some Jvm.ClassFile.FieldType.boolean)).before args0 about1 = true := code_word (m := ⟨10, 2⟩) (meth := k10m2) (c := k10c2) (by decide +kernel) rfl rfl rfl (by decide +kernel)
set_option maxRecDepth 65536 in
theorem w_c24 : (Jvm.Cond.code ({ cls := "com/example/amphion/amphion/BeanDefinition", name := "setScope", desc := "(Ljava/lang/String;)V" } : Jvm.MethodName) prog_3_method_11_code (2 : Nat) (Option.none : Option Jvm.ClassFile.FieldType)).before args0 about1 = true := code_word (m := ⟨11, 2⟩) (meth := k11m2) (c := k11c2) (by decide +kernel) rfl rfl rfl (by decide +kernel)
set_option maxRecDepth 65536 in
theorem w_c25 : (Jvm.Cond.code ({ cls := "com/example/amphion/amphion/Making", name := "forTypeCheck", desc := "(Ljava/lang/String;Lcom/example/amphion/amphion/BeanDefinition;)Lcom/example/amphion/amphion/Making;" } : Jvm.MethodName) prog_50_method_3_code (2 : Nat) (Option.some (Jvm.ClassFile.FieldType.object "com/example/amphion/amphion/Making"))).before args0 about1 = true := code_word (m := ⟨29, 2⟩) (meth := k29m2) (c := k29c2) (by decide +kernel) rfl rfl rfl (by decide +kernel)
def codes1 : List Jvm.Cond := [Jvm.Cond.code x code maxLocals ret, Jvm.Cond.code ({ cls := "java/lang/String", name := "valueOf", desc := "(C)Ljava/lang/String;" } : Jvm.MethodName) jdk_42_method_139_code (1 : Nat) (Option.some (Jvm.ClassFile.FieldType.object "java/lang/String")), Jvm.Cond.code ({ cls := "java/lang/StringLatin1", name := "canEncode", desc := "(C)Z" } : Jvm.MethodName) jdk_43_method_3_code (1 : Nat) (Option.some Jvm.ClassFile.FieldType.boolean), Jvm.Cond.code ({ cls := "java/lang/StringLatin1", name := "toBytes", desc := "(C)[B" } : Jvm.MethodName) jdk_43_method_46_code (1 : Nat) (Option.some (Jvm.ClassFile.FieldType.array Jvm.ClassFile.FieldType.byte)), Jvm.Cond.code ({ cls := "java/lang/String", name := "<init>", desc := "([BB)V" } : Jvm.MethodName) jdk_42_method_151_code (3 : Nat) (Option.none : Option Jvm.ClassFile.FieldType), Jvm.Cond.code ({ cls := "java/lang/Object", name := "<init>", desc := "()V" } : Jvm.MethodName) object_method_1_code (1 : Nat) (Option.none : Option Jvm.ClassFile.FieldType), Jvm.Cond.code ({ cls := "com/example/amphion/amphion/BeanDefinition", name := "<init>", desc := "(Ljava/lang/String;Ljava/lang/String;I)V" } : Jvm.MethodName) prog_3_method_1_code (4 : Nat) (Option.none : Option Jvm.ClassFile.FieldType), Jvm.Cond.code ({ cls := "com/example/amphion/amphion/MutablePropertyValues", name := "<init>", desc := "()V" } : Jvm.MethodName) prog_60_method_1_code (1 : Nat) (Option.none : Option Jvm.ClassFile.FieldType), Jvm.Cond.code ({ cls := "java/util/LinkedHashMap", name := "<init>", desc := "()V" } : Jvm.MethodName) jdk_94_method_16_code (1 : Nat) (Option.none : Option Jvm.ClassFile.FieldType), Jvm.Cond.code ({ cls := "java/util/HashMap", name := "<init>", desc := "()V" } : Jvm.MethodName) jdk_69_method_7_code (1 : Nat) (Option.none : Option Jvm.ClassFile.FieldType), Jvm.Cond.code ({ cls := "java/util/AbstractMap", name := "<init>", desc := "()V" } : Jvm.MethodName) jdk_71_method_1_code (1 : Nat) (Option.none : Option Jvm.ClassFile.FieldType), Jvm.Cond.code ({ cls := "java/util/ArrayList", name := "<init>", desc := "()V" } : Jvm.MethodName) jdk_38_method_2_code (1 : Nat) (Option.none : Option Jvm.ClassFile.FieldType), Jvm.Cond.code ({ cls := "java/util/AbstractList", name := "<init>", desc := "()V" } : Jvm.MethodName) jdk_39_method_1_code (1 : Nat) (Option.none : Option Jvm.ClassFile.FieldType), Jvm.Cond.code ({ cls := "java/util/AbstractCollection", name := "<init>", desc := "()V" } : Jvm.MethodName) jdk_22_method_1_code (1 : Nat) (Option.none : Option Jvm.ClassFile.FieldType), Jvm.Cond.code ({ cls := "java/util/List", name := "of", desc := "()Ljava/util/List;" } : Jvm.MethodName) jdk_40_method_36_code (0 : Nat) (Option.some (Jvm.ClassFile.FieldType.object "java/util/List")), Jvm.Cond.code ({ cls := "com/example/amphion/amphion/Making", name := "<init>", desc := "(Ljava/lang/String;Lcom/example/amphion/amphion/BeanDefinition;ZLcom/example/amphion/amphion/Making$Purpose;Lcom/example/amphion/amphion/BeanDefinition;)V" } : Jvm.MethodName) prog_50_method_1_code (6 : Nat) (Option.none : Option Jvm.ClassFile.FieldType), Jvm.Cond.code ({ cls := "java/lang/Record", name := "<init>", desc := "()V" } : Jvm.MethodName) jdk_30_method_1_code (1 : Nat) (Option.none : Option Jvm.ClassFile.FieldType), Jvm.Cond.code ({ cls := "com/example/amphion/amphion/Making", name := "takesUnfinished", desc := "()Z" } : Jvm.MethodName) prog_50_method_7_code (1 : Nat) (Option.some Jvm.ClassFile.FieldType.boolean), Jvm.Cond.code ({ cls := "com/example/amphion/amphion/Making", name := "inner", desc := "(Ljava/lang/String;Lcom/example/amphion/amphion/BeanDefinition;Lcom/example/amphion/amphion/BeanDefinition;)Lcom/example/amphion/amphion/Making;" } : Jvm.MethodName) prog_50_method_5_code (4 : Nat) (Option.some (Jvm.ClassFile.FieldType.object "com/example/amphion/amphion/Making")), Jvm.Cond.code ({ cls := "com/example/amphion/amphion/Making", name := "of", desc := "(Ljava/lang/String;Lcom/example/amphion/amphion/BeanDefinition;)Lcom/example/amphion/amphion/Making;" } : Jvm.MethodName) prog_50_method_2_code (2 : Nat) (Option.some (Jvm.ClassFile.FieldType.object "com/example/amphion/amphion/Making")), Jvm.Cond.code ({ cls := "com/example/amphion/amphion/BeanDefinition", name := "isPrototype", desc := "()Z" } : Jvm.MethodName) prog_3_method_12_code (1 : Nat) (Option.some Jvm.ClassFile.FieldType.boolean), Jvm.Cond.code ({ cls := "com/example/amphion/amphion/BeanDefinition", name := "getScope", desc := "()Ljava/lang/String;" } : Jvm.MethodName) prog_3_method_10_code (1 : Nat) (Option.some (Jvm.ClassFile.FieldType.object "java/lang/String")), Jvm.Cond.code ({ cls := "java/lang/String", name := "equals", desc := "(Ljava/lang/Object;)Z" } : Jvm.MethodName) jdk_42_method_66_code (3 : Nat) (Option.some Jvm.ClassFile.FieldType.boolean), Jvm.Cond.code ({ cls := "java/lang/StringLatin1", name := "equals", desc := "([B[B)Z" } : Jvm.MethodName) jdk_43_method_13_code (3 : Nat) (Option.some Jvm.ClassFile.FieldType.boolean), Jvm.Cond.code ({ cls := "com/example/amphion/amphion/BeanDefinition", name := "setScope", desc := "(Ljava/lang/String;)V" } : Jvm.MethodName) prog_3_method_11_code (2 : Nat) (Option.none : Option Jvm.ClassFile.FieldType), Jvm.Cond.code ({ cls := "com/example/amphion/amphion/Making", name := "forTypeCheck", desc := "(Ljava/lang/String;Lcom/example/amphion/amphion/BeanDefinition;)Lcom/example/amphion/amphion/Making;" } : Jvm.MethodName) prog_50_method_3_code (2 : Nat) (Option.some (Jvm.ClassFile.FieldType.object "com/example/amphion/amphion/Making"))]
set_option maxRecDepth 65536 in
theorem codes_eq : words1.filter isCode = codes1 := rfl
theorem w_codes : ∀ c ∈ words1.filter isCode, c.before args0 about1 = true := by
  rw [codes_eq]
  intro c hc
  simp only [codes1, List.mem_cons, List.not_mem_nil, or_false] at hc
  rcases hc with rfl | rfl | rfl | rfl | rfl | rfl | rfl | rfl | rfl | rfl | rfl | rfl | rfl | rfl | rfl | rfl | rfl | rfl | rfl | rfl | rfl | rfl | rfl | rfl | rfl | rfl
  · exact w_c0
  · exact w_c1
  · exact w_c2
  · exact w_c3
  · exact w_c4
  · exact w_c5
  · exact w_c6
  · exact w_c7
  · exact w_c8
  · exact w_c9
  · exact w_c10
  · exact w_c11
  · exact w_c12
  · exact w_c13
  · exact w_c14
  · exact w_c15
  · exact w_c16
  · exact w_c17
  · exact w_c18
  · exact w_c19
  · exact w_c20
  · exact w_c21
  · exact w_c22
  · exact w_c23
  · exact w_c24
  · exact w_c25
set_option maxRecDepth 65536 in
theorem w_t1 : (words1.take 24).all (fun c => isCode c || c.before args0 about1) = true := by decide +kernel
set_option maxRecDepth 65536 in
theorem w_t2 : ((words1.drop 24).take 24).all (fun c => isCode c || c.before args0 about1) = true := by decide +kernel
set_option maxRecDepth 65536 in
theorem w_t3 : (((words1.drop 24).drop 24).take 24).all (fun c => isCode c || c.before args0 about1) = true := by decide +kernel
set_option maxRecDepth 65536 in
theorem w_t4 : ((((words1.drop 24).drop 24).drop 24).take 24).all (fun c => isCode c || c.before args0 about1) = true := by decide +kernel
set_option maxRecDepth 65536 in
theorem w_t5 : (((((words1.drop 24).drop 24).drop 24).drop 24).take 24).all (fun c => isCode c || c.before args0 about1) = true := by decide +kernel
set_option maxRecDepth 65536 in
theorem w_t6 : ((((((words1.drop 24).drop 24).drop 24).drop 24).drop 24).take 24).all (fun c => isCode c || c.before args0 about1) = true := by decide +kernel
set_option maxRecDepth 65536 in
theorem w_t7 : (((((((words1.drop 24).drop 24).drop 24).drop 24).drop 24).drop 24).take 24).all (fun c => isCode c || c.before args0 about1) = true := by decide +kernel
set_option maxRecDepth 65536 in
theorem w_t8 : ((((((((words1.drop 24).drop 24).drop 24).drop 24).drop 24).drop 24).drop 24).take 24).all (fun c => isCode c || c.before args0 about1) = true := by decide +kernel
set_option maxRecDepth 65536 in
theorem w_t9 : ((((((((words1.drop 24).drop 24).drop 24).drop 24).drop 24).drop 24).drop 24).drop 24).all (fun c => isCode c || c.before args0 about1) = true := by decide +kernel
theorem w_tables : (allAtoms (Jvm.Cond.code x code maxLocals ret :: tables_1)).before args0 about1 = true := by
  rw [allAtoms_all]
  show words1.all (fun c => c.before args0 about1) = true
  refine all_split ?_ w_codes
  rw [← List.take_append_drop 24 words1, List.all_append, w_t1, ← List.take_append_drop 24 (words1.drop 24), List.all_append, w_t2, ← List.take_append_drop 24 ((words1.drop 24).drop 24), List.all_append, w_t3, ← List.take_append_drop 24 (((words1.drop 24).drop 24).drop 24), List.all_append, w_t4, ← List.take_append_drop 24 ((((words1.drop 24).drop 24).drop 24).drop 24), List.all_append, w_t5, ← List.take_append_drop 24 (((((words1.drop 24).drop 24).drop 24).drop 24).drop 24), List.all_append, w_t6, ← List.take_append_drop 24 ((((((words1.drop 24).drop 24).drop 24).drop 24).drop 24).drop 24), List.all_append, w_t7, ← List.take_append_drop 24 (((((((words1.drop 24).drop 24).drop 24).drop 24).drop 24).drop 24).drop 24), List.all_append, w_t8, w_t9]
  rfl
set_option maxRecDepth 65536 in
theorem w_rest : rest_1_c.before args0 about1 = true := by decide +kernel
set_option maxRecDepth 65536 in
theorem w_case : (Jvm.Cond.and given_1 narrow_1).before args0 about1 = true := by decide +kernel
set_option maxRecDepth 65536 in
theorem w_consts : constsHeld consts_1 about1 := Jvm.Lit.constsHeldB_iff.mp (by decide +kernel)
theorem w_applies : (headSpec (Jvm.Cond.code x code maxLocals ret :: tables_1) room_1).applies x e0.platform about1 = true :=
  (Spec.applies_iff w_frames).mpr ⟨w_running, w_runnable, w_alone, w_named, w_hears, w_ripe, w_room, w_tables⟩
theorem atStart : AtStart classFile x code maxLocals ret World_1 tables_1 room_1 Calls_1 rest_1 Pre_1 launch0 p0 e0 about1 theMethod args0 below0 :=
  ⟨lists_1, trivial, launch0.admits_env _ _ _, launch0.least_env, fairChoices_fair.cas, fairChoices_fair.clock, w_frames, w_args, w_heap, w_applies, ⟨w_consts, trivial⟩, w_rest, w_case⟩
end start1
theorem witness_1 : WitnessClaimed_1 := ⟨start1.p0, start1.e0, start1.about1, start1.theMethod, start1.args0, start1.below0, start1.atStart⟩
end Jvm.Pilot.@@N@@
