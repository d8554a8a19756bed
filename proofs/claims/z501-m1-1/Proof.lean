import JvmDerived
import JvmDerived.Pilot.@@N@@Statement
import JvmDerived.Pilot.@@N@@Code
set_option linter.unusedVariables false
set_option linter.unusedSimpArgs false
namespace Jvm.Pilot.@@N@@
open Jvm Jvm.ClassFile Sem Op Lib Jvm.Free Jvm.Stand Jvm.LawKit Jvm.RoadKit Bundle Jvm.Pilot.@@N@@.Jvm.D
def G (p : Program) (l : Launch) (e : Env) (R : Room) (s : State) (m : MethodId) (args : Array Value) (below : List Frame) (meth : Method) (c : Code) (n0 : Nat) (Q : Option Value → Heap → Prop) (h : Heap) (k n : Nat) (pc : Nat) (Ls : Array Slot) (st : List Value) : Prop :=
  ∀ T locs cells slots, Stand p l e R s m args below meth c T locs cells slots → Fr n0 locs → T.heap = h → cells ≤ k → slots ≤ n →
    ∃ s₂ o, Steps p.tables e below (T.setTop (mkF m pc Ls st)) s₂ ∧ s₂.status = .running ∧ Ended s₂ below o ∧ ∃ v L, o = .returned v ∧ (Q v s₂.heap ∧ Fr n0 L) ∧ FrameEnd s o s₂ L R.cells R.slots
def Cx (Z : State) (p : Program) (s : State) (m : MethodId) (meth : Method) (c : Code) (R : Room) (k n : Nat) (own nm : String) (code : ByteArray) (maxL : Nat) (ret : Option FieldType) : Prop :=
  p.tables.exec = Jvm.exec ∧ Z.Warmed39 s.vm ∧ s.vm.findClass own = some m.cls ∧ c.code = code ∧ c.maxLocals = maxL ∧ meth.sig.returnType = ret ∧ meth.name = nm ∧ meth.locks = false
def Dc (code : ByteArray) (pc : Nat) (i : Instr) (len pc' : Nat) : Prop := decode code pc = .ok (i, len) ∧ pc + len = pc'
def Bi (code : ByteArray) (pc : Nat) (f : Int → Instr) (pcY pcN : Nat) : Prop := ∃ o, decode code pc = .ok (f o, 3) ∧ 0 ≤ (pc : Int) + o ∧ ((pc : Int) + o).toNat = pcY ∧ pc + 3 = pcN
def Met (l : Launch) (Z : State) (y : MethodName) (bytes : ByteArray) (maxL : Nat) (ret : Option FieldType) (rm : Room) (as : Array Value) (h0 : Heap) (Q : Option Value → Heap → Prop) : Prop :=
  ∀ ws, MetFree l y (head1 (Jvm.Cond.code y bytes maxL ret :: ws) rm) (fun a U => a = as ∧ Z.Warmed39 U.vm ∧ U.heap = h0) (fun _ _ _ _ _ => True) (fun _ U o U' => ∃ v L, o = .returned v ∧ (Q v U'.heap ∧ Fr Z.heap.size L) ∧ FrameEnd U o U' L rm.cells rm.slots)

def Arx (Z : State) (h : Heap) (a : Addr) (k : ClassId) (ty : FieldType) (z : Int32) (vs : List Value) (dv : Value) (ad : String) : Prop := Arv Z h a k ty z vs dv ∧ Exa Z h a ad
section ArxS
variable {Z : State} {h h' : Heap} {a x : Addr} {k : ClassId} {ty : FieldType} {z : Int32} {vs vs' : List Value} {dv w : Value} {ad : String} {sl : Nat} {ws : List Addr}
theorem Arx.ext (F : Arx Z h a k ty z vs dv ad) (E : Ext h h') : Arx Z h' a k ty z vs dv ad := ⟨F.1.ext E, F.2.ext E⟩
theorem Arx.other (F : Arx Z h a k ty z vs dv ad) (W : Wr h h' x sl w) (q : a ≠ x) : Arx Z h' a k ty z vs dv ad := ⟨F.1.other W q, F.2.wr W⟩
theorem Arx.keep (F : Arx Z h a k ty z vs dv ad) (K : Keep h h' ws) (q : a ∉ ws) : Arx Z h' a k ty z vs dv ad := ⟨F.1.keep K q, F.2.keep K⟩
theorem Arx.lt (F : Arx Z h a k ty z vs dv ad) : a < h.size := F.1.lt
theorem Arx.pad (F : Arx Z h a k ty z vs dv ad) (q : ∀ i, vs'.getD i dv = vs.getD i dv) : Arx Z h a k ty z vs' dv ad := ⟨F.1.pad q, F.2⟩
theorem sto_of {C : String} {y : Addr} (A : Arx Z h a k ty z vs dv ad) (O : Ovr Z k C) (I : Ins Z h y C true) : Sto Z h a (.ref y) := by
  obtain ⟨⟨c, Ar, q, -⟩, -⟩ := A; exact Sto.ofV Ar q O I
theorem sto_ofA {C : String} {y : Addr} {t : FieldType} (A : Arx Z h a k ty z vs dv ad) (O : OvrA Z k t C) (I : Ins Z h y C true) : Sto Z h a (.ref y) := by
  obtain ⟨⟨c, Ar, q, -⟩, -⟩ := A; exact Sto.ofVA Ar q O I
end ArxS
section Walk
variable {p : Program} {l : Launch} {e : Env} {R : Room} {s : State} {m : MethodId} {args : Array Value} {below : List Frame} {meth : Method} {c : Code} {Z : State} {a0 : Array Value} {k n : Nat} {own nm : String} {code : ByteArray} {maxL : Nat} {ret : Option FieldType} {n0 : Nat} {Q : Option Value → Heap → Prop} {h : Heap} {pc pc' pcY pcN : Nat} {Ls : Array Slot} {st rest : List Value}
theorem G.mono {k' n' : Nat} (H : G p l e R s m args below meth c Z.heap.size Q h k n pc Ls st) (hk : k' ≤ k) (hn : n' ≤ n) : G p l e R s m args below meth c Z.heap.size Q h k' n' pc Ls st :=
  fun T locs cells slots X N eT a b => H T locs cells slots X N eT (Nat.le_trans a hk) (Nat.le_trans b hn)
theorem G.cast {st' : List Value} (H : G p l e R s m args below meth c Z.heap.size Q h k n pc Ls st') (q : st = st') : G p l e R s m args below meth c Z.heap.size Q h k n pc Ls st := q ▸ H
theorem G.post {Q' : Option Value → Heap → Prop} (H : G p l e R s m args below meth c Z.heap.size Q h k n pc Ls st) (q : ∀ v h, Q v h → Q' v h) : G p l e R s m args below meth c Z.heap.size Q' h k n pc Ls st :=
  fun T locs cells slots X N eT a b => by
    obtain ⟨s₂, o, h1, h2, h3, v, L, h4, ⟨h5, h6⟩, h7⟩ := H T locs cells slots X N eT a b
    exact ⟨s₂, o, h1, h2, h3, v, L, h4, ⟨q _ _ h5, h6⟩, h7⟩
theorem met_of {y : MethodName} {bytes : ByteArray} {rm : Room} {as : Array Value} {h0 : Heap} (pn : plainFor y = true) (ef : ∀ m, entryFrame m as maxL = mkF m 0 Ls [])
    (body : ∀ p e s m below meth c, Cx Z p s m meth c rm 0 0 y.cls y.name bytes maxL ret → G p l e rm s m as below meth c Z.heap.size Q h0 0 0 0 Ls []) : Met l Z y bytes maxL ret rm as h0 Q := by
  intro ws
  refine MetFree.of_bodySF pn hisR ?_
  intro p e s m args below meth c s₁ Bd hml0 hP hK
  obtain ⟨rfl, hZ, hh⟩ := hP
  have e0 : s₁.heap = h0 := by rw [← hh, Bd.state]; rfl
  have X0 : Stand p l e rm s m args below meth c s₁ [] 0 0 := Stand.of_body Bd
  rw [ef m]
  exact body p e s m below meth c ⟨Bd.exec, hZ, findClass_of_methodNamed Bd.named, Bd.bytes, hml0, Bd.returns, (name_of_methodNamed Bd.named Bd.method).1, BodyLoose.notSynchronized Bd⟩ s₁ [] 0 0 X0 (Fr.nil _) e0 (Nat.le_refl _) (Nat.le_refl _)
theorem g_iloadN {kx nx : Nat} (cx : Cx Z p s m meth c R kx nx own nm code maxL ret) {i : Fin 4} {v : Int32} (d : Dc code pc (.iload_n i) 1 pc') (hl : Ls[i.val]? = some (.val (.int v))) (H : G p l e R s m args below meth c Z.heap.size Q h k n pc' Ls (.int v :: st)) : G p l e R s m args below meth c Z.heap.size Q h k n pc Ls st := by
  obtain ⟨hx, hZ, hown, rfl, hml, hret, hnm, -⟩ := cx
  obtain ⟨d, rfl⟩ := d
  intro T locs cells slots X N eT hk hn
  obtain ⟨s₂, o, st2, r⟩ := H T locs cells slots X N eT hk hn
  exact ⟨s₂, o, Jvm.Free.XS.iloadN X.here hx rfl d hl st2, r⟩
theorem g_iload {kx nx : Nat} (cx : Cx Z p s m meth c R kx nx own nm code maxL ret) {i : Nat} {v : Int32} (d : Dc code pc (.iload i) 2 pc') (hl : Ls[i]? = some (.val (.int v))) (H : G p l e R s m args below meth c Z.heap.size Q h k n pc' Ls (.int v :: st)) : G p l e R s m args below meth c Z.heap.size Q h k n pc Ls st := by
  obtain ⟨hx, hZ, hown, rfl, hml, hret, hnm, -⟩ := cx
  obtain ⟨d, rfl⟩ := d
  intro T locs cells slots X N eT hk hn
  obtain ⟨s₂, o, st2, r⟩ := H T locs cells slots X N eT hk hn
  exact ⟨s₂, o, Jvm.Free.XS.iload X.here hx rfl d hl st2, r⟩
theorem g_istoreN {kx nx : Nat} (cx : Cx Z p s m meth c R kx nx own nm code maxL ret) {i : Fin 4} {v : Int32} {Ls' : Array Slot} (d : Dc code pc (.istore_n i) 1 pc') (hl : storeLocals Ls i.val (.int v) = some Ls') (H : G p l e R s m args below meth c Z.heap.size Q h k n pc' Ls' st) : G p l e R s m args below meth c Z.heap.size Q h k n pc Ls (.int v :: st) := by
  obtain ⟨hx, hZ, hown, rfl, hml, hret, hnm, -⟩ := cx
  obtain ⟨d, rfl⟩ := d
  intro T locs cells slots X N eT hk hn
  obtain ⟨s₂, o, st2, r⟩ := H T locs cells slots X N eT hk hn
  exact ⟨s₂, o, Jvm.Free.XS.istoreN X.here hx rfl d rfl hl st2, r⟩
theorem g_istore {kx nx : Nat} (cx : Cx Z p s m meth c R kx nx own nm code maxL ret) {i : Nat} {v : Int32} {Ls' : Array Slot} (d : Dc code pc (.istore i) 2 pc') (hl : storeLocals Ls i (.int v) = some Ls') (H : G p l e R s m args below meth c Z.heap.size Q h k n pc' Ls' st) : G p l e R s m args below meth c Z.heap.size Q h k n pc Ls (.int v :: st) := by
  obtain ⟨hx, hZ, hown, rfl, hml, hret, hnm, -⟩ := cx
  obtain ⟨d, rfl⟩ := d
  intro T locs cells slots X N eT hk hn
  obtain ⟨s₂, o, st2, r⟩ := H T locs cells slots X N eT hk hn
  exact ⟨s₂, o, Jvm.Free.XS.istore X.here hx rfl d rfl hl st2, r⟩
theorem g_lloadN {kx nx : Nat} (cx : Cx Z p s m meth c R kx nx own nm code maxL ret) {i : Fin 4} {v : Int64} (d : Dc code pc (.lload_n i) 1 pc') (hl : Ls[i.val]? = some (.val (.long v))) (H : G p l e R s m args below meth c Z.heap.size Q h k n pc' Ls (.long v :: st)) : G p l e R s m args below meth c Z.heap.size Q h k n pc Ls st := by
  obtain ⟨hx, hZ, hown, rfl, hml, hret, hnm, -⟩ := cx
  obtain ⟨d, rfl⟩ := d
  intro T locs cells slots X N eT hk hn
  obtain ⟨s₂, o, st2, r⟩ := H T locs cells slots X N eT hk hn
  exact ⟨s₂, o, Jvm.Free.XS.lloadN X.here hx rfl d hl st2, r⟩
theorem g_lload {kx nx : Nat} (cx : Cx Z p s m meth c R kx nx own nm code maxL ret) {i : Nat} {v : Int64} (d : Dc code pc (.lload i) 2 pc') (hl : Ls[i]? = some (.val (.long v))) (H : G p l e R s m args below meth c Z.heap.size Q h k n pc' Ls (.long v :: st)) : G p l e R s m args below meth c Z.heap.size Q h k n pc Ls st := by
  obtain ⟨hx, hZ, hown, rfl, hml, hret, hnm, -⟩ := cx
  obtain ⟨d, rfl⟩ := d
  intro T locs cells slots X N eT hk hn
  obtain ⟨s₂, o, st2, r⟩ := H T locs cells slots X N eT hk hn
  exact ⟨s₂, o, Jvm.Free.XS.lload X.here hx rfl d hl st2, r⟩
theorem g_lstoreN {kx nx : Nat} (cx : Cx Z p s m meth c R kx nx own nm code maxL ret) {i : Fin 4} {v : Int64} {Ls' : Array Slot} (d : Dc code pc (.lstore_n i) 1 pc') (hl : storeLocals Ls i.val (.long v) = some Ls') (H : G p l e R s m args below meth c Z.heap.size Q h k n pc' Ls' st) : G p l e R s m args below meth c Z.heap.size Q h k n pc Ls (.long v :: st) := by
  obtain ⟨hx, hZ, hown, rfl, hml, hret, hnm, -⟩ := cx
  obtain ⟨d, rfl⟩ := d
  intro T locs cells slots X N eT hk hn
  obtain ⟨s₂, o, st2, r⟩ := H T locs cells slots X N eT hk hn
  exact ⟨s₂, o, Jvm.Free.XS.lstoreN X.here hx rfl d rfl hl st2, r⟩
theorem g_lstore {kx nx : Nat} (cx : Cx Z p s m meth c R kx nx own nm code maxL ret) {i : Nat} {v : Int64} {Ls' : Array Slot} (d : Dc code pc (.lstore i) 2 pc') (hl : storeLocals Ls i (.long v) = some Ls') (H : G p l e R s m args below meth c Z.heap.size Q h k n pc' Ls' st) : G p l e R s m args below meth c Z.heap.size Q h k n pc Ls (.long v :: st) := by
  obtain ⟨hx, hZ, hown, rfl, hml, hret, hnm, -⟩ := cx
  obtain ⟨d, rfl⟩ := d
  intro T locs cells slots X N eT hk hn
  obtain ⟨s₂, o, st2, r⟩ := H T locs cells slots X N eT hk hn
  exact ⟨s₂, o, Jvm.Free.XS.lstore X.here hx rfl d rfl hl st2, r⟩
theorem g_aloadN {kx nx : Nat} (cx : Cx Z p s m meth c R kx nx own nm code maxL ret) {i : Fin 4} {v : Value} (d : Dc code pc (.aload_n i) 1 pc') (hl : Ls[i.val]? = some (.val v)) (hv : v.isRef = true) (H : G p l e R s m args below meth c Z.heap.size Q h k n pc' Ls (v :: st)) : G p l e R s m args below meth c Z.heap.size Q h k n pc Ls st := by
  obtain ⟨hx, hZ, hown, rfl, hml, hret, hnm, -⟩ := cx
  obtain ⟨d, rfl⟩ := d
  intro T locs cells slots X N eT hk hn
  obtain ⟨s₂, o, st2, r⟩ := H T locs cells slots X N eT hk hn
  exact ⟨s₂, o, Jvm.Free.XS.aloadN X.here hx rfl d hl hv st2, r⟩
theorem g_aload {kx nx : Nat} (cx : Cx Z p s m meth c R kx nx own nm code maxL ret) {i : Nat} {v : Value} (d : Dc code pc (.aload i) 2 pc') (hl : Ls[i]? = some (.val v)) (hv : v.isRef = true) (H : G p l e R s m args below meth c Z.heap.size Q h k n pc' Ls (v :: st)) : G p l e R s m args below meth c Z.heap.size Q h k n pc Ls st := by
  obtain ⟨hx, hZ, hown, rfl, hml, hret, hnm, -⟩ := cx
  obtain ⟨d, rfl⟩ := d
  intro T locs cells slots X N eT hk hn
  obtain ⟨s₂, o, st2, r⟩ := H T locs cells slots X N eT hk hn
  exact ⟨s₂, o, Jvm.Free.XS.aload X.here hx rfl d hl hv st2, r⟩
theorem g_astoreN {kx nx : Nat} (cx : Cx Z p s m meth c R kx nx own nm code maxL ret) {i : Fin 4} {v : Value} {Ls' : Array Slot} (d : Dc code pc (.astore_n i) 1 pc') (hv : v.isRef = true) (hl : storeLocals Ls i.val v = some Ls') (H : G p l e R s m args below meth c Z.heap.size Q h k n pc' Ls' st) : G p l e R s m args below meth c Z.heap.size Q h k n pc Ls (v :: st) := by
  obtain ⟨hx, hZ, hown, rfl, hml, hret, hnm, -⟩ := cx
  obtain ⟨d, rfl⟩ := d
  intro T locs cells slots X N eT hk hn
  obtain ⟨s₂, o, st2, r⟩ := H T locs cells slots X N eT hk hn
  exact ⟨s₂, o, Jvm.Free.XS.astoreN X.here hx rfl d rfl hv hl st2, r⟩
theorem g_astore {kx nx : Nat} (cx : Cx Z p s m meth c R kx nx own nm code maxL ret) {i : Nat} {v : Value} {Ls' : Array Slot} (d : Dc code pc (.astore i) 2 pc') (hv : v.isRef = true) (hl : storeLocals Ls i v = some Ls') (H : G p l e R s m args below meth c Z.heap.size Q h k n pc' Ls' st) : G p l e R s m args below meth c Z.heap.size Q h k n pc Ls (v :: st) := by
  obtain ⟨hx, hZ, hown, rfl, hml, hret, hnm, -⟩ := cx
  obtain ⟨d, rfl⟩ := d
  intro T locs cells slots X N eT hk hn
  obtain ⟨s₂, o, st2, r⟩ := H T locs cells slots X N eT hk hn
  exact ⟨s₂, o, Jvm.Free.XS.astore X.here hx rfl d rfl hv hl st2, r⟩
theorem g_iconst {kx nx : Nat} (cx : Cx Z p s m meth c R kx nx own nm code maxL ret) {i : Int} {v : Int32} (d : Dc code pc (.iconst i) 1 pc') (hv : Int32.ofInt i = v) (H : G p l e R s m args below meth c Z.heap.size Q h k n pc' Ls (.int v :: st)) : G p l e R s m args below meth c Z.heap.size Q h k n pc Ls st := by
  obtain ⟨hx, hZ, hown, rfl, hml, hret, hnm, -⟩ := cx
  obtain ⟨d, rfl⟩ := d
  intro T locs cells slots X N eT hk hn
  obtain ⟨s₂, o, st2, r⟩ := H T locs cells slots X N eT hk hn
  exact ⟨s₂, o, Jvm.Free.XS.iconst X.here hx rfl d (by rw [hv]; exact st2), r⟩
theorem g_bipush {kx nx : Nat} (cx : Cx Z p s m meth c R kx nx own nm code maxL ret) {i : Int} {v : Int32} (d : Dc code pc (.bipush i) 2 pc') (hv : (Int8.ofInt i).toInt32 = v) (H : G p l e R s m args below meth c Z.heap.size Q h k n pc' Ls (.int v :: st)) : G p l e R s m args below meth c Z.heap.size Q h k n pc Ls st := by
  obtain ⟨hx, hZ, hown, rfl, hml, hret, hnm, -⟩ := cx
  obtain ⟨d, rfl⟩ := d
  intro T locs cells slots X N eT hk hn
  obtain ⟨s₂, o, st2, r⟩ := H T locs cells slots X N eT hk hn
  exact ⟨s₂, o, Jvm.Free.XS.bipush X.here hx rfl d (by rw [hv]; exact st2), r⟩
theorem g_sipush {kx nx : Nat} (cx : Cx Z p s m meth c R kx nx own nm code maxL ret) {i : Int} {v : Int32} (d : Dc code pc (.sipush i) 3 pc') (hv : (Int16.ofInt i).toInt32 = v) (H : G p l e R s m args below meth c Z.heap.size Q h k n pc' Ls (.int v :: st)) : G p l e R s m args below meth c Z.heap.size Q h k n pc Ls st := by
  obtain ⟨hx, hZ, hown, rfl, hml, hret, hnm, -⟩ := cx
  obtain ⟨d, rfl⟩ := d
  intro T locs cells slots X N eT hk hn
  obtain ⟨s₂, o, st2, r⟩ := H T locs cells slots X N eT hk hn
  exact ⟨s₂, o, Jvm.Free.XS.sipush X.here hx rfl d (by rw [hv]; exact st2), r⟩
theorem g_lconst {kx nx : Nat} (cx : Cx Z p s m meth c R kx nx own nm code maxL ret) {i : Fin 2} {v : Int64} (d : Dc code pc (.lconst i) 1 pc') (hv : Int64.ofNat i = v) (H : G p l e R s m args below meth c Z.heap.size Q h k n pc' Ls (.long v :: st)) : G p l e R s m args below meth c Z.heap.size Q h k n pc Ls st := by
  obtain ⟨hx, hZ, hown, rfl, hml, hret, hnm, -⟩ := cx
  obtain ⟨d, rfl⟩ := d
  intro T locs cells slots X N eT hk hn
  obtain ⟨s₂, o, st2, r⟩ := H T locs cells slots X N eT hk hn
  exact ⟨s₂, o, Jvm.Free.XS.lconst X.here hx rfl d (by rw [hv]; exact st2), r⟩
theorem g_aconst_null {kx nx : Nat} (cx : Cx Z p s m meth c R kx nx own nm code maxL ret)  (d : Dc code pc .aconst_null 1 pc') (H : G p l e R s m args below meth c Z.heap.size Q h k n pc' Ls (.null :: st)) : G p l e R s m args below meth c Z.heap.size Q h k n pc Ls st := by
  obtain ⟨hx, hZ, hown, rfl, hml, hret, hnm, -⟩ := cx
  obtain ⟨d, rfl⟩ := d
  intro T locs cells slots X N eT hk hn
  obtain ⟨s₂, o, st2, r⟩ := H T locs cells slots X N eT hk hn
  exact ⟨s₂, o, Jvm.Free.XS.aconstNull X.here hx rfl d  st2, r⟩
theorem g_iadd {kx nx : Nat} (cx : Cx Z p s m meth c R kx nx own nm code maxL ret) {x y : Int32} (d : Dc code pc .iadd 1 pc') (H : G p l e R s m args below meth c Z.heap.size Q h k n pc' Ls (.int (x + y) :: st)) : G p l e R s m args below meth c Z.heap.size Q h k n pc Ls (.int y :: .int x :: st) := by
  obtain ⟨hx, hZ, hown, rfl, hml, hret, hnm, -⟩ := cx
  obtain ⟨d, rfl⟩ := d
  intro T locs cells slots X N eT hk hn
  obtain ⟨s₂, o, st2, r⟩ := H T locs cells slots X N eT hk hn
  exact ⟨s₂, o, Jvm.Free.XS.iadd X.here hx rfl d rfl st2, r⟩
theorem g_ladd {kx nx : Nat} (cx : Cx Z p s m meth c R kx nx own nm code maxL ret) {x y : Int64} (d : Dc code pc .ladd 1 pc') (H : G p l e R s m args below meth c Z.heap.size Q h k n pc' Ls (.long (x + y) :: st)) : G p l e R s m args below meth c Z.heap.size Q h k n pc Ls (.long y :: .long x :: st) := by
  obtain ⟨hx, hZ, hown, rfl, hml, hret, hnm, -⟩ := cx
  obtain ⟨d, rfl⟩ := d
  intro T locs cells slots X N eT hk hn
  obtain ⟨s₂, o, st2, r⟩ := H T locs cells slots X N eT hk hn
  exact ⟨s₂, o, Jvm.Free.XS.ladd X.here hx rfl d rfl st2, r⟩
theorem g_isub {kx nx : Nat} (cx : Cx Z p s m meth c R kx nx own nm code maxL ret) {x y : Int32} (d : Dc code pc .isub 1 pc') (H : G p l e R s m args below meth c Z.heap.size Q h k n pc' Ls (.int (x - y) :: st)) : G p l e R s m args below meth c Z.heap.size Q h k n pc Ls (.int y :: .int x :: st) := by
  obtain ⟨hx, hZ, hown, rfl, hml, hret, hnm, -⟩ := cx
  obtain ⟨d, rfl⟩ := d
  intro T locs cells slots X N eT hk hn
  obtain ⟨s₂, o, st2, r⟩ := H T locs cells slots X N eT hk hn
  exact ⟨s₂, o, Jvm.Free.XS.isub X.here hx rfl d rfl st2, r⟩
theorem g_lsub {kx nx : Nat} (cx : Cx Z p s m meth c R kx nx own nm code maxL ret) {x y : Int64} (d : Dc code pc .lsub 1 pc') (H : G p l e R s m args below meth c Z.heap.size Q h k n pc' Ls (.long (x - y) :: st)) : G p l e R s m args below meth c Z.heap.size Q h k n pc Ls (.long y :: .long x :: st) := by
  obtain ⟨hx, hZ, hown, rfl, hml, hret, hnm, -⟩ := cx
  obtain ⟨d, rfl⟩ := d
  intro T locs cells slots X N eT hk hn
  obtain ⟨s₂, o, st2, r⟩ := H T locs cells slots X N eT hk hn
  exact ⟨s₂, o, Jvm.Free.XS.lsub X.here hx rfl d rfl st2, r⟩
theorem g_imul {kx nx : Nat} (cx : Cx Z p s m meth c R kx nx own nm code maxL ret) {x y : Int32} (d : Dc code pc .imul 1 pc') (H : G p l e R s m args below meth c Z.heap.size Q h k n pc' Ls (.int (x * y) :: st)) : G p l e R s m args below meth c Z.heap.size Q h k n pc Ls (.int y :: .int x :: st) := by
  obtain ⟨hx, hZ, hown, rfl, hml, hret, hnm, -⟩ := cx
  obtain ⟨d, rfl⟩ := d
  intro T locs cells slots X N eT hk hn
  obtain ⟨s₂, o, st2, r⟩ := H T locs cells slots X N eT hk hn
  exact ⟨s₂, o, Jvm.Free.XS.imul X.here hx rfl d rfl st2, r⟩
theorem g_lmul {kx nx : Nat} (cx : Cx Z p s m meth c R kx nx own nm code maxL ret) {x y : Int64} (d : Dc code pc .lmul 1 pc') (H : G p l e R s m args below meth c Z.heap.size Q h k n pc' Ls (.long (x * y) :: st)) : G p l e R s m args below meth c Z.heap.size Q h k n pc Ls (.long y :: .long x :: st) := by
  obtain ⟨hx, hZ, hown, rfl, hml, hret, hnm, -⟩ := cx
  obtain ⟨d, rfl⟩ := d
  intro T locs cells slots X N eT hk hn
  obtain ⟨s₂, o, st2, r⟩ := H T locs cells slots X N eT hk hn
  exact ⟨s₂, o, Jvm.Free.XS.lmul X.here hx rfl d rfl st2, r⟩
theorem g_iand {kx nx : Nat} (cx : Cx Z p s m meth c R kx nx own nm code maxL ret) {x y : Int32} (d : Dc code pc .iand 1 pc') (H : G p l e R s m args below meth c Z.heap.size Q h k n pc' Ls (.int (x &&& y) :: st)) : G p l e R s m args below meth c Z.heap.size Q h k n pc Ls (.int y :: .int x :: st) := by
  obtain ⟨hx, hZ, hown, rfl, hml, hret, hnm, -⟩ := cx
  obtain ⟨d, rfl⟩ := d
  intro T locs cells slots X N eT hk hn
  obtain ⟨s₂, o, st2, r⟩ := H T locs cells slots X N eT hk hn
  exact ⟨s₂, o, Jvm.Free.XS.iand X.here hx rfl d rfl st2, r⟩
theorem g_land {kx nx : Nat} (cx : Cx Z p s m meth c R kx nx own nm code maxL ret) {x y : Int64} (d : Dc code pc .land 1 pc') (H : G p l e R s m args below meth c Z.heap.size Q h k n pc' Ls (.long (x &&& y) :: st)) : G p l e R s m args below meth c Z.heap.size Q h k n pc Ls (.long y :: .long x :: st) := by
  obtain ⟨hx, hZ, hown, rfl, hml, hret, hnm, -⟩ := cx
  obtain ⟨d, rfl⟩ := d
  intro T locs cells slots X N eT hk hn
  obtain ⟨s₂, o, st2, r⟩ := H T locs cells slots X N eT hk hn
  exact ⟨s₂, o, Jvm.Free.XS.land X.here hx rfl d rfl st2, r⟩
theorem g_ior {kx nx : Nat} (cx : Cx Z p s m meth c R kx nx own nm code maxL ret) {x y : Int32} (d : Dc code pc .ior 1 pc') (H : G p l e R s m args below meth c Z.heap.size Q h k n pc' Ls (.int (x ||| y) :: st)) : G p l e R s m args below meth c Z.heap.size Q h k n pc Ls (.int y :: .int x :: st) := by
  obtain ⟨hx, hZ, hown, rfl, hml, hret, hnm, -⟩ := cx
  obtain ⟨d, rfl⟩ := d
  intro T locs cells slots X N eT hk hn
  obtain ⟨s₂, o, st2, r⟩ := H T locs cells slots X N eT hk hn
  exact ⟨s₂, o, Jvm.Free.XS.ior X.here hx rfl d rfl st2, r⟩
theorem g_lor {kx nx : Nat} (cx : Cx Z p s m meth c R kx nx own nm code maxL ret) {x y : Int64} (d : Dc code pc .lor 1 pc') (H : G p l e R s m args below meth c Z.heap.size Q h k n pc' Ls (.long (x ||| y) :: st)) : G p l e R s m args below meth c Z.heap.size Q h k n pc Ls (.long y :: .long x :: st) := by
  obtain ⟨hx, hZ, hown, rfl, hml, hret, hnm, -⟩ := cx
  obtain ⟨d, rfl⟩ := d
  intro T locs cells slots X N eT hk hn
  obtain ⟨s₂, o, st2, r⟩ := H T locs cells slots X N eT hk hn
  exact ⟨s₂, o, Jvm.Free.XS.lor X.here hx rfl d rfl st2, r⟩
theorem g_ixor {kx nx : Nat} (cx : Cx Z p s m meth c R kx nx own nm code maxL ret) {x y : Int32} (d : Dc code pc .ixor 1 pc') (H : G p l e R s m args below meth c Z.heap.size Q h k n pc' Ls (.int (x ^^^ y) :: st)) : G p l e R s m args below meth c Z.heap.size Q h k n pc Ls (.int y :: .int x :: st) := by
  obtain ⟨hx, hZ, hown, rfl, hml, hret, hnm, -⟩ := cx
  obtain ⟨d, rfl⟩ := d
  intro T locs cells slots X N eT hk hn
  obtain ⟨s₂, o, st2, r⟩ := H T locs cells slots X N eT hk hn
  exact ⟨s₂, o, Jvm.Free.XS.ixor X.here hx rfl d rfl st2, r⟩
theorem g_lxor {kx nx : Nat} (cx : Cx Z p s m meth c R kx nx own nm code maxL ret) {x y : Int64} (d : Dc code pc .lxor 1 pc') (H : G p l e R s m args below meth c Z.heap.size Q h k n pc' Ls (.long (x ^^^ y) :: st)) : G p l e R s m args below meth c Z.heap.size Q h k n pc Ls (.long y :: .long x :: st) := by
  obtain ⟨hx, hZ, hown, rfl, hml, hret, hnm, -⟩ := cx
  obtain ⟨d, rfl⟩ := d
  intro T locs cells slots X N eT hk hn
  obtain ⟨s₂, o, st2, r⟩ := H T locs cells slots X N eT hk hn
  exact ⟨s₂, o, Jvm.Free.XS.lxor X.here hx rfl d rfl st2, r⟩
theorem g_ishl {kx nx : Nat} (cx : Cx Z p s m meth c R kx nx own nm code maxL ret) {x : Int32} {y : Int32} (d : Dc code pc .ishl 1 pc') (H : G p l e R s m args below meth c Z.heap.size Q h k n pc' Ls (.int (x <<< (y &&& 31)) :: st)) : G p l e R s m args below meth c Z.heap.size Q h k n pc Ls (.int y :: .int x :: st) := by
  obtain ⟨hx, hZ, hown, rfl, hml, hret, hnm, -⟩ := cx
  obtain ⟨d, rfl⟩ := d
  intro T locs cells slots X N eT hk hn
  obtain ⟨s₂, o, st2, r⟩ := H T locs cells slots X N eT hk hn
  exact ⟨s₂, o, Jvm.Free.XS.ishl X.here hx rfl d rfl st2, r⟩
theorem g_ishr {kx nx : Nat} (cx : Cx Z p s m meth c R kx nx own nm code maxL ret) {x : Int32} {y : Int32} (d : Dc code pc .ishr 1 pc') (H : G p l e R s m args below meth c Z.heap.size Q h k n pc' Ls (.int (x >>> (y &&& 31)) :: st)) : G p l e R s m args below meth c Z.heap.size Q h k n pc Ls (.int y :: .int x :: st) := by
  obtain ⟨hx, hZ, hown, rfl, hml, hret, hnm, -⟩ := cx
  obtain ⟨d, rfl⟩ := d
  intro T locs cells slots X N eT hk hn
  obtain ⟨s₂, o, st2, r⟩ := H T locs cells slots X N eT hk hn
  exact ⟨s₂, o, Jvm.Free.XS.ishr X.here hx rfl d rfl st2, r⟩
theorem g_iushr {kx nx : Nat} (cx : Cx Z p s m meth c R kx nx own nm code maxL ret) {x : Int32} {y : Int32} (d : Dc code pc .iushr 1 pc') (H : G p l e R s m args below meth c Z.heap.size Q h k n pc' Ls (.int ((x.toUInt32 >>> (y &&& 31).toUInt32).toInt32) :: st)) : G p l e R s m args below meth c Z.heap.size Q h k n pc Ls (.int y :: .int x :: st) := by
  obtain ⟨hx, hZ, hown, rfl, hml, hret, hnm, -⟩ := cx
  obtain ⟨d, rfl⟩ := d
  intro T locs cells slots X N eT hk hn
  obtain ⟨s₂, o, st2, r⟩ := H T locs cells slots X N eT hk hn
  exact ⟨s₂, o, Jvm.Free.XS.iushr X.here hx rfl d rfl st2, r⟩
theorem g_lshl {kx nx : Nat} (cx : Cx Z p s m meth c R kx nx own nm code maxL ret) {x : Int64} {y : Int32} (d : Dc code pc .lshl 1 pc') (H : G p l e R s m args below meth c Z.heap.size Q h k n pc' Ls (.long (x <<< (y &&& 0x3f).toInt64) :: st)) : G p l e R s m args below meth c Z.heap.size Q h k n pc Ls (.int y :: .long x :: st) := by
  obtain ⟨hx, hZ, hown, rfl, hml, hret, hnm, -⟩ := cx
  obtain ⟨d, rfl⟩ := d
  intro T locs cells slots X N eT hk hn
  obtain ⟨s₂, o, st2, r⟩ := H T locs cells slots X N eT hk hn
  exact ⟨s₂, o, Jvm.Free.XS.lshl X.here hx rfl d rfl st2, r⟩
theorem g_lshr {kx nx : Nat} (cx : Cx Z p s m meth c R kx nx own nm code maxL ret) {x : Int64} {y : Int32} (d : Dc code pc .lshr 1 pc') (H : G p l e R s m args below meth c Z.heap.size Q h k n pc' Ls (.long (x >>> (y &&& 0x3f).toInt64) :: st)) : G p l e R s m args below meth c Z.heap.size Q h k n pc Ls (.int y :: .long x :: st) := by
  obtain ⟨hx, hZ, hown, rfl, hml, hret, hnm, -⟩ := cx
  obtain ⟨d, rfl⟩ := d
  intro T locs cells slots X N eT hk hn
  obtain ⟨s₂, o, st2, r⟩ := H T locs cells slots X N eT hk hn
  exact ⟨s₂, o, Jvm.Free.XS.lshr X.here hx rfl d rfl st2, r⟩
theorem g_lushr {kx nx : Nat} (cx : Cx Z p s m meth c R kx nx own nm code maxL ret) {x : Int64} {y : Int32} (d : Dc code pc .lushr 1 pc') (H : G p l e R s m args below meth c Z.heap.size Q h k n pc' Ls (.long ((x.toUInt64 >>> (y &&& 0x3f).toInt64.toUInt64).toInt64) :: st)) : G p l e R s m args below meth c Z.heap.size Q h k n pc Ls (.int y :: .long x :: st) := by
  obtain ⟨hx, hZ, hown, rfl, hml, hret, hnm, -⟩ := cx
  obtain ⟨d, rfl⟩ := d
  intro T locs cells slots X N eT hk hn
  obtain ⟨s₂, o, st2, r⟩ := H T locs cells slots X N eT hk hn
  exact ⟨s₂, o, Jvm.Free.XS.lushr X.here hx rfl d rfl st2, r⟩
theorem g_ineg {kx nx : Nat} (cx : Cx Z p s m meth c R kx nx own nm code maxL ret) {x : Int32} (d : Dc code pc .ineg 1 pc') (H : G p l e R s m args below meth c Z.heap.size Q h k n pc' Ls (.int (-x) :: st)) : G p l e R s m args below meth c Z.heap.size Q h k n pc Ls (.int x :: st) := by
  obtain ⟨hx, hZ, hown, rfl, hml, hret, hnm, -⟩ := cx
  obtain ⟨d, rfl⟩ := d
  intro T locs cells slots X N eT hk hn
  obtain ⟨s₂, o, st2, r⟩ := H T locs cells slots X N eT hk hn
  exact ⟨s₂, o, Jvm.Free.XS.ineg X.here hx rfl d rfl st2, r⟩
theorem g_lneg {kx nx : Nat} (cx : Cx Z p s m meth c R kx nx own nm code maxL ret) {x : Int64} (d : Dc code pc .lneg 1 pc') (H : G p l e R s m args below meth c Z.heap.size Q h k n pc' Ls (.long (-x) :: st)) : G p l e R s m args below meth c Z.heap.size Q h k n pc Ls (.long x :: st) := by
  obtain ⟨hx, hZ, hown, rfl, hml, hret, hnm, -⟩ := cx
  obtain ⟨d, rfl⟩ := d
  intro T locs cells slots X N eT hk hn
  obtain ⟨s₂, o, st2, r⟩ := H T locs cells slots X N eT hk hn
  exact ⟨s₂, o, Jvm.Free.XS.lneg X.here hx rfl d rfl st2, r⟩
theorem g_i2l {kx nx : Nat} (cx : Cx Z p s m meth c R kx nx own nm code maxL ret) {x : Int32} (d : Dc code pc .i2l 1 pc') (H : G p l e R s m args below meth c Z.heap.size Q h k n pc' Ls (.long (x.toInt64) :: st)) : G p l e R s m args below meth c Z.heap.size Q h k n pc Ls (.int x :: st) := by
  obtain ⟨hx, hZ, hown, rfl, hml, hret, hnm, -⟩ := cx
  obtain ⟨d, rfl⟩ := d
  intro T locs cells slots X N eT hk hn
  obtain ⟨s₂, o, st2, r⟩ := H T locs cells slots X N eT hk hn
  exact ⟨s₂, o, Jvm.Free.XS.i2l X.here hx rfl d rfl st2, r⟩
theorem g_l2i {kx nx : Nat} (cx : Cx Z p s m meth c R kx nx own nm code maxL ret) {x : Int64} (d : Dc code pc .l2i 1 pc') (H : G p l e R s m args below meth c Z.heap.size Q h k n pc' Ls (.int (x.toInt32) :: st)) : G p l e R s m args below meth c Z.heap.size Q h k n pc Ls (.long x :: st) := by
  obtain ⟨hx, hZ, hown, rfl, hml, hret, hnm, -⟩ := cx
  obtain ⟨d, rfl⟩ := d
  intro T locs cells slots X N eT hk hn
  obtain ⟨s₂, o, st2, r⟩ := H T locs cells slots X N eT hk hn
  exact ⟨s₂, o, Jvm.Free.XS.l2i X.here hx rfl d rfl st2, r⟩
theorem g_i2b {kx nx : Nat} (cx : Cx Z p s m meth c R kx nx own nm code maxL ret) {x : Int32} (d : Dc code pc .i2b 1 pc') (H : G p l e R s m args below meth c Z.heap.size Q h k n pc' Ls (.int (x.toInt8.toInt32) :: st)) : G p l e R s m args below meth c Z.heap.size Q h k n pc Ls (.int x :: st) := by
  obtain ⟨hx, hZ, hown, rfl, hml, hret, hnm, -⟩ := cx
  obtain ⟨d, rfl⟩ := d
  intro T locs cells slots X N eT hk hn
  obtain ⟨s₂, o, st2, r⟩ := H T locs cells slots X N eT hk hn
  exact ⟨s₂, o, Jvm.Free.XS.i2b X.here hx rfl d rfl st2, r⟩
theorem g_i2s {kx nx : Nat} (cx : Cx Z p s m meth c R kx nx own nm code maxL ret) {x : Int32} (d : Dc code pc .i2s 1 pc') (H : G p l e R s m args below meth c Z.heap.size Q h k n pc' Ls (.int (x.toInt16.toInt32) :: st)) : G p l e R s m args below meth c Z.heap.size Q h k n pc Ls (.int x :: st) := by
  obtain ⟨hx, hZ, hown, rfl, hml, hret, hnm, -⟩ := cx
  obtain ⟨d, rfl⟩ := d
  intro T locs cells slots X N eT hk hn
  obtain ⟨s₂, o, st2, r⟩ := H T locs cells slots X N eT hk hn
  exact ⟨s₂, o, Jvm.Free.XS.i2s X.here hx rfl d rfl st2, r⟩
theorem g_i2c {kx nx : Nat} (cx : Cx Z p s m meth c R kx nx own nm code maxL ret) {x : Int32} (d : Dc code pc .i2c 1 pc') (H : G p l e R s m args below meth c Z.heap.size Q h k n pc' Ls (.int (x.toUInt32.toUInt16.toUInt32.toInt32) :: st)) : G p l e R s m args below meth c Z.heap.size Q h k n pc Ls (.int x :: st) := by
  obtain ⟨hx, hZ, hown, rfl, hml, hret, hnm, -⟩ := cx
  obtain ⟨d, rfl⟩ := d
  intro T locs cells slots X N eT hk hn
  obtain ⟨s₂, o, st2, r⟩ := H T locs cells slots X N eT hk hn
  exact ⟨s₂, o, Jvm.Free.XS.i2c X.here hx rfl d rfl st2, r⟩
theorem g_idiv {kx nx : Nat} (cx : Cx Z p s m meth c R kx nx own nm code maxL ret) {x y : Int32} (d : Dc code pc .idiv 1 pc') (hy : y ≠ 0) (H : G p l e R s m args below meth c Z.heap.size Q h k n pc' Ls (.int (x / y) :: st)) : G p l e R s m args below meth c Z.heap.size Q h k n pc Ls (.int y :: .int x :: st) := by
  obtain ⟨hx, hZ, hown, rfl, hml, hret, hnm, -⟩ := cx
  obtain ⟨d, rfl⟩ := d
  intro T locs cells slots X N eT hk hn
  obtain ⟨s₂, o, st2, r⟩ := H T locs cells slots X N eT hk hn
  exact ⟨s₂, o, Jvm.Free.XS.idiv X.here hx rfl d rfl hy st2, r⟩
theorem g_ldiv {kx nx : Nat} (cx : Cx Z p s m meth c R kx nx own nm code maxL ret) {x y : Int64} (d : Dc code pc .ldiv 1 pc') (hy : y ≠ 0) (H : G p l e R s m args below meth c Z.heap.size Q h k n pc' Ls (.long (x / y) :: st)) : G p l e R s m args below meth c Z.heap.size Q h k n pc Ls (.long y :: .long x :: st) := by
  obtain ⟨hx, hZ, hown, rfl, hml, hret, hnm, -⟩ := cx
  obtain ⟨d, rfl⟩ := d
  intro T locs cells slots X N eT hk hn
  obtain ⟨s₂, o, st2, r⟩ := H T locs cells slots X N eT hk hn
  exact ⟨s₂, o, Jvm.Free.XS.ldiv X.here hx rfl d rfl hy st2, r⟩
theorem g_irem {kx nx : Nat} (cx : Cx Z p s m meth c R kx nx own nm code maxL ret) {x y : Int32} (d : Dc code pc .irem 1 pc') (hy : y ≠ 0) (H : G p l e R s m args below meth c Z.heap.size Q h k n pc' Ls (.int (x % y) :: st)) : G p l e R s m args below meth c Z.heap.size Q h k n pc Ls (.int y :: .int x :: st) := by
  obtain ⟨hx, hZ, hown, rfl, hml, hret, hnm, -⟩ := cx
  obtain ⟨d, rfl⟩ := d
  intro T locs cells slots X N eT hk hn
  obtain ⟨s₂, o, st2, r⟩ := H T locs cells slots X N eT hk hn
  exact ⟨s₂, o, Jvm.Free.XS.irem X.here hx rfl d rfl hy (by rw [irem_eq_mod]; exact st2), r⟩
theorem g_lrem {kx nx : Nat} (cx : Cx Z p s m meth c R kx nx own nm code maxL ret) {x y : Int64} (d : Dc code pc .lrem 1 pc') (hy : y ≠ 0) (H : G p l e R s m args below meth c Z.heap.size Q h k n pc' Ls (.long (x % y) :: st)) : G p l e R s m args below meth c Z.heap.size Q h k n pc Ls (.long y :: .long x :: st) := by
  obtain ⟨hx, hZ, hown, rfl, hml, hret, hnm, -⟩ := cx
  obtain ⟨d, rfl⟩ := d
  intro T locs cells slots X N eT hk hn
  obtain ⟨s₂, o, st2, r⟩ := H T locs cells slots X N eT hk hn
  exact ⟨s₂, o, Jvm.Free.XS.lrem X.here hx rfl d rfl hy (by rw [lrem_mod]; exact st2), r⟩
theorem g_iinc {kx nx : Nat} (cx : Cx Z p s m meth c R kx nx own nm code maxL ret) {i : Nat} {z : Int} {x v : Int32} {Ls' : Array Slot} (d : Dc code pc (.iinc i z) 3 pc') (hl : Ls[i]? = some (.val (.int x))) (hv : Int32.ofInt z = v) (hl' : storeLocals Ls i (.int (x + v)) = some Ls') (H : G p l e R s m args below meth c Z.heap.size Q h k n pc' Ls' st) : G p l e R s m args below meth c Z.heap.size Q h k n pc Ls st := by
  obtain ⟨hx, hZ, hown, rfl, hml, hret, hnm, -⟩ := cx
  obtain ⟨d, rfl⟩ := d
  intro T locs cells slots X N eT hk hn
  obtain ⟨s₂, o, st2, r⟩ := H T locs cells slots X N eT hk hn
  exact ⟨s₂, o, Jvm.Free.XS.iinc X.here hx rfl d hl (by rw [hv]; exact hl') st2, r⟩
theorem g_dup {kx nx : Nat} (cx : Cx Z p s m meth c R kx nx own nm code maxL ret) {v : Value} (d : Dc code pc .dup 1 pc') (hc : v.category = 1) (H : G p l e R s m args below meth c Z.heap.size Q h k n pc' Ls (v :: v :: st)) : G p l e R s m args below meth c Z.heap.size Q h k n pc Ls (v :: st) := by
  obtain ⟨hx, hZ, hown, rfl, hml, hret, hnm, -⟩ := cx
  obtain ⟨d, rfl⟩ := d
  intro T locs cells slots X N eT hk hn
  obtain ⟨s₂, o, st2, r⟩ := H T locs cells slots X N eT hk hn
  exact ⟨s₂, o, Jvm.Free.XS.dup X.here hx rfl d rfl hc st2, r⟩
theorem g_pop {kx nx : Nat} (cx : Cx Z p s m meth c R kx nx own nm code maxL ret) {v : Value} (d : Dc code pc .pop 1 pc') (hc : v.category = 1) (H : G p l e R s m args below meth c Z.heap.size Q h k n pc' Ls st) : G p l e R s m args below meth c Z.heap.size Q h k n pc Ls (v :: st) := by
  obtain ⟨hx, hZ, hown, rfl, hml, hret, hnm, -⟩ := cx
  obtain ⟨d, rfl⟩ := d
  intro T locs cells slots X N eT hk hn
  obtain ⟨s₂, o, st2, r⟩ := H T locs cells slots X N eT hk hn
  exact ⟨s₂, o, Jvm.Free.XS.pop X.here hx rfl d rfl hc st2, r⟩
theorem g_dup_x1 {kx nx : Nat} (cx : Cx Z p s m meth c R kx nx own nm code maxL ret) {v w : Value} (d : Dc code pc .dup_x1 1 pc') (hc : v.category = 1) (hc2 : w.category = 1) (H : G p l e R s m args below meth c Z.heap.size Q h k n pc' Ls (v :: w :: v :: st)) : G p l e R s m args below meth c Z.heap.size Q h k n pc Ls (v :: w :: st) := by
  obtain ⟨hx, hZ, hown, rfl, hml, hret, hnm, -⟩ := cx
  obtain ⟨d, rfl⟩ := d
  intro T locs cells slots X N eT hk hn
  obtain ⟨s₂, o, st2, r⟩ := H T locs cells slots X N eT hk hn
  exact ⟨s₂, o, Jvm.Free.XS.dupX1 X.here hx rfl d rfl hc hc2 st2, r⟩
theorem g_dup2 {kx nx : Nat} (cx : Cx Z p s m meth c R kx nx own nm code maxL ret) {v w : Value} (d : Dc code pc .dup2 1 pc') (hc : v.category = 1) (hc2 : w.category = 1) (H : G p l e R s m args below meth c Z.heap.size Q h k n pc' Ls (v :: w :: v :: w :: st)) : G p l e R s m args below meth c Z.heap.size Q h k n pc Ls (v :: w :: st) := by
  obtain ⟨hx, hZ, hown, rfl, hml, hret, hnm, -⟩ := cx
  obtain ⟨d, rfl⟩ := d
  intro T locs cells slots X N eT hk hn
  obtain ⟨s₂, o, st2, r⟩ := H T locs cells slots X N eT hk hn
  exact ⟨s₂, o, Jvm.Free.XT.dup2 X.here hx rfl d rfl hc hc2 st2, r⟩
theorem g_dup2L {kx nx : Nat} (cx : Cx Z p s m meth c R kx nx own nm code maxL ret) {v : Int64} (d : Dc code pc .dup2 1 pc') (H : G p l e R s m args below meth c Z.heap.size Q h k n pc' Ls (.long v :: .long v :: st)) : G p l e R s m args below meth c Z.heap.size Q h k n pc Ls (.long v :: st) := by
  obtain ⟨hx, hZ, hown, rfl, hml, hret, hnm, -⟩ := cx
  obtain ⟨d, rfl⟩ := d
  intro T locs cells slots X N eT hk hn
  obtain ⟨s₂, o, st2, r⟩ := H T locs cells slots X N eT hk hn
  exact ⟨s₂, o, Jvm.Free.XT.dup2L X.here hx rfl d rfl st2, r⟩
theorem g_goto {kx nx : Nat} (cx : Cx Z p s m meth c R kx nx own nm code maxL ret) (d : Bi code pc Instr.goto pcY pcN) (H : G p l e R s m args below meth c Z.heap.size Q h k n pcY Ls st) : G p l e R s m args below meth c Z.heap.size Q h k n pc Ls st := by
  obtain ⟨hx, hZ, hown, rfl, hml, hret, hnm, -⟩ := cx
  obtain ⟨o', d, ho, rfl, rfl⟩ := d
  intro T locs cells slots X N eT hk hn
  obtain ⟨s₂, o, st2, r⟩ := H T locs cells slots X N eT hk hn
  exact ⟨s₂, o, Jvm.Free.XS.goto X.here hx rfl (pc0 := pc) rfl d ho rfl st2, r⟩
theorem g_ifB {kx nx : Nat} (cx : Cx Z p s m meth c R kx nx own nm code maxL ret) {cd : ClassFile.Cond} {x : Int32} (d : Bi code pc (Instr.ifCond cd) pcY pcN) (HY : if_icmp.holds cd x 0 = true → G p l e R s m args below meth c Z.heap.size Q h k n pcY Ls st) (HN : if_icmp.holds cd x 0 = false → G p l e R s m args below meth c Z.heap.size Q h k n pcN Ls st) : G p l e R s m args below meth c Z.heap.size Q h k n pc Ls (.int x :: st) := by
  obtain ⟨hx, hZ, hown, rfl, hml, hret, hnm, -⟩ := cx
  obtain ⟨o', d, ho, rfl, rfl⟩ := d
  intro T locs cells slots X N eT hk hn
  cases hc : if_icmp.holds cd x 0
  · obtain ⟨s₂, o, st2, r⟩ := HN hc T locs cells slots X N eT hk hn
    exact ⟨s₂, o, Jvm.Free.XS.ifNo X.here hx rfl d rfl ((if0 _ _).trans hc) st2, r⟩
  · obtain ⟨s₂, o, st2, r⟩ := HY hc T locs cells slots X N eT hk hn
    exact ⟨s₂, o, Jvm.Free.XS.ifYes X.here hx rfl (pc0 := pc) rfl d rfl ((if0 _ _).trans hc) ho rfl st2, r⟩
theorem g_icmpB {kx nx : Nat} (cx : Cx Z p s m meth c R kx nx own nm code maxL ret) {cd : ClassFile.Cond} {x y : Int32} (d : Bi code pc (Instr.if_icmp cd) pcY pcN) (HY : if_icmp.holds cd x y = true → G p l e R s m args below meth c Z.heap.size Q h k n pcY Ls st) (HN : if_icmp.holds cd x y = false → G p l e R s m args below meth c Z.heap.size Q h k n pcN Ls st) : G p l e R s m args below meth c Z.heap.size Q h k n pc Ls (.int y :: .int x :: st) := by
  obtain ⟨hx, hZ, hown, rfl, hml, hret, hnm, -⟩ := cx
  obtain ⟨o', d, ho, rfl, rfl⟩ := d
  intro T locs cells slots X N eT hk hn
  cases hc : if_icmp.holds cd x y
  · obtain ⟨s₂, o, st2, r⟩ := HN hc T locs cells slots X N eT hk hn
    exact ⟨s₂, o, Jvm.Free.XS.icmpNo X.here hx rfl d rfl hc st2, r⟩
  · obtain ⟨s₂, o, st2, r⟩ := HY hc T locs cells slots X N eT hk hn
    exact ⟨s₂, o, Jvm.Free.XS.icmpYes X.here hx rfl (pc0 := pc) rfl d rfl hc ho rfl st2, r⟩
theorem h_eq {x y : Int32} : if_icmp.holds .eq x y = decide (x = y) := by by_cases h : x = y <;> simp [if_icmp.holds, h]
theorem h_ne {x y : Int32} : if_icmp.holds .ne x y = !decide (x = y) := by by_cases h : x = y <;> simp [if_icmp.holds, h]
theorem h_lt {x y : Int32} : if_icmp.holds .lt x y = decide (x < y) := by by_cases h : x < y <;> simp [if_icmp.holds, h]
theorem h_ge {x y : Int32} : if_icmp.holds .ge x y = !decide (x < y) := by by_cases h : x < y <;> simp [if_icmp.holds, h, Int32.not_le.mpr, Int32.not_lt.mp]
theorem h_gt {x y : Int32} : if_icmp.holds .gt x y = decide (y < x) := by by_cases h : y < x <;> simp [if_icmp.holds, h]
theorem h_le {x y : Int32} : if_icmp.holds .le x y = !decide (y < x) := by by_cases h : y < x <;> simp [if_icmp.holds, h, Int32.not_le.mpr, Int32.not_lt.mp]
theorem g_if_eq {kx nx : Nat} (cx : Cx Z p s m meth c R kx nx own nm code maxL ret) {x : Int32} (d : Bi code pc (Instr.ifCond .eq) pcY pcN) (HY : x = 0 → G p l e R s m args below meth c Z.heap.size Q h k n pcY Ls st) (HN : ¬ x = 0 → G p l e R s m args below meth c Z.heap.size Q h k n pcN Ls st) : G p l e R s m args below meth c Z.heap.size Q h k n pc Ls (.int x :: st) :=
  g_ifB cx d (fun q => HY (by rw [h_eq] at q; simpa using q)) (fun q => HN (by rw [h_eq] at q; simpa using q))
theorem g_icmp_eq {kx nx : Nat} (cx : Cx Z p s m meth c R kx nx own nm code maxL ret) {x y : Int32} (d : Bi code pc (Instr.if_icmp .eq) pcY pcN) (HY : x = y → G p l e R s m args below meth c Z.heap.size Q h k n pcY Ls st) (HN : ¬ x = y → G p l e R s m args below meth c Z.heap.size Q h k n pcN Ls st) : G p l e R s m args below meth c Z.heap.size Q h k n pc Ls (.int y :: .int x :: st) :=
  g_icmpB cx d (fun q => HY (by rw [h_eq] at q; simpa using q)) (fun q => HN (by rw [h_eq] at q; simpa using q))
theorem g_if_ne {kx nx : Nat} (cx : Cx Z p s m meth c R kx nx own nm code maxL ret) {x : Int32} (d : Bi code pc (Instr.ifCond .ne) pcY pcN) (HY : ¬ x = 0 → G p l e R s m args below meth c Z.heap.size Q h k n pcY Ls st) (HN : x = 0 → G p l e R s m args below meth c Z.heap.size Q h k n pcN Ls st) : G p l e R s m args below meth c Z.heap.size Q h k n pc Ls (.int x :: st) :=
  g_ifB cx d (fun q => HY (by rw [h_ne] at q; simpa using q)) (fun q => HN (by rw [h_ne] at q; simpa using q))
theorem g_icmp_ne {kx nx : Nat} (cx : Cx Z p s m meth c R kx nx own nm code maxL ret) {x y : Int32} (d : Bi code pc (Instr.if_icmp .ne) pcY pcN) (HY : ¬ x = y → G p l e R s m args below meth c Z.heap.size Q h k n pcY Ls st) (HN : x = y → G p l e R s m args below meth c Z.heap.size Q h k n pcN Ls st) : G p l e R s m args below meth c Z.heap.size Q h k n pc Ls (.int y :: .int x :: st) :=
  g_icmpB cx d (fun q => HY (by rw [h_ne] at q; simpa using q)) (fun q => HN (by rw [h_ne] at q; simpa using q))
theorem g_if_lt {kx nx : Nat} (cx : Cx Z p s m meth c R kx nx own nm code maxL ret) {x : Int32} (d : Bi code pc (Instr.ifCond .lt) pcY pcN) (HY : x < 0 → G p l e R s m args below meth c Z.heap.size Q h k n pcY Ls st) (HN : ¬ x < 0 → G p l e R s m args below meth c Z.heap.size Q h k n pcN Ls st) : G p l e R s m args below meth c Z.heap.size Q h k n pc Ls (.int x :: st) :=
  g_ifB cx d (fun q => HY (by rw [h_lt] at q; simpa using q)) (fun q => HN (by rw [h_lt] at q; simpa using q))
theorem g_icmp_lt {kx nx : Nat} (cx : Cx Z p s m meth c R kx nx own nm code maxL ret) {x y : Int32} (d : Bi code pc (Instr.if_icmp .lt) pcY pcN) (HY : x < y → G p l e R s m args below meth c Z.heap.size Q h k n pcY Ls st) (HN : ¬ x < y → G p l e R s m args below meth c Z.heap.size Q h k n pcN Ls st) : G p l e R s m args below meth c Z.heap.size Q h k n pc Ls (.int y :: .int x :: st) :=
  g_icmpB cx d (fun q => HY (by rw [h_lt] at q; simpa using q)) (fun q => HN (by rw [h_lt] at q; simpa using q))
theorem g_if_ge {kx nx : Nat} (cx : Cx Z p s m meth c R kx nx own nm code maxL ret) {x : Int32} (d : Bi code pc (Instr.ifCond .ge) pcY pcN) (HY : ¬ x < 0 → G p l e R s m args below meth c Z.heap.size Q h k n pcY Ls st) (HN : x < 0 → G p l e R s m args below meth c Z.heap.size Q h k n pcN Ls st) : G p l e R s m args below meth c Z.heap.size Q h k n pc Ls (.int x :: st) :=
  g_ifB cx d (fun q => HY (by rw [h_ge] at q; simpa using q)) (fun q => HN (by rw [h_ge] at q; simpa using q))
theorem g_icmp_ge {kx nx : Nat} (cx : Cx Z p s m meth c R kx nx own nm code maxL ret) {x y : Int32} (d : Bi code pc (Instr.if_icmp .ge) pcY pcN) (HY : ¬ x < y → G p l e R s m args below meth c Z.heap.size Q h k n pcY Ls st) (HN : x < y → G p l e R s m args below meth c Z.heap.size Q h k n pcN Ls st) : G p l e R s m args below meth c Z.heap.size Q h k n pc Ls (.int y :: .int x :: st) :=
  g_icmpB cx d (fun q => HY (by rw [h_ge] at q; simpa using q)) (fun q => HN (by rw [h_ge] at q; simpa using q))
theorem g_if_gt {kx nx : Nat} (cx : Cx Z p s m meth c R kx nx own nm code maxL ret) {x : Int32} (d : Bi code pc (Instr.ifCond .gt) pcY pcN) (HY : 0 < x → G p l e R s m args below meth c Z.heap.size Q h k n pcY Ls st) (HN : ¬ 0 < x → G p l e R s m args below meth c Z.heap.size Q h k n pcN Ls st) : G p l e R s m args below meth c Z.heap.size Q h k n pc Ls (.int x :: st) :=
  g_ifB cx d (fun q => HY (by rw [h_gt] at q; simpa using q)) (fun q => HN (by rw [h_gt] at q; simpa using q))
theorem g_icmp_gt {kx nx : Nat} (cx : Cx Z p s m meth c R kx nx own nm code maxL ret) {x y : Int32} (d : Bi code pc (Instr.if_icmp .gt) pcY pcN) (HY : y < x → G p l e R s m args below meth c Z.heap.size Q h k n pcY Ls st) (HN : ¬ y < x → G p l e R s m args below meth c Z.heap.size Q h k n pcN Ls st) : G p l e R s m args below meth c Z.heap.size Q h k n pc Ls (.int y :: .int x :: st) :=
  g_icmpB cx d (fun q => HY (by rw [h_gt] at q; simpa using q)) (fun q => HN (by rw [h_gt] at q; simpa using q))
theorem g_if_le {kx nx : Nat} (cx : Cx Z p s m meth c R kx nx own nm code maxL ret) {x : Int32} (d : Bi code pc (Instr.ifCond .le) pcY pcN) (HY : ¬ 0 < x → G p l e R s m args below meth c Z.heap.size Q h k n pcY Ls st) (HN : 0 < x → G p l e R s m args below meth c Z.heap.size Q h k n pcN Ls st) : G p l e R s m args below meth c Z.heap.size Q h k n pc Ls (.int x :: st) :=
  g_ifB cx d (fun q => HY (by rw [h_le] at q; simpa using q)) (fun q => HN (by rw [h_le] at q; simpa using q))
theorem g_icmp_le {kx nx : Nat} (cx : Cx Z p s m meth c R kx nx own nm code maxL ret) {x y : Int32} (d : Bi code pc (Instr.if_icmp .le) pcY pcN) (HY : ¬ y < x → G p l e R s m args below meth c Z.heap.size Q h k n pcY Ls st) (HN : y < x → G p l e R s m args below meth c Z.heap.size Q h k n pcN Ls st) : G p l e R s m args below meth c Z.heap.size Q h k n pc Ls (.int y :: .int x :: st) :=
  g_icmpB cx d (fun q => HY (by rw [h_le] at q; simpa using q)) (fun q => HN (by rw [h_le] at q; simpa using q))
theorem g_lcmp {kx nx : Nat} (cx : Cx Z p s m meth c R kx nx own nm code maxL ret) {x y : Int64} (d : Dc code pc .lcmp 1 pc') (H : G p l e R s m args below meth c Z.heap.size Q h k n pc' Ls (.int (lcmpW x y) :: st)) : G p l e R s m args below meth c Z.heap.size Q h k n pc Ls (.long y :: .long x :: st) := by
  obtain ⟨hx, hZ, hown, rfl, hml, hret, hnm, -⟩ := cx
  obtain ⟨d, rfl⟩ := d
  intro T locs cells slots X N eT hk hn
  obtain ⟨s₂, o, st2, r⟩ := H T locs cells slots X N eT hk hn
  exact ⟨s₂, o, Jvm.Free.XS.lcmp X.here hx rfl d rfl st2, r⟩
theorem g_lif_eq {kx nx : Nat} (cx : Cx Z p s m meth c R kx nx own nm code maxL ret) {x y : Int64} (d0 : Dc code pc .lcmp 1 pc') (d : Bi code pc' (Instr.ifCond .eq) pcY pcN) (HY : x = y → G p l e R s m args below meth c Z.heap.size Q h k n pcY Ls st) (HN : ¬ x = y → G p l e R s m args below meth c Z.heap.size Q h k n pcN Ls st) : G p l e R s m args below meth c Z.heap.size Q h k n pc Ls (.long y :: .long x :: st) :=
  g_lcmp cx d0 (g_if_eq cx d (fun q => HY ((lw_eq x y).mp q)) (fun q => HN (fun z => q ((lw_eq x y).mpr z))))
theorem g_lif_ne {kx nx : Nat} (cx : Cx Z p s m meth c R kx nx own nm code maxL ret) {x y : Int64} (d0 : Dc code pc .lcmp 1 pc') (d : Bi code pc' (Instr.ifCond .ne) pcY pcN) (HY : ¬ x = y → G p l e R s m args below meth c Z.heap.size Q h k n pcY Ls st) (HN : x = y → G p l e R s m args below meth c Z.heap.size Q h k n pcN Ls st) : G p l e R s m args below meth c Z.heap.size Q h k n pc Ls (.long y :: .long x :: st) :=
  g_lcmp cx d0 (g_if_ne cx d (fun q => HY (fun z => q ((lw_eq x y).mpr z))) (fun q => HN ((lw_eq x y).mp q)))
theorem g_lif_lt {kx nx : Nat} (cx : Cx Z p s m meth c R kx nx own nm code maxL ret) {x y : Int64} (d0 : Dc code pc .lcmp 1 pc') (d : Bi code pc' (Instr.ifCond .lt) pcY pcN) (HY : x < y → G p l e R s m args below meth c Z.heap.size Q h k n pcY Ls st) (HN : ¬ x < y → G p l e R s m args below meth c Z.heap.size Q h k n pcN Ls st) : G p l e R s m args below meth c Z.heap.size Q h k n pc Ls (.long y :: .long x :: st) :=
  g_lcmp cx d0 (g_if_lt cx d (fun q => HY ((lw_lt x y).mp q)) (fun q => HN (fun z => q ((lw_lt x y).mpr z))))
theorem g_lif_ge {kx nx : Nat} (cx : Cx Z p s m meth c R kx nx own nm code maxL ret) {x y : Int64} (d0 : Dc code pc .lcmp 1 pc') (d : Bi code pc' (Instr.ifCond .ge) pcY pcN) (HY : ¬ x < y → G p l e R s m args below meth c Z.heap.size Q h k n pcY Ls st) (HN : x < y → G p l e R s m args below meth c Z.heap.size Q h k n pcN Ls st) : G p l e R s m args below meth c Z.heap.size Q h k n pc Ls (.long y :: .long x :: st) :=
  g_lcmp cx d0 (g_if_ge cx d (fun q => HY (fun z => q ((lw_lt x y).mpr z))) (fun q => HN ((lw_lt x y).mp q)))
theorem g_lif_gt {kx nx : Nat} (cx : Cx Z p s m meth c R kx nx own nm code maxL ret) {x y : Int64} (d0 : Dc code pc .lcmp 1 pc') (d : Bi code pc' (Instr.ifCond .gt) pcY pcN) (HY : y < x → G p l e R s m args below meth c Z.heap.size Q h k n pcY Ls st) (HN : ¬ y < x → G p l e R s m args below meth c Z.heap.size Q h k n pcN Ls st) : G p l e R s m args below meth c Z.heap.size Q h k n pc Ls (.long y :: .long x :: st) :=
  g_lcmp cx d0 (g_if_gt cx d (fun q => HY ((lw_gt x y).mp q)) (fun q => HN (fun z => q ((lw_gt x y).mpr z))))
theorem g_lif_le {kx nx : Nat} (cx : Cx Z p s m meth c R kx nx own nm code maxL ret) {x y : Int64} (d0 : Dc code pc .lcmp 1 pc') (d : Bi code pc' (Instr.ifCond .le) pcY pcN) (HY : ¬ y < x → G p l e R s m args below meth c Z.heap.size Q h k n pcY Ls st) (HN : y < x → G p l e R s m args below meth c Z.heap.size Q h k n pcN Ls st) : G p l e R s m args below meth c Z.heap.size Q h k n pc Ls (.long y :: .long x :: st) :=
  g_lcmp cx d0 (g_if_le cx d (fun q => HY (fun z => q ((lw_gt x y).mpr z))) (fun q => HN ((lw_gt x y).mp q)))
theorem g_acmp {kx nx : Nat} (cx : Cx Z p s m meth c R kx nx own nm code maxL ret) {cd : ACond} {x y : Value} (h1 : x.isRef = true) (h2 : y.isRef = true) (d : Bi code pc (Instr.if_acmp cd) pcY pcN) (HY : x = y → G p l e R s m args below meth c Z.heap.size Q h k n (if acV cd true = true then pcY else pcN) Ls st) (HN : ¬ x = y → G p l e R s m args below meth c Z.heap.size Q h k n (if acV cd false = true then pcY else pcN) Ls st) : G p l e R s m args below meth c Z.heap.size Q h k n pc Ls (y :: x :: st) := by
  obtain ⟨hx, hZ, hown, rfl, hml, hret, hnm, -⟩ := cx
  obtain ⟨o', d, ho, rfl, rfl⟩ := d
  intro T locs cells slots X N eT hk hn
  by_cases hc : x = y
  · obtain ⟨s₂, o, st2, r⟩ := HY hc T locs cells slots X N eT hk hn
    exact ⟨s₂, o, Jvm.RoadKit.acmp (g := mkF m pc Ls (y :: x :: st)) X hx rfl h1 h2 (pc0 := pc) (same := true) rfl d rfl (decide_eq_true hc) ho rfl st2, r⟩
  · obtain ⟨s₂, o, st2, r⟩ := HN hc T locs cells slots X N eT hk hn
    exact ⟨s₂, o, Jvm.RoadKit.acmp (g := mkF m pc Ls (y :: x :: st)) X hx rfl h1 h2 (pc0 := pc) (same := false) rfl d rfl (decide_eq_false hc) ho rfl st2, r⟩
theorem g_acmp_eq {kx nx : Nat} (cx : Cx Z p s m meth c R kx nx own nm code maxL ret) {x y : Value} (h1 : x.isRef = true) (h2 : y.isRef = true) (d : Bi code pc (Instr.if_acmp .eq) pcY pcN) (HY : x = y → G p l e R s m args below meth c Z.heap.size Q h k n pcY Ls st) (HN : ¬ x = y → G p l e R s m args below meth c Z.heap.size Q h k n pcN Ls st) : G p l e R s m args below meth c Z.heap.size Q h k n pc Ls (y :: x :: st) := g_acmp cx h1 h2 d HY HN
theorem g_acmp_ne {kx nx : Nat} (cx : Cx Z p s m meth c R kx nx own nm code maxL ret) {x y : Value} (h1 : x.isRef = true) (h2 : y.isRef = true) (d : Bi code pc (Instr.if_acmp .ne) pcY pcN) (HY : ¬ x = y → G p l e R s m args below meth c Z.heap.size Q h k n pcY Ls st) (HN : x = y → G p l e R s m args below meth c Z.heap.size Q h k n pcN Ls st) : G p l e R s m args below meth c Z.heap.size Q h k n pc Ls (y :: x :: st) := g_acmp cx h1 h2 d HN HY
theorem g_ifnull_null {kx nx : Nat} (cx : Cx Z p s m meth c R kx nx own nm code maxL ret) (d : Bi code pc Instr.ifnull pcY pcN) (H : G p l e R s m args below meth c Z.heap.size Q h k n pcY Ls st) : G p l e R s m args below meth c Z.heap.size Q h k n pc Ls (.null :: st) := by
  obtain ⟨hx, hZ, hown, rfl, hml, hret, hnm, -⟩ := cx
  obtain ⟨o', d, ho, rfl, rfl⟩ := d
  intro T locs cells slots X N eT hk hn
  obtain ⟨s₂, o, st2, r⟩ := H T locs cells slots X N eT hk hn
  exact ⟨s₂, o, Jvm.Free.XS.ifnullYes X.here hx rfl (pc0 := pc) rfl d rfl ho rfl st2, r⟩
theorem g_ifnull_ref {kx nx : Nat} (cx : Cx Z p s m meth c R kx nx own nm code maxL ret) {a : Addr} (d : Bi code pc Instr.ifnull pcY pcN) (H : G p l e R s m args below meth c Z.heap.size Q h k n pcN Ls st) : G p l e R s m args below meth c Z.heap.size Q h k n pc Ls (.ref a :: st) := by
  obtain ⟨hx, hZ, hown, rfl, hml, hret, hnm, -⟩ := cx
  obtain ⟨o', d, ho, rfl, rfl⟩ := d
  intro T locs cells slots X N eT hk hn
  obtain ⟨s₂, o, st2, r⟩ := H T locs cells slots X N eT hk hn
  exact ⟨s₂, o, Jvm.Free.XS.ifnullNo X.here hx rfl d rfl st2, r⟩
theorem g_ifnonnull_ref {kx nx : Nat} (cx : Cx Z p s m meth c R kx nx own nm code maxL ret) {a : Addr} (d : Bi code pc Instr.ifnonnull pcY pcN) (H : G p l e R s m args below meth c Z.heap.size Q h k n pcY Ls st) : G p l e R s m args below meth c Z.heap.size Q h k n pc Ls (.ref a :: st) := by
  obtain ⟨hx, hZ, hown, rfl, hml, hret, hnm, -⟩ := cx
  obtain ⟨o', d, ho, rfl, rfl⟩ := d
  intro T locs cells slots X N eT hk hn
  obtain ⟨s₂, o, st2, r⟩ := H T locs cells slots X N eT hk hn
  exact ⟨s₂, o, Jvm.Free.XS.ifnonnullYes X.here hx rfl (pc0 := pc) rfl d rfl ho rfl st2, r⟩
theorem g_ifnonnull_null {kx nx : Nat} (cx : Cx Z p s m meth c R kx nx own nm code maxL ret) (d : Bi code pc Instr.ifnonnull pcY pcN) (H : G p l e R s m args below meth c Z.heap.size Q h k n pcN Ls st) : G p l e R s m args below meth c Z.heap.size Q h k n pc Ls (.null :: st) := by
  obtain ⟨hx, hZ, hown, rfl, hml, hret, hnm, -⟩ := cx
  obtain ⟨o', d, ho, rfl, rfl⟩ := d
  intro T locs cells slots X N eT hk hn
  obtain ⟨s₂, o, st2, r⟩ := H T locs cells slots X N eT hk hn
  exact ⟨s₂, o, Jvm.Free.XS.ifnonnullNo X.here hx rfl d rfl st2, r⟩
theorem g_ldcI {kx nx : Nat} (cx : Cx Z p s m meth c R kx nx own nm code maxL ret) {i : Nat} {v : Int32} (d : Dc code pc (.ldc i) 2 pc') (w : (Jvm.Cond.constant own i v).before a0 Z = true) (H : G p l e R s m args below meth c Z.heap.size Q h k n pc' Ls (.int v :: st)) : G p l e R s m args below meth c Z.heap.size Q h k n pc Ls st := by
  obtain ⟨hx, hZ, hown, rfl, hml, hret, hnm, -⟩ := cx
  obtain ⟨d, rfl⟩ := d
  intro T locs cells slots X N eT hk hn
  obtain ⟨s₂, o, st2, r⟩ := H T locs cells slots X N eT hk hn
  exact ⟨s₂, o, X.ldcInt hx hown (mvT hZ w) (g := mkF m pc Ls st) rfl d _ st2, r⟩
theorem g_ldcJ {kx nx : Nat} (cx : Cx Z p s m meth c R kx nx own nm code maxL ret) {i : Nat} {v : Int64} (d : Dc code pc (.ldc2_w i) 3 pc') (w : (Jvm.Cond.constantLong own i v).before a0 Z = true) (H : G p l e R s m args below meth c Z.heap.size Q h k n pc' Ls (.long v :: st)) : G p l e R s m args below meth c Z.heap.size Q h k n pc Ls st := by
  obtain ⟨hx, hZ, hown, rfl, hml, hret, hnm, -⟩ := cx
  obtain ⟨d, rfl⟩ := d
  intro T locs cells slots X N eT hk hn
  obtain ⟨s₂, o, st2, r⟩ := H T locs cells slots X N eT hk hn
  exact ⟨s₂, o, X.ldc2Long hx hown (mvT hZ w) (g := mkF m pc Ls st) rfl d _ st2, r⟩
theorem g_getF {kx nx : Nat} (cx : Cx Z p s m meth c R kx nx own nm code maxL ret) {R0 O f ds host : String} {i : Nat} {a : Addr} {v : Value} (d : Dc code pc (.getfield i) 3 pc') (w : (Jvm.Cond.fieldLink own i R0 f ds).before a0 Z = true ∨ (Jvm.Cond.fieldLinkNest own i R0 f ds host).before a0 Z = true) (via : Via Z R0 O f ds) (F : Fld Z h a O f ds v) (H : G p l e R s m args below meth c Z.heap.size Q h k n pc' Ls (v :: st)) : G p l e R s m args below meth c Z.heap.size Q h k n pc Ls (.ref a :: st) := by
  obtain ⟨hx, hZ, hown, rfl, hml, hret, hnm, -⟩ := cx
  obtain ⟨d, rfl⟩ := d
  intro T locs cells slots X N eT hk hn
  obtain ⟨T', X', e', stp⟩ := getF X hx hZ hown w via eT F (g := mkF m pc Ls (.ref a :: st)) rfl rfl d
  obtain ⟨s₂, o, st2, r⟩ := H T' locs cells slots X' N e' hk hn
  exact ⟨s₂, o, stp _ st2, r⟩
theorem g_getS {kx nx : Nat} (cx : Cx Z p s m meth c R kx nx own nm code maxL ret) {R0 O f ds host : String} {i : Nat} {v : Value} (d : Dc code pc (.getstatic i) 3 pc') (w : (Jvm.Cond.fieldLink own i R0 f ds).before a0 Z = true ∨ (Jvm.Cond.fieldLinkNest own i R0 f ds host).before a0 Z = true) (via : Via Z R0 O f ds) (F : Sta Z h O f ds v) (H : G p l e R s m args below meth c Z.heap.size Q h k n pc' Ls (v :: st)) : G p l e R s m args below meth c Z.heap.size Q h k n pc Ls st := by
  obtain ⟨hx, hZ, hown, rfl, hml, hret, hnm, -⟩ := cx
  obtain ⟨d, rfl⟩ := d
  intro T locs cells slots X N eT hk hn
  obtain ⟨T', X', e', stp⟩ := getS2 X hx hZ hown w via eT F (g := mkF m pc Ls st) rfl d
  obtain ⟨s₂, o, st2, r⟩ := H T' locs cells slots X' N e' hk hn
  exact ⟨s₂, o, stp _ st2, r⟩
theorem g_putF {kx nx : Nat} (cx : Cx Z p s m meth c R kx nx own nm code maxL ret) {R0 O f ds host C : String} {i kk : Nat} {ty : FieldType} {a : Addr} {v old : Value} (d : Dc code pc (.putfield i) 3 pc') (w : (Jvm.Cond.fieldLink own i R0 f ds).before a0 Z = true ∨ (Jvm.Cond.fieldLinkNest own i R0 f ds host).before a0 Z = true) (via : Via Z R0 O f ds) (F : Fld Z h a O f ds old) (E : Exa Z h a C)
    (L : (Jvm.Cond.lays C O f ds).before a0 Z = true ∨ ((Jvm.Cond.laysFinal C O f ds).before a0 Z = true ∧ own = O ∧ nm = "<init>")) (wi : (Jvm.Cond.instantiable C kk).before a0 Z = true) (hty : parseFieldDescriptor ds = some ty) (hnar : narrow ty v = v) (hfit : fits ty v = true) (g : Z.heap.size ≤ a)
    (H : ∀ h', Wr h h' a (Jvm.RoadKit.slotOf Z O f ds) v → G p l e R s m args below meth c Z.heap.size Q h' k n pc' Ls st) : G p l e R s m args below meth c Z.heap.size Q h k n pc Ls (v :: .ref a :: st) := by
  obtain ⟨hx, hZ, hown, rfl, hml, hret, rfl, -⟩ := cx
  obtain ⟨d, rfl⟩ := d
  intro T locs cells slots X N eT hk hn
  obtain ⟨T', h', X', e', W, stp⟩ := putF X hx hZ hown w via eT F E L wi hty hnar hfit (g := mkF m pc Ls (v :: .ref a :: st)) rfl rfl d
  obtain ⟨s₂, o, st2, r⟩ := H h' W T' _ cells slots X' (Fr.snoc X' N g) e' hk hn
  exact ⟨s₂, o, stp _ st2, r⟩
theorem g_putFN {kx nx : Nat} (cx : Cx Z p s m meth c R kx nx own nm code maxL ret) {R0 O f ds C : String} {i kk : Nat} {ty : FieldType} {a : Addr} {v v' old : Value} (d : Dc code pc (.putfield i) 3 pc') (w : (Jvm.Cond.fieldLink own i R0 f ds).before a0 Z = true) (via : Via Z R0 O f ds) (F : Fld Z h a O f ds old) (E : Exa Z h a C)
    (L : (Jvm.Cond.lays C O f ds).before a0 Z = true ∨ ((Jvm.Cond.laysFinal C O f ds).before a0 Z = true ∧ own = O ∧ nm = "<init>")) (wi : (Jvm.Cond.instantiable C kk).before a0 Z = true) (hty : parseFieldDescriptor ds = some ty) (hnar : narrow ty v = v') (hfit : fits ty v' = true) (g : Z.heap.size ≤ a)
    (H : ∀ h', Wr h h' a (Jvm.RoadKit.slotOf Z O f ds) v' → G p l e R s m args below meth c Z.heap.size Q h' k n pc' Ls st) : G p l e R s m args below meth c Z.heap.size Q h k n pc Ls (v :: .ref a :: st) := by
  obtain ⟨hx, hZ, hown, rfl, hml, hret, rfl, -⟩ := cx
  obtain ⟨d, rfl⟩ := d
  intro T locs cells slots X N eT hk hn
  obtain ⟨T', h', X', e', W, stp⟩ := putFN X hx hZ hown w via eT F E L wi hty hnar hfit (g := mkF m pc Ls (v :: .ref a :: st)) rfl rfl d
  obtain ⟨s₂, o, st2, r⟩ := H h' W T' _ cells slots X' (Fr.snoc X' N g) e' hk hn
  exact ⟨s₂, o, stp _ st2, r⟩
theorem g_new {kx nx : Nat} (cx : Cx Z p s m meth c R kx nx own nm code maxL ret) {C : String} {i sl : Nat} {k' n' : Nat} (d : Dc code pc (.new i) 3 pc') (w : (Jvm.Cond.classLink own i C).before a0 Z = true) (wi : (Jvm.Cond.instantiable C sl).before a0 Z = true) (wz : (Jvm.Cond.initialized C).before a0 Z = true) (hk1 : k + 1 = k') (hn1 : n + sl = n') (hkR : k' ≤ R.cells) (hnR : n' ≤ R.slots)
    (H : ∀ h' b, b = h.size → Ext h h' → Exa Z h' b C → (∀ {O nm d : String} {ty : FieldType}, Laid Z a0 C O nm d → parseFieldDescriptor d = some ty → Fld Z h' b O nm d (defaultValue ty)) → G p l e R s m args below meth c Z.heap.size Q h' k' n' pc' Ls (.ref b :: st)) : G p l e R s m args below meth c Z.heap.size Q h k n pc Ls st := by
  obtain ⟨hx, hZ, hown, rfl, hml, hret, hnm, -⟩ := cx
  obtain ⟨d, rfl⟩ := d
  subst hk1 hn1
  intro T locs cells slots X N eT hk hn
  obtain ⟨T', h', X', e', E, A, D, -, stp⟩ := newO X hx hZ hown w wi wz eT (g := mkF m pc Ls st) rfl d (by omega) (by omega)
  obtain ⟨s₂, o, st2, r⟩ := H h' _ rfl E A D T' locs _ _ X' N e' (by omega) (by omega)
  exact ⟨s₂, o, stp _ st2, r⟩
theorem g_newarray {kx nx : Nat} (cx : Cx Z p s m meth c R kx nx own nm code maxL ret) {aty : ArrayType} {z : Int32} {cap k' n' : Nat} {ad : String} (had : "[" ++ (newarray.typeOf aty).toString = ad) (d : Dc code pc (.newarray aty) 2 pc') (w : (Jvm.Cond.arrayClass (newarray.typeOf aty)).before a0 Z = true) (hz : ¬ z < 0) (hcap : z.toNatClampNeg ≤ cap) (hb : cap * 8 ≤ 536870912) (hk1 : k + 1 = k') (hn1 : n + cap = n') (hkR : k' ≤ R.cells) (hnR : n' ≤ R.slots)
    (H : ∀ h' b cA, b = h.size → Ext h h' → Arx Z h' b cA (newarray.typeOf aty) z [] (defaultValue (newarray.typeOf aty)) ad → G p l e R s m args below meth c Z.heap.size Q h' k' n' pc' Ls (.ref b :: st)) : G p l e R s m args below meth c Z.heap.size Q h k n pc Ls (.int z :: st) := by
  obtain ⟨hx, hZ, hown, rfl, hml, hret, hnm, -⟩ := cx
  obtain ⟨d, rfl⟩ := d
  subst hk1 hn1
  intro T locs cells slots X N eT hk hn
  obtain ⟨T', h', cA, X', e', E, A, Ex, stp⟩ := newPE X hx hZ w eT (g := mkF m pc Ls (.int z :: st)) rfl d rfl hz hcap hb (by omega) (by omega) had
  obtain ⟨s₂, o, st2, r⟩ := H h' _ cA rfl E ⟨Arv.new A hz, Ex⟩ T' locs _ _ X' N e' (by omega) (by omega)
  exact ⟨s₂, o, stp _ st2, r⟩
theorem g_anewarray {kx nx : Nat} (cx : Cx Z p s m meth c R kx nx own nm code maxL ret) {C ad : String} {i : Nat} {z : Int32} {cap k' n' : Nat} (had : "[" ++ (FieldType.object C).toString = ad) (d : Dc code pc (.anewarray i) 3 pc') (w1 : (Jvm.Cond.classLink own i C).before a0 Z = true) (w2 : (Jvm.Cond.arrayOver (.object C)).before a0 Z = true) (hz : ¬ z < 0) (hcap : z.toNatClampNeg ≤ cap) (hb : cap * 8 ≤ 536870912) (hk1 : k + 1 = k') (hn1 : n + cap = n') (hkR : k' ≤ R.cells) (hnR : n' ≤ R.slots)
    (H : ∀ h' b cA, b = h.size → Ext h h' → Arx Z h' b cA (.object C) z [] .null ad → Ovr Z cA C → G p l e R s m args below meth c Z.heap.size Q h' k' n' pc' Ls (.ref b :: st)) : G p l e R s m args below meth c Z.heap.size Q h k n pc Ls (.int z :: st) := by
  obtain ⟨hx, hZ, hown, rfl, hml, hret, hnm, -⟩ := cx
  obtain ⟨d, rfl⟩ := d
  subst hk1 hn1
  intro T locs cells slots X N eT hk hn
  obtain ⟨T', h', cA, X', e', E, A, Ex, O, stp⟩ := newRE X hx hZ hown w1 w2 eT (g := mkF m pc Ls (.int z :: st)) rfl d rfl hz hcap hb (by omega) (by omega) had
  obtain ⟨s₂, o, st2, r⟩ := H h' _ cA rfl E ⟨Arv.new A hz, Ex⟩ O T' locs _ _ X' N e' (by omega) (by omega)
  exact ⟨s₂, o, stp _ st2, r⟩
theorem g_anewarrayA {kx nx : Nat} (cx : Cx Z p s m meth c R kx nx own nm code maxL ret) {C ad : String} {t : FieldType} {i : Nat} {z : Int32} {cap k' n' : Nat} (hC : (FieldType.array t).toString = C) (had : "[" ++ C = ad) (d : Dc code pc (.anewarray i) 3 pc') (w1 : (Jvm.Cond.classLink own i C).before a0 Z = true) (w2 : (Jvm.Cond.arrayOver (.array t)).before a0 Z = true) (hz : ¬ z < 0) (hcap : z.toNatClampNeg ≤ cap) (hb : cap * 8 ≤ 536870912) (hk1 : k + 1 = k') (hn1 : n + cap = n') (hkR : k' ≤ R.cells) (hnR : n' ≤ R.slots)
    (H : ∀ h' b cA, b = h.size → Ext h h' → Arx Z h' b cA (.array t) z [] .null ad → OvrA Z cA t C → G p l e R s m args below meth c Z.heap.size Q h' k' n' pc' Ls (.ref b :: st)) : G p l e R s m args below meth c Z.heap.size Q h k n pc Ls (.int z :: st) := by
  obtain ⟨hx, hZ, hown, rfl, hml, hret, hnm, -⟩ := cx
  obtain ⟨d, rfl⟩ := d
  subst hk1 hn1
  intro T locs cells slots X N eT hk hn
  obtain ⟨T', h', cA, X', e', E, A, Ex, O, stp⟩ := newRA X hx hZ hown hC w1 w2 eT (g := mkF m pc Ls (.int z :: st)) rfl d rfl hz hcap hb (by omega) (by omega) had
  obtain ⟨s₂, o, st2, r⟩ := H h' _ cA rfl E ⟨Arv.new A hz, Ex⟩ O T' locs _ _ X' N e' (by omega) (by omega)
  exact ⟨s₂, o, stp _ st2, r⟩
theorem g_iastore {kx nx : Nat} (cx : Cx Z p s m meth c R kx nx own nm code maxL ret) {a : Addr} {cA : ClassId} {z j : Int32} {ad : String} {vs : List Value} {dv : Value} {x : Int32} (d : Dc code pc .iastore 1 pc') (A : Arx Z h a cA .int z vs dv ad) (hj : ¬ j < 0 ∧ j < z) (hl : j.toNatClampNeg < vs.length) (g : Z.heap.size ≤ a) (H : ∀ h', Wr h h' a j.toNatClampNeg (.int x) → Arx Z h' a cA .int z (vs.set j.toNatClampNeg (.int x)) dv ad → G p l e R s m args below meth c Z.heap.size Q h' k n pc' Ls st) : G p l e R s m args below meth c Z.heap.size Q h k n pc Ls (.int x :: .int j :: .ref a :: st) := by
  obtain ⟨hx, hZ, hown, rfl, hml, hret, hnm, -⟩ := cx
  obtain ⟨d, rfl⟩ := d
  intro T locs cells slots X N eT hk hn
  obtain ⟨⟨cl, Ar, q, S, Nz, Hs, Gf⟩, Ex⟩ := A
  obtain ⟨T', h', X', e', W, stp⟩ := stI X hx hZ eT Ar (j := j) (inb_of S hj) (g := mkF m pc Ls (.int x :: .int j :: .ref a :: st)) rfl rfl d
  obtain ⟨s₂, o, st2, r⟩ := H h' W ⟨Arv.set Ar q S Nz Hs Gf rfl W _ rfl hl, Ex.wr W⟩ T' _ cells slots X' (Fr.snoc X' N g) e' hk hn
  exact ⟨s₂, o, stp _ st2, r⟩
theorem g_lastore {kx nx : Nat} (cx : Cx Z p s m meth c R kx nx own nm code maxL ret) {a : Addr} {cA : ClassId} {z j : Int32} {ad : String} {vs : List Value} {dv : Value} {x : Int64} (d : Dc code pc .lastore 1 pc') (A : Arx Z h a cA .long z vs dv ad) (hj : ¬ j < 0 ∧ j < z) (hl : j.toNatClampNeg < vs.length) (g : Z.heap.size ≤ a) (H : ∀ h', Wr h h' a j.toNatClampNeg (.long x) → Arx Z h' a cA .long z (vs.set j.toNatClampNeg (.long x)) dv ad → G p l e R s m args below meth c Z.heap.size Q h' k n pc' Ls st) : G p l e R s m args below meth c Z.heap.size Q h k n pc Ls (.long x :: .int j :: .ref a :: st) := by
  obtain ⟨hx, hZ, hown, rfl, hml, hret, hnm, -⟩ := cx
  obtain ⟨d, rfl⟩ := d
  intro T locs cells slots X N eT hk hn
  obtain ⟨⟨cl, Ar, q, S, Nz, Hs, Gf⟩, Ex⟩ := A
  obtain ⟨T', h', X', e', W, stp⟩ := stJ X hx hZ eT Ar (j := j) (inb_of S hj) (g := mkF m pc Ls (.long x :: .int j :: .ref a :: st)) rfl rfl d
  obtain ⟨s₂, o, st2, r⟩ := H h' W ⟨Arv.set Ar q S Nz Hs Gf rfl W _ rfl hl, Ex.wr W⟩ T' _ cells slots X' (Fr.snoc X' N g) e' hk hn
  exact ⟨s₂, o, stp _ st2, r⟩
theorem g_castore {kx nx : Nat} (cx : Cx Z p s m meth c R kx nx own nm code maxL ret) {a : Addr} {cA : ClassId} {z j : Int32} {ad : String} {vs : List Value} {dv : Value} {x : Int32} (d : Dc code pc .castore 1 pc') (A : Arx Z h a cA .char z vs dv ad) (hj : ¬ j < 0 ∧ j < z) (hl : j.toNatClampNeg < vs.length) (g : Z.heap.size ≤ a) (H : ∀ h', Wr h h' a j.toNatClampNeg (.int (nar .char x)) → Arx Z h' a cA .char z (vs.set j.toNatClampNeg (.int (nar .char x))) dv ad → G p l e R s m args below meth c Z.heap.size Q h' k n pc' Ls st) : G p l e R s m args below meth c Z.heap.size Q h k n pc Ls (.int x :: .int j :: .ref a :: st) := by
  obtain ⟨hx, hZ, hown, rfl, hml, hret, hnm, -⟩ := cx
  obtain ⟨d, rfl⟩ := d
  intro T locs cells slots X N eT hk hn
  obtain ⟨⟨cl, Ar, q, S, Nz, Hs, Gf⟩, Ex⟩ := A
  obtain ⟨T', h', X', e', W, stp⟩ := stC X hx hZ eT Ar (j := j) (inb_of S hj) (g := mkF m pc Ls (.int x :: .int j :: .ref a :: st)) rfl rfl d
  obtain ⟨s₂, o, st2, r⟩ := H h' W ⟨Arv.set Ar q S Nz Hs Gf (fits_nar_char _) W _ rfl hl, Ex.wr W⟩ T' _ cells slots X' (Fr.snoc X' N g) e' hk hn
  exact ⟨s₂, o, stp _ st2, r⟩
theorem g_bastore {kx nx : Nat} (cx : Cx Z p s m meth c R kx nx own nm code maxL ret) {a : Addr} {cA : ClassId} {z j : Int32} {ad : String} {vs : List Value} {dv : Value} {x : Int32} (d : Dc code pc .bastore 1 pc') (A : Arx Z h a cA .byte z vs dv ad) (hj : ¬ j < 0 ∧ j < z) (hl : j.toNatClampNeg < vs.length) (g : Z.heap.size ≤ a) (H : ∀ h', Wr h h' a j.toNatClampNeg (.int (nar .byte x)) → Arx Z h' a cA .byte z (vs.set j.toNatClampNeg (.int (nar .byte x))) dv ad → G p l e R s m args below meth c Z.heap.size Q h' k n pc' Ls st) : G p l e R s m args below meth c Z.heap.size Q h k n pc Ls (.int x :: .int j :: .ref a :: st) := by
  obtain ⟨hx, hZ, hown, rfl, hml, hret, hnm, -⟩ := cx
  obtain ⟨d, rfl⟩ := d
  intro T locs cells slots X N eT hk hn
  obtain ⟨⟨cl, Ar, q, S, Nz, Hs, Gf⟩, Ex⟩ := A
  obtain ⟨T', h', X', e', W, stp⟩ := stB X hx hZ eT Ar (j := j) (inb_of S hj) (g := mkF m pc Ls (.int x :: .int j :: .ref a :: st)) rfl rfl d
  obtain ⟨s₂, o, st2, r⟩ := H h' W ⟨Arv.set Ar q S Nz Hs Gf (fits_nar_byte _) W _ rfl hl, Ex.wr W⟩ T' _ cells slots X' (Fr.snoc X' N g) e' hk hn
  exact ⟨s₂, o, stp _ st2, r⟩
theorem g_aastore {kx nx : Nat} (cx : Cx Z p s m meth c R kx nx own nm code maxL ret) {a : Addr} {cA : ClassId} {z j : Int32} {ad : String} {vs : List Value} {dv v : Value} {ty : FieldType} (d : Dc code pc .aastore 1 pc') (A : Arx Z h a cA ty z vs dv ad) (hty : ty.isReference = true) (hf : fits ty v = true) (So : Sto Z h a v) (hj : ¬ j < 0 ∧ j < z) (hl : j.toNatClampNeg < vs.length) (g : Z.heap.size ≤ a) (H : ∀ h', Wr h h' a j.toNatClampNeg v → Arx Z h' a cA ty z (vs.set j.toNatClampNeg v) dv ad → G p l e R s m args below meth c Z.heap.size Q h' k n pc' Ls st) : G p l e R s m args below meth c Z.heap.size Q h k n pc Ls (v :: .int j :: .ref a :: st) := by
  obtain ⟨hx, hZ, hown, rfl, hml, hret, hnm, -⟩ := cx
  obtain ⟨d, rfl⟩ := d
  intro T locs cells slots X N eT hk hn
  obtain ⟨⟨cl, Ar, q, S, Nz, Hs, Gf⟩, Ex⟩ := A
  obtain ⟨T', h', X', e', W, stp⟩ := stR X hx hZ eT Ar (j := j) (inb_of S hj) hty So (g := mkF m pc Ls (v :: .int j :: .ref a :: st)) rfl rfl d
  obtain ⟨s₂, o, st2, r⟩ := H h' W ⟨Arv.set Ar q S Nz Hs Gf hf W _ rfl hl, Ex.wr W⟩ T' _ cells slots X' (Fr.snoc X' N g) e' hk hn
  exact ⟨s₂, o, stp _ st2, r⟩
theorem g_iaload {kx nx : Nat} (cx : Cx Z p s m meth c R kx nx own nm code maxL ret) {a : Addr} {cA : ClassId} {z j : Int32} {vs : List Value} {dv v : Value} (d : Dc code pc .iaload 1 pc') (A : Arv Z h a cA .int z vs dv) (hj : ¬ j < 0 ∧ j < z) (hv : vs.getD j.toNatClampNeg dv = v) (H : G p l e R s m args below meth c Z.heap.size Q h k n pc' Ls (v :: st)) : G p l e R s m args below meth c Z.heap.size Q h k n pc Ls (.int j :: .ref a :: st) := by
  obtain ⟨hx, hZ, hown, rfl, hml, hret, hnm, -⟩ := cx
  obtain ⟨d, rfl⟩ := d
  intro T locs cells slots X N eT hk hn
  obtain ⟨cl, Ar, q, S, Nz, Hs, Gf⟩ := A
  obtain ⟨s₂, o, st2, r⟩ := H T _ cells slots X N eT hk hn
  exact ⟨s₂, o, X.iaload hx (j := j) (v := v) (by rw [eT]; exact Ar.1) (State.isArrayOf_alike hZ.alike Ar.2.1) Ar.2.2 (inb_of S hj) (Hs.at (inb_of S hj) hv) (g := mkF m pc Ls (.int j :: .ref a :: st)) rfl rfl d _ st2, r⟩
theorem g_laload {kx nx : Nat} (cx : Cx Z p s m meth c R kx nx own nm code maxL ret) {a : Addr} {cA : ClassId} {z j : Int32} {vs : List Value} {dv v : Value} (d : Dc code pc .laload 1 pc') (A : Arv Z h a cA .long z vs dv) (hj : ¬ j < 0 ∧ j < z) (hv : vs.getD j.toNatClampNeg dv = v) (H : G p l e R s m args below meth c Z.heap.size Q h k n pc' Ls (v :: st)) : G p l e R s m args below meth c Z.heap.size Q h k n pc Ls (.int j :: .ref a :: st) := by
  obtain ⟨hx, hZ, hown, rfl, hml, hret, hnm, -⟩ := cx
  obtain ⟨d, rfl⟩ := d
  intro T locs cells slots X N eT hk hn
  obtain ⟨cl, Ar, q, S, Nz, Hs, Gf⟩ := A
  obtain ⟨s₂, o, st2, r⟩ := H T _ cells slots X N eT hk hn
  exact ⟨s₂, o, X.laload hx (j := j) (v := v) (by rw [eT]; exact Ar.1) (State.isArrayOf_alike hZ.alike Ar.2.1) Ar.2.2 (inb_of S hj) (Hs.at (inb_of S hj) hv) (g := mkF m pc Ls (.int j :: .ref a :: st)) rfl rfl d _ st2, r⟩
theorem g_caload {kx nx : Nat} (cx : Cx Z p s m meth c R kx nx own nm code maxL ret) {a : Addr} {cA : ClassId} {z j : Int32} {vs : List Value} {dv v : Value} (d : Dc code pc .caload 1 pc') (A : Arv Z h a cA .char z vs dv) (hj : ¬ j < 0 ∧ j < z) (hv : vs.getD j.toNatClampNeg dv = v) (H : G p l e R s m args below meth c Z.heap.size Q h k n pc' Ls (v :: st)) : G p l e R s m args below meth c Z.heap.size Q h k n pc Ls (.int j :: .ref a :: st) := by
  obtain ⟨hx, hZ, hown, rfl, hml, hret, hnm, -⟩ := cx
  obtain ⟨d, rfl⟩ := d
  intro T locs cells slots X N eT hk hn
  obtain ⟨cl, Ar, q, S, Nz, Hs, Gf⟩ := A
  obtain ⟨s₂, o, st2, r⟩ := H T _ cells slots X N eT hk hn
  exact ⟨s₂, o, X.caload hx (j := j) (v := v) (by rw [eT]; exact Ar.1) (State.isArrayOf_alike hZ.alike Ar.2.1) Ar.2.2 (inb_of S hj) (Hs.at (inb_of S hj) hv) (g := mkF m pc Ls (.int j :: .ref a :: st)) rfl rfl d _ st2, r⟩
theorem g_baload {kx nx : Nat} (cx : Cx Z p s m meth c R kx nx own nm code maxL ret) {a : Addr} {cA : ClassId} {z j : Int32} {vs : List Value} {dv v : Value} (d : Dc code pc .baload 1 pc') (A : Arv Z h a cA .byte z vs dv) (hj : ¬ j < 0 ∧ j < z) (hv : vs.getD j.toNatClampNeg dv = v) (H : G p l e R s m args below meth c Z.heap.size Q h k n pc' Ls (v :: st)) : G p l e R s m args below meth c Z.heap.size Q h k n pc Ls (.int j :: .ref a :: st) := by
  obtain ⟨hx, hZ, hown, rfl, hml, hret, hnm, -⟩ := cx
  obtain ⟨d, rfl⟩ := d
  intro T locs cells slots X N eT hk hn
  obtain ⟨cl, Ar, q, S, Nz, Hs, Gf⟩ := A
  obtain ⟨s₂, o, st2, r⟩ := H T _ cells slots X N eT hk hn
  exact ⟨s₂, o, X.baloadBytes hx (j := j) (v := v) (by rw [eT]; exact Ar.1) (State.isArrayOf_alike hZ.alike Ar.2.1) Ar.2.2 (inb_of S hj) (Hs.at (inb_of S hj) hv) (g := mkF m pc Ls (.int j :: .ref a :: st)) rfl rfl d _ st2, r⟩
theorem g_aaload {kx nx : Nat} (cx : Cx Z p s m meth c R kx nx own nm code maxL ret) {a : Addr} {cA : ClassId} {z j : Int32} {vs : List Value} {dv v : Value} {ty : FieldType} (d : Dc code pc .aaload 1 pc') (A : Arv Z h a cA ty z vs dv) (hty : ty.isReference = true) (hj : ¬ j < 0 ∧ j < z) (hv : vs.getD j.toNatClampNeg dv = v) (H : G p l e R s m args below meth c Z.heap.size Q h k n pc' Ls (v :: st)) : G p l e R s m args below meth c Z.heap.size Q h k n pc Ls (.int j :: .ref a :: st) := by
  obtain ⟨hx, hZ, hown, rfl, hml, hret, hnm, -⟩ := cx
  obtain ⟨d, rfl⟩ := d
  intro T locs cells slots X N eT hk hn
  obtain ⟨cl, Ar, q, S, Nz, Hs, Gf⟩ := A
  obtain ⟨s₂, o, st2, r⟩ := H T _ cells slots X N eT hk hn
  exact ⟨s₂, o, X.aaload hx (j := j) (v := v) (by rw [eT]; exact Ar.1) (State.isArrayOf_alike hZ.alike Ar.2.1) hty Ar.2.2 (inb_of S hj) (Hs.at (inb_of S hj) hv) (g := mkF m pc Ls (.int j :: .ref a :: st)) rfl rfl d _ st2, r⟩
theorem g_arraylength {kx nx : Nat} (cx : Cx Z p s m meth c R kx nx own nm code maxL ret) {a : Addr} {cA : ClassId} {z : Int32} {vs : List Value} {dv : Value} {ty : FieldType} (d : Dc code pc .arraylength 1 pc') (A : Arv Z h a cA ty z vs dv) (H : G p l e R s m args below meth c Z.heap.size Q h k n pc' Ls (.int z :: st)) : G p l e R s m args below meth c Z.heap.size Q h k n pc Ls (.ref a :: st) := by
  obtain ⟨hx, hZ, hown, rfl, hml, hret, hnm, -⟩ := cx
  obtain ⟨d, rfl⟩ := d
  intro T locs cells slots X N eT hk hn
  obtain ⟨cl, Ar, q, S, Nz, Hs, Gf⟩ := A
  obtain ⟨s₂, o, st2, r⟩ := H T _ cells slots X N eT hk hn
  exact ⟨s₂, o, X.arraylength hx (by rw [eT]; exact Ar.1) (State.isArrayOf_alike hZ.alike Ar.2.1) (g := mkF m pc Ls (.ref a :: st)) rfl rfl d _ (by rw [len_of S Nz]; exact st2), r⟩
theorem g_checkcast {kx nx : Nat} (cx : Cx Z p s m meth c R kx nx own nm code maxL ret) {K : String} {i : Nat} {a : Addr} (d : Dc code pc (.checkcast i) 3 pc') (w : (Jvm.Cond.classLink own i K).before a0 Z = true) (F : Ins Z h a K true) (H : G p l e R s m args below meth c Z.heap.size Q h k n pc' Ls (.ref a :: st)) : G p l e R s m args below meth c Z.heap.size Q h k n pc Ls (.ref a :: st) := by
  obtain ⟨hx, hZ, hown, rfl, hml, hret, hnm, -⟩ := cx
  obtain ⟨d, rfl⟩ := d
  intro T locs cells slots X N eT hk hn
  obtain ⟨T', X', e', stp⟩ := castY X hx hZ hown w eT F (g := mkF m pc Ls (.ref a :: st)) rfl rfl d
  obtain ⟨s₂, o, st2, r⟩ := H T' _ cells slots X' N e' hk hn
  exact ⟨s₂, o, stp _ st2, r⟩
theorem g_instanceY {kx nx : Nat} (cx : Cx Z p s m meth c R kx nx own nm code maxL ret) {K : String} {i : Nat} {a : Addr} (d : Dc code pc (.instanceof i) 3 pc') (w : (Jvm.Cond.classLink own i K).before a0 Z = true) (F : Ins Z h a K true) (H : G p l e R s m args below meth c Z.heap.size Q h k n pc' Ls (.int 1 :: st)) : G p l e R s m args below meth c Z.heap.size Q h k n pc Ls (.ref a :: st) := by
  obtain ⟨hx, hZ, hown, rfl, hml, hret, hnm, -⟩ := cx
  obtain ⟨d, rfl⟩ := d
  intro T locs cells slots X N eT hk hn
  obtain ⟨T', X', e', stp⟩ := instY X hx hZ hown w eT F (g := mkF m pc Ls (.ref a :: st)) rfl rfl d
  obtain ⟨s₂, o, st2, r⟩ := H T' _ cells slots X' N e' hk hn
  exact ⟨s₂, o, stp _ st2, r⟩
theorem g_ret {kx nx : Nat} (cx : Cx Z p s m meth c R kx nx own nm code maxL ret) {t : FieldType} {w v : Value} {i : Instr} (d : Dc code pc i 1 pc') (hR : ret = some t)
    (hs : ∀ T locs cells slots, Stand p l e R s m args below meth c T locs cells slots → ∀ fs, (∀ (f : JFrame) (acts : List Action), f.method = m → f.locked = none → f.entered = [] → (doReturn e (T.setTop f) acts (some v)).1 = T.setFrames fs) → Steps p.tables e below (T.setTop (mkF m pc Ls (w :: st))) (T.setFrames fs))
    (hk : k ≤ R.cells) (hn : n ≤ R.slots) (q : Q (some v) h) : G p l e R s m args below meth c Z.heap.size Q h k n pc Ls (w :: st) := by
  obtain ⟨hx, hZ, hown, rfl, hml, rfl, hnm, hlk⟩ := cx
  intro T locs cells slots X N eT hk' hn'
  obtain ⟨fs, hr, hrun, hended, hW, hsame⟩ := X.leave (v := some v) (fun h => by rw [hR] at h; cases h) hlk
  exact ⟨_, _, hs T locs cells slots X fs hr, hrun, hended, _, locs, rfl, ⟨by show Q _ T.heap; rw [eT]; exact q, N⟩, ⟨_, rfl⟩, hW, hsame.mono (by omega) (by omega)⟩
theorem g_retI {kx nx : Nat} (cx : Cx Z p s m meth c R kx nx own nm code maxL ret) {x : Int32} (d : Dc code pc .ireturn 1 pc') (hR : ret = some .int) (hk : k ≤ R.cells) (hn : n ≤ R.slots) (q : Q (some (.int x)) h) : G p l e R s m args below meth c Z.heap.size Q h k n pc Ls (.int x :: st) :=
  g_ret cx (t := .int) d hR (fun T locs cells slots X fs hl => retOut X cx.1 (cx.2.2.2.2.2.1.trans hR) rfl (Or.inl ⟨rfl, Or.inl rfl, _, rfl⟩) (by rw [cx.2.2.2.1]; exact d.1) hl) hk hn q
theorem g_retJ {kx nx : Nat} (cx : Cx Z p s m meth c R kx nx own nm code maxL ret) {x : Int64} (d : Dc code pc .lreturn 1 pc') (hR : ret = some .long) (hk : k ≤ R.cells) (hn : n ≤ R.slots) (q : Q (some (.long x)) h) : G p l e R s m args below meth c Z.heap.size Q h k n pc Ls (.long x :: st) :=
  g_ret cx (t := .long) d hR (fun T locs cells slots X fs hl => retOut X cx.1 (cx.2.2.2.2.2.1.trans hR) rfl (Or.inr (Or.inl ⟨rfl, rfl, _, rfl⟩)) (by rw [cx.2.2.2.1]; exact d.1) hl) hk hn q
theorem g_retN {kx nx : Nat} (cx : Cx Z p s m meth c R kx nx own nm code maxL ret) {x : Int32} {t : FieldType} (d : Dc code pc .ireturn 1 pc') (hR : ret = some t) (ht : t = .boolean ∨ t = .byte ∨ t = .char ∨ t = .short) (hk : k ≤ R.cells) (hn : n ≤ R.slots) (q : Q (some (.int (nar t x))) h) : G p l e R s m args below meth c Z.heap.size Q h k n pc Ls (.int x :: st) :=
  g_ret cx (t := t) d hR (fun T locs cells slots X fs hl => retN X cx.1 (cx.2.2.2.2.2.1.trans hR) ht (by rw [cx.2.2.2.1]; exact d.1) hl) hk hn q
theorem g_retZ {kx nx : Nat} (cx : Cx Z p s m meth c R kx nx own nm code maxL ret) {x : Int32} (d : Dc code pc .ireturn 1 pc') (hR : ret = some .boolean) (hx01 : nar .boolean x = x) (hk : k ≤ R.cells) (hn : n ≤ R.slots) (q : Q (some (.int x)) h) : G p l e R s m args below meth c Z.heap.size Q h k n pc Ls (.int x :: st) :=
  g_retN cx d hR (Or.inl rfl) hk hn (by rw [hx01]; exact q)
theorem g_retA {kx nx : Nat} (cx : Cx Z p s m meth c R kx nx own nm code maxL ret) {w : Value} {t : FieldType} (d : Dc code pc .areturn 1 pc') (hR : ret = some t) (ht : t.isReference = true) (hw : w.isRef = true) (hnar : narrow t w = w) (hk : k ≤ R.cells) (hn : n ≤ R.slots) (q : Q (some w) h) : G p l e R s m args below meth c Z.heap.size Q h k n pc Ls (w :: st) :=
  g_ret cx (t := t) d hR (fun T locs cells slots X fs hl => retOut X cx.1 (cx.2.2.2.2.2.1.trans hR) hnar (Or.inr (Or.inr (Or.inr (Or.inr ⟨rfl, ht, hw⟩)))) (by rw [cx.2.2.2.1]; exact d.1) hl) hk hn q
theorem g_retV {kx nx : Nat} (cx : Cx Z p s m meth c R kx nx own nm code maxL ret) (d : Dc code pc .return_ 1 pc') (hR : ret = none) (hk : k ≤ R.cells) (hn : n ≤ R.slots) (q : Q none h) : G p l e R s m args below meth c Z.heap.size Q h k n pc Ls [] := by
  obtain ⟨hx, hZ, hown, rfl, hml, rfl, hnm, hlk⟩ := cx
  intro T locs cells slots X N eT hk' hn'
  obtain ⟨fs, hr, hrun, hended, hW, hsame⟩ := X.leave (v := none) (fun _ => rfl) hlk
  exact ⟨_, _, X.returnOut hx hR d.1 hr, hrun, hended, _, locs, rfl, ⟨by show Q _ T.heap; rw [eT]; exact q, N⟩, ⟨_, rfl⟩, hW, hsame.mono (by omega) (by omega)⟩
theorem g_initO {kx nx : Nat} (cx : Cx Z p s m meth c R kx nx own nm code maxL ret) {i W : Nat} {a : Addr} (d : Dc code pc (.invokespecial i) 3 pc') (w1 : (Jvm.Cond.methodLink own i Lib.objectInit).before a0 Z = true) (w2 : (Jvm.Cond.instanceMethod Lib.objectInit).before a0 Z = true) (w3 : (Jvm.Cond.code Lib.objectInit ⟨#[0xb1]⟩ 1 none).before a0 Z = true) (hsz : Ls.size = maxL) (hf : 1 ≤ R.frames) (hW : (st.map fun v => v.category).sum ≤ W) (hl : W + 12 ≤ R.locals)
    (H : G p l e R s m args below meth c Z.heap.size Q h k n pc' Ls st) : G p l e R s m args below meth c Z.heap.size Q h k n pc Ls (.ref a :: st) := by
  obtain ⟨hx, hZ, hown, rfl, hml, hret, hnm, -⟩ := cx
  obtain ⟨d, rfl⟩ := d
  intro T locs cells slots X N eT hk hn
  obtain ⟨T', X', e', stp⟩ := initO X hx hZ hown w1 w2 w3 eT (g := mkF m pc Ls (.ref a :: st)) rfl (by rw [hml]; exact hsz) rfl d hf (W := W) (by show 2 * 0 + _ ≤ _; omega) hl
  obtain ⟨s₂, o, st2, r⟩ := H T' locs cells slots X' N e' hk hn
  exact ⟨s₂, o, stp _ st2, r⟩
theorem own_dummy : True := trivial
theorem g_static {kx nx : Nat} (cx : Cx Z p s m meth c R kx nx own nm code maxL ret) {i W k' n' maxL' : Nat} {bytes : ByteArray} {ret' : Option FieldType} {rm : Room} {argsL : List Value} {Q' : Option Value → Heap → Prop} {y : MethodName} (d : Dc code pc (.invokestatic i) 3 pc') (w1 : (Jvm.Cond.methodLink own i y).before a0 Z = true) (w2 : (Jvm.Cond.static y).before a0 Z = true) (w3 : (Jvm.Cond.initialized y.cls).before a0 Z = true) (w4 : (Jvm.Cond.code y bytes maxL' ret').before a0 Z = true) (hy : y.cls ≠ "java/lang/invoke/MethodHandle" ∧ y.cls ≠ "java/lang/invoke/VarHandle") (M : Met l Z y bytes maxL' ret' rm argsL.toArray h Q') (hsz : Ls.size = maxL) (hlen : ∀ sig, parseMethodDescriptor y.desc = some sig → argsL.length = sig.parameters.length) (hf : rm.frames + 1 ≤ R.frames) (hW : (rest.map fun v => v.category).sum ≤ W) (hl : W + (maxL' + 11) + rm.locals ≤ R.locals) (hk1 : k + rm.cells = k') (hn1 : n + rm.slots = n') (hkR : k' ≤ R.cells) (hnR : n' ≤ R.slots)
    (hst : st = argsL.reverse ++ rest) (H : ∀ v h', Q' v h' → G p l e R s m args below meth c Z.heap.size Q h' k' n' pc' Ls (v.toList ++ rest)) : G p l e R s m args below meth c Z.heap.size Q h k n pc Ls st := by
  obtain ⟨hx, hZ, hown, rfl, hml, hret, hnm, -⟩ := cx
  obtain ⟨d, rfl⟩ := d
  subst hk1 hn1 hst
  intro T locs cells slots X N eT hk hn
  obtain ⟨v, _, ⟨T', L', k1', n1'⟩, -, X', ⟨Lc, hQ, l1, l2, l3⟩, stp⟩ := Jvm.LawKit.callS X hx (y := y) hown (mvT hZ w1) (mvT hZ w2) (mvT hZ w3) (mvT hZ w4) hy (backOf (W := W) (Q := fun v h L => Q' v h ∧ Fr Z.heap.size L) (M []) hZ w4 w3 hf hl) (g := mkF m pc Ls (argsL.reverse ++ rest)) rfl (by rw [hml]; exact hsz)  (argsL := argsL) (rest := rest) hlen rfl (by show 2 * 0 + _ ≤ _; omega) d (fun _ _ => ⟨rfl, eT, (by show cells + rm.cells ≤ _; omega), (by show slots + rm.slots ≤ _; omega)⟩)
  dsimp only [Pt.U, Pt.locs, Pt.cells, Pt.slots] at X' l1 l2 l3 stp hQ
  subst l1 l2 l3
  obtain ⟨s₂, o, st2, r⟩ := H v T'.heap hQ.1 T' _ _ _ X' (Fr.app N hQ.2) rfl (by omega) (by omega)
  exact ⟨s₂, o, stp _ st2, r⟩
theorem g_special {kx nx : Nat} (cx : Cx Z p s m meth c R kx nx own nm code maxL ret) {i W k' n' maxL' : Nat} {bytes : ByteArray} {ret' : Option FieldType} {rm : Room} {argsL : List Value} {Q' : Option Value → Heap → Prop} {y : MethodName} {a : Addr} (d : Dc code pc (.invokespecial i) 3 pc') (hyn : y.name = "<init>") (hr0 : ret' = none) (w1 : (Jvm.Cond.methodLink own i y).before a0 Z = true) (w2 : (Jvm.Cond.instanceMethod y).before a0 Z = true) (w3 : (Jvm.Cond.initialized y.cls).before a0 Z = true) (w4 : (Jvm.Cond.code y bytes maxL' ret').before a0 Z = true) (hy : y.cls ≠ "java/lang/invoke/MethodHandle" ∧ y.cls ≠ "java/lang/invoke/VarHandle") (M : Met l Z y bytes maxL' ret' rm (.ref a :: argsL).toArray h Q') (hsz : Ls.size = maxL) (hlen : ∀ sig, parseMethodDescriptor y.desc = some sig → argsL.length = sig.parameters.length) (hf : rm.frames + 1 ≤ R.frames) (hW : (rest.map fun v => v.category).sum ≤ W) (hl : W + (maxL' + 11) + rm.locals ≤ R.locals) (hk1 : k + rm.cells = k') (hn1 : n + rm.slots = n') (hkR : k' ≤ R.cells) (hnR : n' ≤ R.slots)
    (hst : st = argsL.reverse ++ .ref a :: rest) (H : ∀ v h', Q' v h' → G p l e R s m args below meth c Z.heap.size Q h' k' n' pc' Ls (v.toList ++ rest)) : G p l e R s m args below meth c Z.heap.size Q h k n pc Ls st := by
  obtain ⟨hx, hZ, hown, rfl, hml, hret, hnm, -⟩ := cx
  obtain ⟨d, rfl⟩ := d
  subst hk1 hn1 hst
  intro T locs cells slots X N eT hk hn
  subst hr0
  obtain ⟨v, _, ⟨T', L', k1', n1'⟩, -, X', ⟨Lc, hQ, l1, l2, l3⟩, stp⟩ := X.specialBack hx (y := y) hyn hown (mvT hZ w1) (mvT hZ w2) (mvT hZ w4) hy (backOf (W := W) (Q := fun v h L => Q' v h ∧ Fr Z.heap.size L) (M []) hZ w4 w3 hf hl) (g := mkF m pc Ls (argsL.reverse ++ .ref a :: rest)) rfl (by rw [hml]; exact hsz) (Steps.refl _) (a := a) (argsL := argsL) (rest := rest) hlen rfl (by show 2 * 0 + _ ≤ _; omega) d (fun _ _ => ⟨rfl, eT, (by show cells + rm.cells ≤ _; omega), (by show slots + rm.slots ≤ _; omega)⟩)
  dsimp only [Pt.U, Pt.locs, Pt.cells, Pt.slots] at X' l1 l2 l3 stp hQ
  subst l1 l2 l3
  obtain ⟨s₂, o, st2, r⟩ := H v T'.heap hQ.1 T' _ _ _ X' (Fr.app N hQ.2) rfl (by omega) (by omega)
  exact ⟨s₂, o, stp.trans st2, r⟩
theorem g_virtual {kx nx : Nat} (cx : Cx Z p s m meth c R kx nx own nm code maxL ret) {i W k' n' maxL' : Nat} {bytes : ByteArray} {ret' : Option FieldType} {rm : Room} {argsL : List Value} {Q' : Option Value → Heap → Prop} {y z : MethodName} {a : Addr} {C : String} (d : Dc code pc (.invokevirtual i) 3 pc') (w1 : (Jvm.Cond.methodLink own i y).before a0 Z = true) (w2 : (Jvm.Cond.declares y).before a0 Z = true) (w3 : (Jvm.Cond.initialized z.cls).before a0 Z = true) (w4 : (Jvm.Cond.code z bytes maxL' ret').before a0 Z = true) (w5 : (Jvm.Cond.selects C y z).before a0 Z = true) (w6 : (Jvm.Cond.instanceMethod z).before a0 Z = true) (hnf : y = z) (hy : y.cls ≠ "java/lang/invoke/MethodHandle" ∧ y.cls ≠ "java/lang/invoke/VarHandle") (E : Exa Z h a C) (M : Met l Z z bytes maxL' ret' rm (.ref a :: argsL).toArray h Q') (hsz : Ls.size = maxL) (hlen : ∀ sig, parseMethodDescriptor y.desc = some sig → argsL.length = sig.parameters.length) (hf : rm.frames + 1 ≤ R.frames) (hW : (rest.map fun v => v.category).sum ≤ W) (hl : W + (maxL' + 11) + rm.locals ≤ R.locals) (hk1 : k + rm.cells = k') (hn1 : n + rm.slots = n') (hkR : k' ≤ R.cells) (hnR : n' ≤ R.slots)
    (hst : st = argsL.reverse ++ .ref a :: rest) (H : ∀ v h', Q' v h' → G p l e R s m args below meth c Z.heap.size Q h' k' n' pc' Ls (v.toList ++ rest)) : G p l e R s m args below meth c Z.heap.size Q h k n pc Ls st := by
  obtain ⟨hx, hZ, hown, rfl, hml, hret, hnm, -⟩ := cx
  obtain ⟨d, rfl⟩ := d
  subst hk1 hn1 hst
  intro T locs cells slots X N eT hk hn
  subst hnf
  obtain ⟨cq, kq, q1, q2, q3⟩ := isOf hZ eT E
  obtain ⟨v, _, ⟨T', L', k1', n1'⟩, -, X', ⟨Lc, hQ, l1, l2, l3⟩, stp⟩ := X.virtualBack hx (y := y) (z := y) hown (mvT hZ w1) (mvT hZ w2) (notFace_of_selects (args := #[]) (mvT hZ w5)) (mvT hZ w5) (mvT hZ w6) hy (backOf (W := W) (Q := fun v h L => Q' v h ∧ Fr Z.heap.size L) (M []) hZ w4 w3 hf hl) q1 q3 (g := mkF m pc Ls (argsL.reverse ++ .ref a :: rest)) rfl (by rw [hml]; exact hsz) (Steps.refl _) (argsL := argsL) (rest := rest) hlen rfl (by show 2 * 0 + _ ≤ _; omega) d (fun _ _ => ⟨rfl, eT, (by show cells + rm.cells ≤ _; omega), (by show slots + rm.slots ≤ _; omega)⟩)
  dsimp only [Pt.U, Pt.locs, Pt.cells, Pt.slots] at X' l1 l2 l3 stp hQ
  subst l1 l2 l3
  obtain ⟨s₂, o, st2, r⟩ := H v T'.heap hQ.1 T' _ _ _ X' (Fr.app N hQ.2) rfl (by omega) (by omega)
  exact ⟨s₂, o, stp.trans st2, r⟩
theorem g_private {kx nx : Nat} (cx : Cx Z p s m meth c R kx nx own nm code maxL ret) {i W k' n' maxL' : Nat} {bytes : ByteArray} {ret' : Option FieldType} {rm : Room} {argsL : List Value} {Q' : Option Value → Heap → Prop} {y : MethodName} {a : Addr} (d : Dc code pc (.invokevirtual i) 3 pc') (w1 : (Jvm.Cond.methodLink own i y).before a0 Z = true) (w2 : (Jvm.Cond.instanceMethod y).before a0 Z = true) (w3 : (Jvm.Cond.initialized y.cls).before a0 Z = true) (w4 : (Jvm.Cond.code y bytes maxL' ret').before a0 Z = true) (w5 : (Jvm.Cond.selects y.cls y y).before a0 Z = true) (w6 : (Jvm.Cond.privateMethod y).before a0 Z = true) (hy : y.cls ≠ "java/lang/invoke/MethodHandle" ∧ y.cls ≠ "java/lang/invoke/VarHandle") {C : String} (E : Exa Z h a C) (M : Met l Z y bytes maxL' ret' rm (.ref a :: argsL).toArray h Q') (hsz : Ls.size = maxL) (hlen : ∀ sig, parseMethodDescriptor y.desc = some sig → argsL.length = sig.parameters.length) (hf : rm.frames + 1 ≤ R.frames) (hW : (rest.map fun v => v.category).sum ≤ W) (hl : W + (maxL' + 11) + rm.locals ≤ R.locals) (hk1 : k + rm.cells = k') (hn1 : n + rm.slots = n') (hkR : k' ≤ R.cells) (hnR : n' ≤ R.slots)
    (hst : st = argsL.reverse ++ .ref a :: rest) (H : ∀ v h', Q' v h' → G p l e R s m args below meth c Z.heap.size Q h' k' n' pc' Ls (v.toList ++ rest)) : G p l e R s m args below meth c Z.heap.size Q h k n pc Ls st := by
  obtain ⟨hx, hZ, hown, rfl, hml, hret, hnm, -⟩ := cx
  obtain ⟨d, rfl⟩ := d
  subst hk1 hn1 hst
  intro T locs cells slots X N eT hk hn
  obtain ⟨cq, q1, q2⟩ := E.cell
  obtain ⟨v, _, ⟨T', L', k1', n1'⟩, -, X', ⟨Lc, hQ, l1, l2, l3⟩, stp⟩ := X.privateBack hx (y := y) hown (mvT hZ w1) (mvT hZ w2) (mvT hZ w5) (Cond.privateMethod_at (mvP hZ w6 (args := #[]))) (mvT hZ w4) hy (backOf (W := W) (Q := fun v h L => Q' v h ∧ Fr Z.heap.size L) (M []) hZ w4 w3 hf hl) (g := mkF m pc Ls (argsL.reverse ++ .ref a :: rest)) rfl (by rw [hml]; exact hsz) (Steps.refl _) (a := a) (by rw [eT]; exact q1) q2 (argsL := argsL) (rest := rest) hlen rfl (by show 2 * 0 + _ ≤ _; omega) d (fun _ _ => ⟨rfl, eT, (by show cells + rm.cells ≤ _; omega), (by show slots + rm.slots ≤ _; omega)⟩)
  dsimp only [Pt.U, Pt.locs, Pt.cells, Pt.slots] at X' l1 l2 l3 stp hQ
  subst l1 l2 l3
  obtain ⟨s₂, o, st2, r⟩ := H v T'.heap hQ.1 T' _ _ _ X' (Fr.app N hQ.2) rfl (by omega) (by omega)
  exact ⟨s₂, o, stp.trans st2, r⟩
theorem g_virtualUp {kx nx : Nat} (cx : Cx Z p s m meth c R kx nx own nm code maxL ret) {i W k' n' maxL' : Nat} {bytes : ByteArray} {ret' : Option FieldType} {rm : Room} {argsL : List Value} {Q' : Option Value → Heap → Prop} {x y : MethodName} {a : Addr} {C owner : String} (d : Dc code pc (.invokevirtual i) 3 pc') (w1 : (Jvm.Cond.methodLink own i x).before a0 Z = true) (w0 : (Jvm.Cond.sameMethod x.cls owner x.name x.desc).before a0 Z = true) (w2 : (Jvm.Cond.declares ⟨owner, x.name, x.desc⟩).before a0 Z = true) (w3 : (Jvm.Cond.initialized y.cls).before a0 Z = true) (w4 : (Jvm.Cond.code y bytes maxL' ret').before a0 Z = true) (w5 : (Jvm.Cond.selects C x y).before a0 Z = true) (w6 : (Jvm.Cond.instanceMethod y).before a0 Z = true) (hy : owner ≠ "java/lang/invoke/MethodHandle" ∧ owner ≠ "java/lang/invoke/VarHandle") (E : Exa Z h a C) (M : Met l Z y bytes maxL' ret' rm (.ref a :: argsL).toArray h Q') (hsz : Ls.size = maxL) (hlen : ∀ sig, parseMethodDescriptor x.desc = some sig → argsL.length = sig.parameters.length) (hf : rm.frames + 1 ≤ R.frames) (hW : (rest.map fun v => v.category).sum ≤ W) (hl : W + (maxL' + 11) + rm.locals ≤ R.locals) (hk1 : k + rm.cells = k') (hn1 : n + rm.slots = n') (hkR : k' ≤ R.cells) (hnR : n' ≤ R.slots)
    (hst : st = argsL.reverse ++ .ref a :: rest) (H : ∀ v h', Q' v h' → G p l e R s m args below meth c Z.heap.size Q h' k' n' pc' Ls (v.toList ++ rest)) : G p l e R s m args below meth c Z.heap.size Q h k n pc Ls st := by
  obtain ⟨hx, hZ, hown, rfl, hml, hret, hnm, -⟩ := cx
  obtain ⟨d, rfl⟩ := d
  subst hk1 hn1 hst
  intro T locs cells slots X N eT hk hn
  obtain ⟨cq, kq, q1, q2, q3⟩ := isOf hZ eT E
  obtain ⟨v, _, ⟨T', L', k1', n1'⟩, -, X', ⟨Lc, hQ, l1, l2, l3⟩, stp⟩ := X.virtualBackUp hx (x := x) (y := y) hown (mvT hZ w1) (mvT hZ w0) (mvT hZ w2) hy (mvT hZ w5) (mvT hZ w6) (backOf (W := W) (Q := fun v h L => Q' v h ∧ Fr Z.heap.size L) (M []) hZ w4 w3 hf hl) q1 q3 (g := mkF m pc Ls (argsL.reverse ++ .ref a :: rest)) rfl (by rw [hml]; exact hsz) (Steps.refl _) (argsL := argsL) (rest := rest) hlen rfl (by show 2 * 0 + _ ≤ _; omega) d (fun _ _ => ⟨rfl, eT, (by show cells + rm.cells ≤ _; omega), (by show slots + rm.slots ≤ _; omega)⟩)
  dsimp only [Pt.U, Pt.locs, Pt.cells, Pt.slots] at X' l1 l2 l3 stp hQ
  subst l1 l2 l3
  obtain ⟨s₂, o, st2, r⟩ := H v T'.heap hQ.1 T' _ _ _ X' (Fr.app N hQ.2) rfl (by omega) (by omega)
  exact ⟨s₂, o, stp.trans st2, r⟩
theorem specialRef {T : State} {locs : List Loc} {cells slots : Nat} (X : Stand p l e R s m args below meth c T locs cells slots) (hexec : p.tables.exec = Jvm.exec) (hZ : Z.Warmed39 s.vm) {index : Nat} {y : MethodName} (hy1 : y.name = "<init>") (hown : s.vm.findClass own = some m.cls)
    (href : (Jvm.Cond.methodRef own index y).before a0 Z = true) (hinst : (Jvm.Cond.instanceMethod y).before a0 Z = true) {bytes : ByteArray} {mL : Nat} (hcode : (Jvm.Cond.code y bytes mL none).before a0 Z = true) (hy : y.cls ≠ "java/lang/invoke/MethodHandle" ∧ y.cls ≠ "java/lang/invoke/VarHandle")
    {W : Nat} {Pre : Pt → Array Value → Prop} {Post : Pt → Array Value → Option Value → Pt → Prop} (hK : Back l R p e below s args y 3 W Pre Post)
    {g : JFrame} (hg : g.method = m) (hsize : g.locals.size = c.maxLocals) {a : Addr} {argsL rest : List Value}
    (hlen : ∀ sig, parseMethodDescriptor y.desc = some sig → argsL.length = sig.parameters.length) (hstack : g.stack = argsL.reverse ++ .ref a :: rest) (hW : 2 * g.monitorRoom + (rest.map fun v => v.category).sum ≤ W)
    (hdg : decode c.code g.pc = .ok (.invokespecial index, 3)) (hpre : Pre ⟨T, locs, cells, slots⟩ (.ref a :: argsL).toArray) :
    ∃ (v : Option Value) (B : Pt), Stand p l e R s m args below meth c B.U B.locs B.cells B.slots ∧ Post ⟨T, locs, cells, slots⟩ (.ref a :: argsL).toArray v B ∧
      Steps p.tables e below (T.setTop g) (B.U.setTop { g with pc := g.pc + 3, stack := v.toList ++ rest }) := by
  have hZT : Z.Warmed39 T.vm := wtrans hZ X.warmed
  have hinst' : (Jvm.Cond.instanceMethod y).before args s = true := mvT hZ hinst
  have hcode' : (Jvm.Cond.code y bytes mL none).before args s = true := mvT hZ hcode
  obtain ⟨obj, methO, hnO, hmO, hstO, habO⟩ := Cond.instanceMethod_spec hinst'
  obtain ⟨methO', cO, hmO', hcO, hbO, hlO, -, hlockO, -, hsigO⟩ := Cond.code_spec hnO hcode'
  cases hmO.symm.trans hmO'
  obtain ⟨kO, hkO, hnameO⟩ := className_of_methodNamed hnO
  obtain ⟨hnameMO, hdescO⟩ := name_of_methodNamed hnO hmO
  obtain ⟨objZ, _, hnZ, -⟩ := Cond.instanceMethod_spec hinst
  have hr : (Jvm.Cond.methodRef own index y).before a0 (Z.setVm T.vm) = true := Cond.methodRef_warmed39 hZT hnZ hy href
  have hownT : (Z.setVm T.vm).vm.findClass own = some m.cls := by show T.vm.findClass own = _; rw [X.warmed.alike.findClass]; exact hown
  obtain ⟨m', c', hm', hready, hfind, hnamed⟩ := Cond.methodRef_named e hownT hr
  have hf0 : s.methodFound? y.cls y.name y.desc = some obj := State.methodFound?_of_named hnO hy
  have hf1 : (s.setVm T.vm).methodFound? y.cls y.name y.desc = some obj := (State.methodFound?_setVm_of_named X.warmed.alike hnO hy).trans hf0
  have hf2 : (Z.setVm T.vm).methodFound? y.cls y.name y.desc = some obj := hf1
  cases hf2.symm.trans hm'
  have hcc : c' = obj.cls := by
    have h1 : T.vm.findClass y.cls = some c' := hfind
    rw [X.warmed.alike.findClass, findClass_of_methodNamed hnO] at h1
    exact (Option.some.inj h1).symm
  subst hcc
  obtain ⟨kO₂, hkO₂, heO₂⟩ := X.warmed.alike.2.2 _ _ hkO
  have hmO₂ : T.vm.method? obj = some methO := by rw [X.warmed.alike.method?]; exact hmO
  have hfound : lookupSpecial T.vm obj.cls "<init>" methO.desc = .method obj := by
    rw [X.warmed.alike.lookupSpecial, hdescO, ← hy1]; exact lookupSpecial_of_named hnO hmO hstO
  obtain ⟨v, B, X', hpost, hsteps⟩ := hK m meth c ⟨T, locs, cells, slots⟩ { g with stack := rest } (.invokespecial index) obj (.ref a :: argsL).toArray X hg hsize hdg hW (X.named hnO) hpre
  refine ⟨v, B, X', hpost, Steps.trans ?_ hsteps⟩
  subst hg
  jvm_step X.here [hexec, hdg, invokespecial.wp_init (e := e) (s := T) (k := kO₂) (meth := methO) (m := obj) (a := a) (args := argsL) (rest := rest) (f := g) X.here.top hnamed hready hkO₂ hmO₂ (by rw [hnameMO]; exact hy1) hstO habO hfound (hlen _ hsigO) hstack]
  intro acts
  rw [doInvoke_state]
  exact Steps.refl _
theorem g_specialRef {kx nx : Nat} (cx : Cx Z p s m meth c R kx nx own nm code maxL ret) {i W k' n' maxL' : Nat} {bytes : ByteArray} {ret' : Option FieldType} {rm : Room} {argsL : List Value} {Q' : Option Value → Heap → Prop} {y : MethodName} {a : Addr} (d : Dc code pc (.invokespecial i) 3 pc') (hyn : y.name = "<init>") (hr0 : ret' = none) (w1 : (Jvm.Cond.methodRef own i y).before a0 Z = true) (w2 : (Jvm.Cond.instanceMethod y).before a0 Z = true) (w3 : (Jvm.Cond.initialized y.cls).before a0 Z = true) (w4 : (Jvm.Cond.code y bytes maxL' ret').before a0 Z = true) (hy : y.cls ≠ "java/lang/invoke/MethodHandle" ∧ y.cls ≠ "java/lang/invoke/VarHandle") (M : Met l Z y bytes maxL' ret' rm (.ref a :: argsL).toArray h Q') (hsz : Ls.size = maxL) (hlen : ∀ sig, parseMethodDescriptor y.desc = some sig → argsL.length = sig.parameters.length) (hf : rm.frames + 1 ≤ R.frames) (hW : (rest.map fun v => v.category).sum ≤ W) (hl : W + (maxL' + 11) + rm.locals ≤ R.locals) (hk1 : k + rm.cells = k') (hn1 : n + rm.slots = n') (hkR : k' ≤ R.cells) (hnR : n' ≤ R.slots)
    (hst : st = argsL.reverse ++ .ref a :: rest) (H : ∀ v h', Q' v h' → G p l e R s m args below meth c Z.heap.size Q h' k' n' pc' Ls (v.toList ++ rest)) : G p l e R s m args below meth c Z.heap.size Q h k n pc Ls st := by
  obtain ⟨hx, hZ, hown, rfl, hml, hret, hnm, -⟩ := cx
  obtain ⟨d, rfl⟩ := d
  subst hk1 hn1 hst
  intro T locs cells slots X N eT hk hn
  subst hr0
  obtain ⟨v, ⟨T', L', k1', n1'⟩, X', ⟨Lc, hQ, l1, l2, l3⟩, stp⟩ := specialRef X hx hZ (y := y) hyn hown w1 w2 w4 hy (backOf (W := W) (Q := fun v h L => Q' v h ∧ Fr Z.heap.size L) (M []) hZ w4 w3 hf hl) (g := mkF m pc Ls (argsL.reverse ++ .ref a :: rest)) rfl (by rw [hml]; exact hsz) (a := a) (argsL := argsL) (rest := rest) hlen rfl (by show 2 * 0 + _ ≤ _; omega) d ⟨rfl, eT, (by show cells + rm.cells ≤ _; omega), (by show slots + rm.slots ≤ _; omega)⟩
  dsimp only [Pt.U, Pt.locs, Pt.cells, Pt.slots] at X' l1 l2 l3 stp hQ
  subst l1 l2 l3
  obtain ⟨s₂, o, st2, r⟩ := H v T'.heap hQ.1 T' _ _ _ X' (Fr.app N hQ.2) rfl (by omega) (by omega)
  exact ⟨s₂, o, stp.trans st2, r⟩
theorem g_lsw {kx nx : Nat} (cx : Cx Z p s m meth c R kx nx own nm code maxL ret) {x : Int32} {dflt : Int} {pairs : Array (Int × Int)} {len : Nat} (d : decode code pc = .ok (.lookupswitch dflt pairs, len)) (hs : (pairs.toList.zip (pairs.toList.drop 1)).all (fun (a, next) => a.1 < next.1) = true) {off : Int} (hf : ((pairs.find? (·.1 == x.toInt)).map (·.2)).getD dflt = off) (h0 : 0 ≤ (pc : Int) + off) (hp : ((pc : Int) + off).toNat = pc') (H : G p l e R s m args below meth c Z.heap.size Q h k n pc' Ls st) : G p l e R s m args below meth c Z.heap.size Q h k n pc Ls (.int x :: st) := by
  obtain ⟨hx, hZ, hown, rfl, hml, hret, hnm, -⟩ := cx
  subst hp
  intro T locs cells slots X N eT hk hn
  obtain ⟨s₂, o, st2, r⟩ := H T locs cells slots X N eT hk hn
  cases hq : pairs.find? (·.1 == x.toInt) with
  | none =>
    rw [hq] at hf
    have hf' : dflt = off := hf
    subst hf'
    exact ⟨s₂, o, X.lookupswitchMiss hx (g := mkF m pc Ls (.int x :: st)) rfl rfl d hs hq h0 _ st2, r⟩
  | some ao =>
    rw [hq] at hf
    have hf' : ao.2 = off := hf
    subst hf'
    exact ⟨s₂, o, X.lookupswitchHit hx (g := mkF m pc Ls (.int x :: st)) rfl rfl d hs (a := ao.1) (off := ao.2) hq h0 _ st2, r⟩
theorem lsw_miss {x : Int32} {dflt : Int} {pairs : Array (Int × Int)} (q : ∀ a ∈ pairs.toList, a.1 ≠ x.toInt) : ((pairs.find? (·.1 == x.toInt)).map (·.2)).getD dflt = dflt := by rw [find_miss q]; rfl
theorem g_aaloadR {kx nx : Nat} (cx : Cx Z p s m meth c R kx nx own nm code maxL ret) {a : Addr} {cl : Cell} {j : Int32} {v : Value} {ty : FieldType} (d : Dc code pc .aaload 1 pc') (A : Arr Z h a cl ty) (hty : ty.isReference = true) (hj : ¬ (j < 0 ∨ cl.slots.size ≤ j.toNatClampNeg)) (hv : cl.slots[j.toNatClampNeg]? = some v) (H : G p l e R s m args below meth c Z.heap.size Q h k n pc' Ls (v :: st)) : G p l e R s m args below meth c Z.heap.size Q h k n pc Ls (.int j :: .ref a :: st) := by
  obtain ⟨hx, hZ, hown, rfl, hml, hret, hnm, -⟩ := cx
  obtain ⟨d, rfl⟩ := d
  intro T locs cells slots X N eT hk hn
  obtain ⟨s₂, o, st2, r⟩ := H T _ cells slots X N eT hk hn
  exact ⟨s₂, o, X.aaload hx (j := j) (v := v) (by rw [eT]; exact A.1) (State.isArrayOf_alike hZ.alike A.2.1) hty A.2.2 hj hv (g := mkF m pc Ls (.int j :: .ref a :: st)) rfl rfl d _ st2, r⟩
theorem arr_len {t : Term} {a : Addr} {cl : Cell} {ty : FieldType} {z : Int32} (ev : t.eval args Z none [] Z = some (.ref a)) (A : Arr Z Z.heap a cl ty) (h3 : (Jvm.Cond.eq (.length t) (.int z)).value args Z none Z [] = some true) : cl.slots.size < 2 ^ 31 ∧ cl.slots.size.toInt32 = z := by
  have ex := eqv_i (F := .int z) rfl h3
  have A1 := A.fin (Vm.Alike.refl _)
  have hl : cl.slots.size < 2 ^ 31 := by
    refine Decidable.byContradiction fun hc => ?_
    simp [Term.eval, ev, A1, hc] at ex
  rw [len_f ev A1 hl] at ex
  exact ⟨hl, by simpa using ex⟩
theorem sta_arr {C f d : String} {ty : FieldType} {z : Int32} (hi : (Jvm.Cond.initializedFor C f d).before args Z = true ∨ ((Jvm.Cond.initialized C).before args Z = true ∧ (Jvm.Cond.laysStatic C f d).before args Z = true)) (h1 : (Jvm.Cond.arrayOf (.static C f d) ty).value args Z none Z [] = some true) (h3 : (Jvm.Cond.eq (.length (.static C f d)) (.int z)).value args Z none Z [] = some true) :
    ∃ a cl, Sta Z Z.heap C f d (.ref a) ∧ (Term.static C f d).eval args Z none [] Z = some (.ref a) ∧ Arr Z Z.heap a cl ty ∧ cl.slots.size < 2 ^ 31 ∧ cl.slots.size.toInt32 = z := by
  obtain ⟨a, ev⟩ := arr_v h1
  obtain ⟨cl, A⟩ := Arr.start ev h1
  obtain ⟨q1, q2⟩ := arr_len ev A h3
  exact ⟨a, cl, Sta.start ev hi, ev, A, q1, q2⟩
theorem fld_exa {t : Term} {C f d K : String} {a : Addr} (ev : t.eval args Z none [] Z = some (.ref a)) (h : (Jvm.Cond.exactly (.field t C f d) K).value args Z none Z [] = some true) : ∃ b, Fld Z Z.heap a C f d (.ref b) ∧ Exa Z Z.heap b K ∧ (Term.field t C f d).eval args Z none [] Z = some (.ref b) := by
  obtain ⟨b, eb⟩ := exa_v h
  exact ⟨b, Fld.start ((fld_at ev).symm.trans eb), Exa.start eb h, eb⟩
theorem fld_arr {t : Term} {C f d : String} {a : Addr} {ty : FieldType} {z : Int32} (ev : t.eval args Z none [] Z = some (.ref a)) (h : (Jvm.Cond.arrayOf (.field t C f d) ty).value args Z none Z [] = some true) (h3 : (Jvm.Cond.eq (.length (.field t C f d)) (.int z)).value args Z none Z [] = some true) : ∃ b cl, Fld Z Z.heap a C f d (.ref b) ∧ (Term.field t C f d).eval args Z none [] Z = some (.ref b) ∧ Arr Z Z.heap b cl ty ∧ cl.slots.size < 2 ^ 31 ∧ cl.slots.size.toInt32 = z := by
  obtain ⟨b, eb⟩ := arr_v h
  obtain ⟨cl, A⟩ := Arr.start eb h
  obtain ⟨q1, q2⟩ := arr_len eb A h3
  exact ⟨b, cl, Fld.start ((fld_at ev).symm.trans eb), eb, A, q1, q2⟩
theorem elem_eq {t : Term} {a : Addr} {cl : Cell} {ty : FieldType} {j v : Int32} (ev : t.eval args Z none [] Z = some (.ref a)) (A : Arr Z Z.heap a cl ty) (h : (Jvm.Cond.eq (.elem t (.int j)) (.int v)).value args Z none Z [] = some true) : cl.slots[j.toNatClampNeg]? = some (.int v) := (elem_in (eqv_i (F := .int v) rfl h) ev rfl A.1).2
theorem own_selpriv {y : MethodName} {sl : Nat} (hins : (Jvm.Cond.instantiable y.cls sl).before a0 Z = true) (hpriv : (Jvm.Cond.privateMethod y).before a0 Z = true) (hinst : (Jvm.Cond.instanceMethod y).before a0 Z = true) (hy : y.cls ≠ "java/lang/invoke/MethodHandle" ∧ y.cls ≠ "java/lang/invoke/VarHandle") : (Jvm.Cond.selects y.cls y y).before a0 Z = true := by
  obtain ⟨c, k, hc, hk, -, hniab, -, -⟩ := Cond.instantiable_spec hins
  have hni : k.isInterface = false := (Bool.or_eq_false_iff.mp hniab).1
  obtain ⟨mk, methM, hnamed, hmethM, -, -⟩ := Cond.instanceMethod_spec hinst
  have hfound : Z.methodFound? y.cls y.name y.desc = some mk := State.methodFound?_of_named hnamed hy
  have hcls : mk.cls = c := Option.some.inj ((findClass_of_methodNamed hnamed).symm.trans hc)
  have hsel : selectMethod {} Z.vm c mk = .method mk := selectMethod_private hmethM (Cond.privateMethod_at hpriv mk methM hnamed hmethM)
  simp only [Cond.before, Cond.holds, Cond.value, hc, hfound, hnamed, hsel, hcls, hk]
  simp; exact hni
theorem nar1 : nar .boolean 1 = 1 := rfl
theorem nar0 : nar .boolean 0 = 0 := rfl
theorem sta_exa {C f d K : String} (hx : (Jvm.Cond.exactly (.static C f d) K).value args Z none Z [] = some true) (wi : (Jvm.Cond.initialized C).before args Z = true) (wl : (Jvm.Cond.laysStatic C f d).before args Z = true) : ∃ a, Sta Z Z.heap C f d (.ref a) ∧ Exa Z Z.heap a K ∧ (Term.static C f d).eval args Z none [] Z = some (.ref a) := by
  obtain ⟨a, ev⟩ := exa_v hx
  exact ⟨a, Sta.start ev (Or.inr ⟨wi, wl⟩), Exa.start ev hx, ev⟩
theorem fld_eq {t : Term} {C f d : String} {a : Addr} {v : Int32} (ev : t.eval args Z none [] Z = some (.ref a)) (h : (Jvm.Cond.eq (.field t C f d) (.int v)).value args Z none Z [] = some true) : Fld Z Z.heap a C f d (.int v) := by
  obtain ⟨x, y, ex, ey, -, k2⟩ := cmp_v (Or.inl h)
  have e2 : y = .int v := by simpa [Term.eval] using ey.symm
  subst e2
  obtain ⟨z, rfl⟩ := k2
  have hz : z = v := by simpa [Cond.value, ex, ey] using h
  subst hz
  rw [fld_at ev] at ex
  exact Fld.start ex
theorem sta_int {C f d : String} (hi : (Jvm.Cond.initializedFor C f d).before args Z = true) (h1 : (Jvm.Cond.isInt (.static C f d)).before args Z = true) : ∃ v, Sta Z Z.heap C f d (.int v) ∧ (Term.static C f d).eval args Z none [] Z = some (.int v) := by
  obtain ⟨v, ev⟩ := is_v (Cond.before_iff.mp h1)
  exact ⟨v, Sta.start ev (Or.inl hi), ev⟩
theorem ne_of_not {t : Term} {z v : Int32} (ev : t.eval args Z none [] Z = some (.int z)) (h : (Jvm.Cond.not (.eq t (.int v))).before args Z = true) : ¬ z = v := by
  have h2 := not_v (Cond.before_iff.mp h)
  intro q
  subst q
  simp [Cond.value, ev, Term.eval] at h2
theorem own_lrem (x y : Int64) (d : Int) (hy : y.toInt = d) : (0 ≤ x.toInt → (x % y).toInt = x.toInt % d) ∧ (x.toInt < 0 → (x % y).toInt = -((-x.toInt) % d)) := by
  rw [← lrem_mod]; exact c_lrem x y d hy
end Walk
section WalkX
variable {p : Program} {l : Launch} {e : Env} {R : Room} {s : State} {m : MethodId} {args : Array Value} {below : List Frame} {meth : Method} {c : Code} {Z : State} {a0 : Array Value} {k n : Nat} {own nm : String} {code : ByteArray} {maxL : Nat} {ret : Option FieldType} {n0 : Nat} {Q : Option Value → Heap → Prop} {h : Heap} {pc pc' pcY pcN : Nat} {Ls : Array Slot} {st rest : List Value}
def own_nz (x : Int32) : Int32 := if x = 0 then 0 else 1
theorem own_nz_b (x : Int32) : 0 ≤ (own_nz x).toInt ∧ (own_nz x).toInt ≤ 1 := by
  unfold own_nz; split <;> decide
theorem g_tern {kx nx : Nat} (cx : Cx Z p s m meth c R kx nx own nm code maxL ret) {x : Int32} {pc1 pc2 pcB pcZ : Nat} (d : Bi code pc (Instr.ifCond .eq) pcY pc1) (d1 : Dc code pc1 (.iconst 1) 1 pc2) (d2 : Bi code pc2 Instr.goto pcB pcZ) (d0 : Dc code pcY (.iconst 0) 1 pcB) (H : G p l e R s m args below meth c Z.heap.size Q h k n pcB Ls (.int (own_nz x) :: st)) : G p l e R s m args below meth c Z.heap.size Q h k n pc Ls (.int x :: st) :=
  g_if_eq cx d (fun q => g_iconst cx d0 (v := 0) rfl (by rw [show own_nz x = 0 from if_pos q] at H; exact H)) (fun q => g_iconst cx d1 (v := 1) rfl (g_goto cx d2 (by rw [show own_nz x = 1 from if_neg q] at H; exact H)))
theorem g_copy {kx nx : Nat} (cx : Cx Z p s m meth c R kx nx own nm code maxL ret) {i W : Nat} {a b : Addr} {k1 k' : ClassId} {ty : FieldType} {z z' sp dp nn : Int32} {vs vd us : List Value} {dv dd : Value} {ad : String} (d : Dc code pc (.invokestatic i) 3 pc') (w1 : (Jvm.Cond.methodLink own i Jvm.Stand.acN).before a0 Z = true) (w2 : (Jvm.Cond.native Jvm.Stand.acN).before a0 Z = true) (w3 : (Jvm.Cond.static Jvm.Stand.acN).before a0 Z = true) (w4 : (Jvm.Cond.initialized "java/lang/System").before a0 Z = true) (A : Arv Z h a k1 ty z vs dv) (B : Arx Z h b k' ty z' vd dd ad) (hty : refKind ty = false) (h1 : ¬ sp < 0) (h2 : ¬ dp < 0) (h3 : ¬ nn < 0) (h4 : sp.toNatClampNeg + nn.toNatClampNeg ≤ z.toNatClampNeg) (h5 : dp.toNatClampNeg + nn.toNatClampNeg ≤ z'.toNatClampNeg)
    (hus : us = (List.range nn.toNatClampNeg).map fun i => vs.getD (sp.toNatClampNeg + i) dv) (hl : dp.toNatClampNeg + nn.toNatClampNeg ≤ vd.length) (ge : Z.heap.size ≤ b) (hsz : Ls.size = maxL) (hf : 1 ≤ R.frames) (hW : (rest.map fun v => v.category).sum ≤ W) (hlo : W + 18 ≤ R.locals)
    (H : ∀ h', Keep h h' [b] → Arx Z h' b k' ty z' (vd.take dp.toNatClampNeg ++ us ++ vd.drop (dp.toNatClampNeg + nn.toNatClampNeg)) dd ad → G p l e R s m args below meth c Z.heap.size Q h' k n pc' Ls rest) : G p l e R s m args below meth c Z.heap.size Q h k n pc Ls (.int nn :: .int dp :: .ref b :: .int sp :: .ref a :: rest) := by
  obtain ⟨hx, hZ, hown, rfl, hml, hret, hnm, -⟩ := cx
  obtain ⟨d, rfl⟩ := d
  intro T locs cells slots X N eT hk hn
  obtain ⟨T', h', L, X', e', N', K, A', stp⟩ := cpA X hx hZ hown w1 w2 w3 w4 eT A B.1 (Or.inl ⟨rfl, hty⟩) h1 h2 h3 h4 h5 hus hl N ge (g := mkF m pc Ls (.int nn :: .int dp :: .ref b :: .int sp :: .ref a :: rest)) rfl (by rw [hml]; exact hsz) (rest := rest) rfl d hf (W := W) (by show 2 * 0 + _ ≤ _; omega) hlo
  obtain ⟨s₂, o, st2, r⟩ := H h' K ⟨A', B.2.keep K⟩ T' L cells slots X' N' e' hk hn
  exact ⟨s₂, o, stp _ st2, r⟩
theorem g_ldcwI {kx nx : Nat} (cx : Cx Z p s m meth c R kx nx own nm code maxL ret) {i : Nat} {v : Int32} (d : Dc code pc (.ldc_w i) 3 pc') (w : (Jvm.Cond.constant own i v).before a0 Z = true) (H : G p l e R s m args below meth c Z.heap.size Q h k n pc' Ls (.int v :: st)) : G p l e R s m args below meth c Z.heap.size Q h k n pc Ls st := by
  obtain ⟨hx, hZ, hown, rfl, hml, hret, hnm, -⟩ := cx
  obtain ⟨d, rfl⟩ := d
  intro T locs cells slots X N eT hk hn
  obtain ⟨s₂, o, st2, r⟩ := H T locs cells slots X N eT hk hn
  exact ⟨s₂, o, X.ldcwInt hx hown (mvT hZ w) (g := mkF m pc Ls st) rfl d _ st2, r⟩
end WalkX
def ObS (Z : State) (h : Heap) (a : Addr) (v1 v2 : Value) : Prop := Exa Z h a "com/example/gridsmith/gridsmith/LongSet" ∧ Fld Z h a "com/example/gridsmith/gridsmith/LongSet" "table" "[J" v1 ∧ Fld Z h a "com/example/gridsmith/gridsmith/LongSet" "size" "I" v2
theorem ObS.ext {h' : Heap} {Z : State} {h : Heap} {a : Addr} {v1 v2 : Value} (F : ObS Z h a v1 v2) (E : Ext h h') : ObS Z h' a v1 v2 := ⟨F.1.ext E, F.2.1.ext E, F.2.2.ext E⟩
theorem ObS.keep {h' : Heap} {Z : State} {h : Heap} {a : Addr} {v1 v2 : Value} {ws : List Addr} (F : ObS Z h a v1 v2) (K : Keep h h' ws) (q : a ∉ ws) : ObS Z h' a v1 v2 := ⟨F.1.keep K, F.2.1.keep K q, F.2.2.keep K q⟩
theorem ObS.oth {x : Addr} {sl : Nat} {w : Value} {h' : Heap} {Z : State} {h : Heap} {a : Addr} {v1 v2 : Value} (F : ObS Z h a v1 v2) (W : Wr h h' x sl w) (q : a ≠ x) : ObS Z h' a v1 v2 := ⟨F.1.wr W, F.2.1.other W (Or.inl q), F.2.2.other W (Or.inl q)⟩
theorem ObS.lt {Z : State} {h : Heap} {a : Addr} {v1 v2 : Value} (F : ObS Z h a v1 v2) : a < h.size := F.1.lt
theorem ObS.put1 {v : Value} {h' : Heap} {Z : State} {h : Heap} {a : Addr} {v1 v2 : Value} {a0 : Array Value} (hw : ∀ d ∈ tables_1, d.before a0 Z = true) (F : ObS Z h a v1 v2) (W : Wr h h' a (Jvm.RoadKit.slotOf Z "com/example/gridsmith/gridsmith/LongSet" "table" "[J") v) : ObS Z h' a v v2 := ⟨F.1.wr W, F.2.1.same W, F.2.2.other W (Or.inr (slot_ne (Or.inl (hw _ (List.mem_of_getElem? (i := 41) rfl))) (Or.inl (hw _ (List.mem_of_getElem? (i := 32) rfl))) (by decide) (t := .int) (t' := (.array .long)) (by decide) (by decide)))⟩
theorem ObS.put2 {v : Value} {h' : Heap} {Z : State} {h : Heap} {a : Addr} {v1 v2 : Value} {a0 : Array Value} (hw : ∀ d ∈ tables_1, d.before a0 Z = true) (F : ObS Z h a v1 v2) (W : Wr h h' a (Jvm.RoadKit.slotOf Z "com/example/gridsmith/gridsmith/LongSet" "size" "I") v) : ObS Z h' a v1 v := ⟨F.1.wr W, F.2.1.other W (Or.inr (slot_ne (Or.inl (hw _ (List.mem_of_getElem? (i := 32) rfl))) (Or.inl (hw _ (List.mem_of_getElem? (i := 41) rfl))) (by decide) (t := (.array .long)) (t' := .int) (by decide) (by decide))), F.2.2.same W⟩
theorem ObS.new {Z : State} {h : Heap} {b : Addr} {a0 : Array Value} (hw : ∀ d ∈ tables_1, d.before a0 Z = true) (E : Exa Z h b "com/example/gridsmith/gridsmith/LongSet") (D : ∀ {O nm d : String} {ty : FieldType}, Laid Z a0 "com/example/gridsmith/gridsmith/LongSet" O nm d → parseFieldDescriptor d = some ty → Fld Z h b O nm d (defaultValue ty)) : ObS Z h b .null (.int (0 : Int32)) := ⟨E, D (Or.inl (hw _ (List.mem_of_getElem? (i := 32) rfl))) (ty := (.array .long)) (by decide), D (Or.inl (hw _ (List.mem_of_getElem? (i := 41) rfl))) (ty := .int) (by decide)⟩

def own_E : Int64 := (-9223372036854775808 : Int64)
def own_upd (f : Nat → Int64) (j : Nat) (v : Int64) : Nat → Int64 := fun i => if i = j then v else f i
def own_lr (N : Nat) (f : Nat → Int64) : List Value := (List.range N).map fun j => .long (f j)
theorem own_lr_len (N : Nat) (f : Nat → Int64) : (own_lr N f).length = N := by simp [own_lr]
theorem own_lr_get {N : Nat} (f : Nat → Int64) {j : Nat} (q : j < N) (dv : Value) : (own_lr N f).getD j dv = .long (f j) := by
  simp [own_lr, List.getD_eq_getElem?_getD, List.getElem?_map, List.getElem?_range q]
theorem own_lr_set (N : Nat) (f : Nat → Int64) (j : Nat) (v : Int64) : (own_lr N f).set j (.long v) = own_lr N (own_upd f j v) := by
  apply List.ext_getElem
  · simp [own_lr]
  · intro i h1 h2
    simp only [own_lr, own_upd, List.getElem_set, List.getElem_map, List.getElem_range]
    by_cases q : i = j
    · subst q; simp
    · rw [if_neg (fun z => q z.symm), if_neg q]
def own_ls (f : Nat → Int64) (N : Nat) : List Int64 := ((List.range N).map f).filter (fun v => v != own_E)
theorem own_ls_succ (f : Nat → Int64) (n : Nat) : own_ls f (n + 1) = if f n = own_E then own_ls f n else own_ls f n ++ [f n] := by
  unfold own_ls
  rw [List.range_succ, List.map_append, List.filter_append]
  by_cases q : f n = own_E <;> simp [q]
theorem own_ls_congr {f g : Nat → Int64} : ∀ n, (∀ j, j < n → f j = g j) → own_ls f n = own_ls g n
  | 0, _ => rfl
  | n + 1, h => by rw [own_ls_succ, own_ls_succ, own_ls_congr n (fun j q => h j (by omega)), h n (by omega)]
theorem own_mem_ls {f : Nat → Int64} {N : Nat} {x : Int64} : x ∈ own_ls f N ↔ x ≠ own_E ∧ ∃ j, j < N ∧ f j = x := by
  unfold own_ls
  simp only [List.mem_filter, List.mem_map, List.mem_range, bne_iff_ne, ne_eq]
  exact ⟨fun ⟨a, b⟩ => ⟨b, a⟩, fun ⟨a, b⟩ => ⟨b, a⟩⟩
theorem own_ls_all {f : Nat → Int64} : ∀ n, (∀ j, j < n → f j ≠ own_E) → (own_ls f n).length = n
  | 0, _ => rfl
  | n + 1, h => by rw [own_ls_succ, if_neg (h n (by omega)), List.length_append, own_ls_all n (fun j q => h j (by omega))]; rfl
theorem own_upd_ne {f : Nat → Int64} {r j : Nat} {v : Int64} (q : j ≠ r) : own_upd f r v j = f j := if_neg q
theorem own_upd_eq {f : Nat → Int64} {r : Nat} {v : Int64} : own_upd f r v r = v := if_pos rfl
theorem own_ls_upd {f : Nat → Int64} {r : Nat} {v : Int64} (hE : f r = own_E) (hv : v ≠ own_E) : ∀ n, r < n → (own_ls (own_upd f r v) n).length = (own_ls f n).length + 1
  | 0, h => by omega
  | n + 1, h => by
    rw [own_ls_succ, own_ls_succ]
    by_cases q : r = n
    · subst q
      rw [own_upd_eq, if_neg hv, if_pos hE, own_ls_congr (f := own_upd f r v) (g := f) r (fun j hj => own_upd_ne (by omega)), List.length_append]
      try rfl
    · have ih := own_ls_upd hE hv n (by omega)
      rw [own_upd_ne (show n ≠ r by omega)]
      by_cases z : f n = own_E
      · rw [if_pos z, if_pos z, ih]
      · rw [if_neg z, if_neg z, List.length_append, List.length_append, ih]
        simp only [List.length_cons, List.length_nil]
def own_pr (N : Nat) (hs : Int64 → Nat) (f : Nat → Int64) : Prop := ∀ j, j < N → f j ≠ own_E → ∃ t, t < N ∧ j = (hs (f j) + t) % N ∧ ∀ t', t' < t → f ((hs (f j) + t') % N) ≠ own_E
def own_ij (N : Nat) (f : Nat → Int64) : Prop := ∀ i j, i < N → j < N → f i = f j → f i ≠ own_E → i = j
theorem own_nodup {f : Nat → Int64} : ∀ n, own_ij n f → (own_ls f n).Nodup
  | 0, _ => List.nodup_nil
  | n + 1, h => by
    have ih := own_nodup n (fun i j hi hj => h i j (by omega) (by omega))
    rw [own_ls_succ]
    by_cases q : f n = own_E
    · rw [if_pos q]; exact ih
    · rw [if_neg q]
      refine List.nodup_append.mpr ⟨ih, by simp, fun a ha b hb e => ?_⟩
      have hb : b = f n := by simpa using hb
      obtain ⟨h1, j, hj, e2⟩ := own_mem_ls.mp ha
      have := h j n (by omega) (by omega) (e2.trans (e.trans hb)) (by rw [e2]; exact h1)
      omega
section Tab
variable {N : Nat} {hs : Int64 → Nat} {f : Nat → Int64} {v : Int64} {r t : Nat}
theorem own_absent (P : own_pr N hs f) (ht : t < N) (hr : r = (hs v + t) % N) (hE : f r = own_E) (hb : ∀ t', t' < t → f ((hs v + t') % N) ≠ v) (hv : v ≠ own_E) : ∀ j, j < N → f j ≠ v := by
  intro j hj e
  obtain ⟨t1, h1, h2, h3⟩ := P j hj (by rw [e]; exact hv)
  rw [e] at h2 h3
  rcases Nat.lt_trichotomy t1 t with q | q | q
  · exact hb t1 q (by rw [← h2]; exact e)
  · subst q; rw [← hr] at h2; subst h2; exact hv (e.symm.trans hE)
  · exact h3 t q (by rw [← hr]; exact hE)
theorem own_pr_upd (P : own_pr N hs f) (hv : v ≠ own_E) (ht : t < N) (hr : r = (hs v + t) % N) (hb : ∀ t', t' < t → f ((hs v + t') % N) ≠ own_E) : own_pr N hs (own_upd f r v) := by
  have up : ∀ i, f i ≠ own_E → own_upd f r v i ≠ own_E := fun i hi => by
    by_cases q : i = r
    · subst q; rw [own_upd_eq]; exact hv
    · rw [own_upd_ne q]; exact hi
  intro j hj hne
  by_cases q : j = r
  · subst q
    rw [own_upd_eq]
    exact ⟨t, ht, hr, fun t' h' => up _ (hb t' h')⟩
  · rw [own_upd_ne q] at hne ⊢
    obtain ⟨t1, h1, h2, h3⟩ := P j hj hne
    exact ⟨t1, h1, h2, fun t' h' => up _ (h3 t' h')⟩
theorem own_ij_upd (I : own_ij N f) (ha : ∀ j, j < N → f j ≠ v) : own_ij N (own_upd f r v) := by
  intro i j hi hj e hne
  by_cases q1 : i = r
  · by_cases q2 : j = r
    · rw [q1, q2]
    · subst q1; rw [own_upd_eq, own_upd_ne q2] at e; exact absurd e.symm (ha j hj)
  · by_cases q2 : j = r
    · subst q2; rw [own_upd_eq, own_upd_ne q1] at e; exact absurd e (ha i hi)
    · rw [own_upd_ne q1] at e hne; rw [own_upd_ne q2] at e; exact I i j hi hj e hne
theorem own_mem_upd (hr : r < N) (hE : f r = own_E) (hv : v ≠ own_E) (x : Int64) : x ∈ own_ls (own_upd f r v) N ↔ x = v ∨ x ∈ own_ls f N := by
  rw [own_mem_ls, own_mem_ls]
  constructor
  · rintro ⟨h1, j, hj, e⟩
    by_cases q : j = r
    · subst q; rw [own_upd_eq] at e; exact Or.inl e.symm
    · rw [own_upd_ne q] at e; exact Or.inr ⟨h1, j, hj, e⟩
  · rintro (rfl | ⟨h1, j, hj, e⟩)
    · exact ⟨hv, r, hr, own_upd_eq⟩
    · refine ⟨h1, j, hj, ?_⟩
      by_cases q : j = r
      · subst q; exact absurd (e.symm.trans hE) h1
      · rw [own_upd_ne q]; exact e
theorem own_hasE (hn : (own_ls f N).length < N) (k : Nat) (hk : k < N) : ∃ t, t < N ∧ f ((k + t) % N) = own_E := Classical.byContradiction fun h => by
  have ha : ∀ j, j < N → f j ≠ own_E := fun j hj e => h ⟨(j + N - k) % N, Nat.mod_lt _ (by omega), by
    have : (k + (j + N - k) % N) % N = j := by
      rw [Nat.add_mod, Nat.mod_mod, ← Nat.add_mod, show k + (j + N - k) = j + N by omega, Nat.add_mod_right, Nat.mod_eq_of_lt hj]
    rw [this]; exact e⟩
  rw [own_ls_all N ha] at hn
  omega
theorem own_ls_le (f : Nat → Int64) : ∀ {m n : Nat}, m ≤ n → (own_ls f m).length ≤ (own_ls f n).length
  | m, 0, h => by have : m = 0 := by omega
                  subst this; exact Nat.le_refl _
  | m, n + 1, h => by
    by_cases q : m = n + 1
    · rw [q]; exact Nat.le_refl _
    · have := own_ls_le f (show m ≤ n by omega)
      rw [own_ls_succ f n]
      split
      · exact this
      · rw [List.length_append]; omega
end Tab
theorem own_ls_empty : ∀ n, own_ls (fun _ => own_E) n = []
  | 0 => rfl
  | n + 1 => by rw [own_ls_succ, if_pos rfl, own_ls_empty n]
theorem own_pr0 {N : Nat} {hs : Int64 → Nat} : own_pr N hs (fun _ => own_E) := fun j hj h => absurd rfl h
theorem own_ij0 {N : Nat} : own_ij N (fun _ => own_E) := fun i j _ _ _ h => absurd rfl h
/- the sizes -/
def own_sz (z : Int32) : Prop := z = (16 : Int32) ∨ z = (32 : Int32) ∨ z = (64 : Int32) ∨ z = (128 : Int32)
def own_tz (z : Int32) : Int32 := if z = (16 : Int32) then (4 : Int32) else if z = (32 : Int32) then (5 : Int32) else if z = (64 : Int32) then (6 : Int32) else (7 : Int32)
theorem own_szb {z : Int32} (h : own_sz z) : 16 ≤ z.toNatClampNeg ∧ z.toNatClampNeg ≤ 128 ∧ z.toInt = z.toNatClampNeg := by
  rcases h with rfl | rfl | rfl | rfl <;> decide
theorem own_msk {z : Int32} (h : own_sz z) (y : Int32) : ¬ (y &&& (z - (1 : Int32))) < (0 : Int32) ∧ (y &&& (z - (1 : Int32))) < z ∧ (y &&& (z - (1 : Int32))).toInt = y.toInt % z.toInt := by
  rcases h with rfl | rfl | rfl | rfl
  · have e : (y &&& ((16 : Int32) - (1 : Int32))).toInt = y.toInt % 16 := c_mask y (15 : Int32) 4 (by decide) (by decide)
    have z1 : (16 : Int32).toInt = 16 := rfl
    have z0 : (0 : Int32).toInt = 0 := rfl
    simp only [Int32.lt_iff_toInt_lt, z1]; omega
  · have e : (y &&& ((32 : Int32) - (1 : Int32))).toInt = y.toInt % 32 := c_mask y (31 : Int32) 5 (by decide) (by decide)
    have z1 : (32 : Int32).toInt = 32 := rfl
    have z0 : (0 : Int32).toInt = 0 := rfl
    simp only [Int32.lt_iff_toInt_lt, z1]; omega
  · have e : (y &&& ((64 : Int32) - (1 : Int32))).toInt = y.toInt % 64 := c_mask y (63 : Int32) 6 (by decide) (by decide)
    have z1 : (64 : Int32).toInt = 64 := rfl
    have z0 : (0 : Int32).toInt = 0 := rfl
    simp only [Int32.lt_iff_toInt_lt, z1]; omega
  · have e : (y &&& ((128 : Int32) - (1 : Int32))).toInt = y.toInt % 128 := c_mask y (127 : Int32) 7 (by decide) (by decide)
    have z1 : (128 : Int32).toInt = 128 := rfl
    have z0 : (0 : Int32).toInt = 0 := rfl
    simp only [Int32.lt_iff_toInt_lt, z1]; omega
theorem own_ixz {z r : Int32} (r0 : ¬ r < (0 : Int32)) (r1 : r < z) : r.toNatClampNeg < z.toNatClampNeg := by
  have h1 : ¬ r.toInt < (0 : Int32).toInt := fun q => r0 (Int32.lt_iff_toInt_lt.mpr q)
  have h2 := Int32.lt_iff_toInt_lt.mp r1
  have e0 : (0 : Int32).toInt = 0 := rfl
  simp only [Int32.toNatClampNeg]
  omega
theorem own_nxt {z k : Int32} (h : own_sz z) (k0 : ¬ k < (0 : Int32)) (k1 : k < z) : ((k + (1 : Int32)) &&& (z - (1 : Int32))).toNatClampNeg = (k.toNatClampNeg + 1) % z.toNatClampNeg := by
  obtain ⟨a, b, e⟩ := own_msk h (k + (1 : Int32))
  obtain ⟨s1, s2, s3⟩ := own_szb h
  have h1 : ¬ k.toInt < (0 : Int32).toInt := fun q => k0 (Int32.lt_iff_toInt_lt.mpr q)
  have h2 := Int32.lt_iff_toInt_lt.mp k1
  have e0 : (0 : Int32).toInt = 0 := rfl
  have e1 : (1 : Int32).toInt = 1 := rfl
  have w := c_iadd k (1 : Int32)
  have w2 := rng32 (k + (1 : Int32))
  have e2 : (k + (1 : Int32)).toInt = k.toInt + 1 := by omega
  have e3 : k.toInt = (k.toNatClampNeg : Int) := by simp only [Int32.toNatClampNeg]; omega
  rw [e2, e3, s3] at e
  have : (((k + (1 : Int32)) &&& (z - (1 : Int32))).toNatClampNeg : Int) = ((k.toNatClampNeg : Int) + 1) % (z.toNatClampNeg : Int) := by
    rw [← e]; simp only [Int32.toNatClampNeg]
    have : 0 ≤ ((k + (1 : Int32)) &&& (z - (1 : Int32))).toInt := by rw [e]; exact Int.emod_nonneg _ (by omega)
    omega
  have h5 : ((k.toNatClampNeg : Int) + 1) % (z.toNatClampNeg : Int) = (((k.toNatClampNeg + 1) % z.toNatClampNeg : Nat) : Int) := by push_cast; rfl
  rw [h5] at this
  exact Int.ofNat_inj.mp this

theorem own_pad0 (N : Nat) : ∀ i, (own_lr N (fun _ => (0 : Int64))).getD i (.long 0) = ([] : List Value).getD i (.long 0) := fun i => by
  by_cases q : i < N
  · rw [own_lr_get _ q]; rfl
  · simp [own_lr, List.getD_eq_getElem?_getD, q]
theorem own_nn {z : Int32} (h : own_sz z) : ¬ z < (0 : Int32) := by rcases h with rfl | rfl | rfl | rfl <;> decide
theorem own_up {z i : Int32} (h : own_sz z) (i0 : ¬ i < (0 : Int32)) (i1 : i < z) : (i + (1 : Int32)).toNatClampNeg = i.toNatClampNeg + 1 ∧ ¬ (i + (1 : Int32)) < (0 : Int32) ∧ (i + (1 : Int32)).toInt = i.toInt + 1 := by
  obtain ⟨s1, s2, s3⟩ := own_szb h
  have h1 : ¬ i.toInt < (0 : Int32).toInt := fun q => i0 (Int32.lt_iff_toInt_lt.mpr q)
  have h2 := Int32.lt_iff_toInt_lt.mp i1
  have e0 : (0 : Int32).toInt = 0 := rfl
  have e1 : (1 : Int32).toInt = 1 := rfl
  have w := c_iadd i (1 : Int32)
  have w2 := rng32 (i + (1 : Int32))
  have e2 : (i + (1 : Int32)).toInt = i.toInt + 1 := by omega
  refine ⟨by simp only [Int32.toNatClampNeg]; omega, fun q => ?_, e2⟩
  have := Int32.lt_iff_toInt_lt.mp q
  omega
theorem own_d1 {z i : Int32} {fu : Nat} (h : own_sz z) (i0 : ¬ i < (0 : Int32)) (i1 : i < z) (q : z.toInt - i.toInt ≤ ((fu + 1 : Nat) : Int)) : z.toInt - (i + (1 : Int32)).toInt ≤ (fu : Nat) := by
  rw [(own_up h i0 i1).2.2]; omega
theorem own_d0 {z i : Int32} (q : z.toInt - i.toInt ≤ ((0 : Nat) : Int)) : ¬ i < z := fun y => by
  have := Int32.lt_iff_toInt_lt.mp y; omega
theorem own_zs {z i : Int32} {f : Nat → Int64} {w : Int64} (h : own_sz z) (i0 : ¬ i < (0 : Int32)) (i1 : i < z) (hz : ∀ j, j < i.toNatClampNeg → f j = w) : ∀ j, j < (i + (1 : Int32)).toNatClampNeg → own_upd f i.toNatClampNeg w j = w := by
  intro j hj
  rw [(own_up h i0 i1).1] at hj
  unfold own_upd
  by_cases q : j = i.toNatClampNeg
  · simp [q]
  · rw [if_neg q]; exact hz j (by omega)
theorem own_all {z i : Int32} {f : Nat → Int64} {w : Int64} (i1 : ¬ i < z) (hz : ∀ j, j < i.toNatClampNeg → f j = w) : own_lr z.toNatClampNeg f = own_lr z.toNatClampNeg (fun _ => w) := by
  unfold own_lr
  refine List.map_congr_left fun j hj => ?_
  have hj := List.mem_range.mp hj
  have h2 : ¬ i.toInt < z.toInt := fun q => i1 (Int32.lt_iff_toInt_lt.mpr q)
  rw [hz j (by simp only [Int32.toNatClampNeg] at hj ⊢; omega)]
theorem own_room {z sz : Int32} {n : Nat} (h : own_sz z) (hs : sz.toInt = (n : Int)) (hn : n ≤ 3) (q : z < (2 : Int32) * (sz + (1 : Int32))) : False := by
  obtain ⟨s1, s2, s3⟩ := own_szb h
  have e1 : (1 : Int32).toInt = 1 := rfl
  have w := c_iadd sz (1 : Int32)
  have w2 := rng32 (sz + (1 : Int32))
  have e2 : (sz + (1 : Int32)).toInt = sz.toInt + 1 := by omega
  have w3 : (((2 : Int32) * (sz + (1 : Int32))).toInt - 2 * (sz + (1 : Int32)).toInt) % 4294967296 = 0 := c_imul (2 : Int32) (sz + (1 : Int32))
  have w4 := rng32 ((2 : Int32) * (sz + (1 : Int32)))
  have := Int32.lt_iff_toInt_lt.mp q
  omega
theorem own_sz1 {sz : Int32} {n : Nat} (hs : sz.toInt = (n : Int)) (hn : n ≤ 3) : (sz + (1 : Int32)).toInt = ((n + 1 : Nat) : Int) := by
  have e1 : (1 : Int32).toInt = 1 := rfl
  have w := c_iadd sz (1 : Int32)
  have w2 := rng32 (sz + (1 : Int32))
  omega
/- toArray's list while it fills -/
def own_pt (L : List Int64) (n : Nat) : List Value := L.map .long ++ List.replicate (n - L.length) (.long 0)
theorem own_pt_len {L : List Int64} {n : Nat} (h : L.length ≤ n) : (own_pt L n).length = n := by simp [own_pt]; omega
theorem own_pt_set {L : List Int64} {n : Nat} {v : Int64} (h : L.length < n) : (own_pt L n).set L.length (.long v) = own_pt (L ++ [v]) n := by
  unfold own_pt
  have e : n - L.length = (n - (L ++ [v]).length) + 1 := by simp; omega
  rw [e, List.replicate_succ, List.map_append, List.append_assoc, List.set_append_right _ _ (by simp)]
  simp
theorem own_pt_end {L : List Int64} : own_pt L L.length = L.map .long := by simp [own_pt]
theorem own_pt0 (n : Nat) : ∀ i, (own_pt [] n).getD i (.long 0) = ([] : List Value).getD i (.long 0) := fun i => by
  unfold own_pt
  by_cases q : i < n
  · simp [List.getD_eq_getElem?_getD, List.getElem?_replicate, q]
  · simp [List.getD_eq_getElem?_getD, List.getElem?_replicate, q]
def own_mem (A : List Int64) (y : Int64) : Int32 := if y ∈ A then (1 : Int32) else (0 : Int32)
def own_nd (A : List Int64) : Int32 := if A.Nodup then (1 : Int32) else (0 : Int32)
theorem own_shape {A : List Int64} (h : A.length ≤ 4) : A = [] ∨ (∃ y0, A = [y0]) ∨ (∃ y0 y1, A = [y0, y1]) ∨ (∃ y0 y1 y2, A = [y0, y1, y2]) ∨ (∃ y0 y1 y2 y3, A = [y0, y1, y2, y3]) := by
  match A, h with
  | [], _ => exact Or.inl rfl
  | [a], _ => exact Or.inr (Or.inl ⟨a, rfl⟩)
  | [a, b], _ => exact Or.inr (Or.inr (Or.inl ⟨a, b, rfl⟩))
  | [a, b, d], _ => exact Or.inr (Or.inr (Or.inr (Or.inl ⟨a, b, d, rfl⟩)))
  | [a, b, d, g], _ => exact Or.inr (Or.inr (Or.inr (Or.inr ⟨a, b, d, g, rfl⟩)))

def own_mx (x y : Int32) : Int32 := if x < y then y else x
theorem d3_0 : Dc jdk_29_method_65_code 0 (.iload_n 0) 1 1 := ⟨by decide +kernel, rfl⟩
theorem d3_1 : Dc jdk_29_method_65_code 1 (.iload_n 1) 1 2 := ⟨by decide +kernel, rfl⟩
theorem d3_2 : Bi jdk_29_method_65_code 2 (Instr.if_icmp .lt) 9 5 := ⟨7, by decide +kernel, by decide, by decide, rfl⟩
theorem d3_9 : Dc jdk_29_method_65_code 9 (.iload_n 1) 1 10 := ⟨by decide +kernel, rfl⟩
theorem d3_10 : Dc jdk_29_method_65_code 10 (.ireturn) 1 11 := ⟨by decide +kernel, rfl⟩
theorem d3_5 : Dc jdk_29_method_65_code 5 (.iload_n 0) 1 6 := ⟨by decide +kernel, rfl⟩
theorem d3_6 : Bi jdk_29_method_65_code 6 (Instr.goto) 10 9 := ⟨4, by decide +kernel, by decide, by decide, rfl⟩
set_option maxRecDepth 65536 in
set_option maxHeartbeats 40000000 in
theorem rmxi (l : Launch) (Z : State) (a0 : Array Value) (hw : ∀ d ∈ tables_1, d.before a0 Z = true) (u v : Int32) (h0 : Heap) :
    Met l Z (⟨"java/lang/Math", "max", "(II)I"⟩ : MethodName) jdk_29_method_65_code 2 (some .int) ({ frames := 0, cells := 0, slots := 0, locals := 0 } : Room) #[(.int u), (.int v)] h0 (fun r h' => r = some (.int (own_mx u v)) ∧ h0 = h') := by
  refine met_of (Ls := #[.val (.int u), .val (.int v)]) (Jvm.Free.JP.mathPlain rfl (by decide +kernel)) (fun m => by first | (simp [entryFrame, mkF, argsToLocals, Value.category]; done) | rfl) (fun p e s m below meth c cx => ?_)
  refine g_iloadN cx d3_0 rfl ?_
  refine g_iloadN cx d3_1 rfl ?_
  refine g_icmp_lt cx d3_2 (fun hc2 => ?_) (fun hc2 => ?_)
  · refine g_iloadN cx d3_9 rfl ?_
    refine g_retI cx d3_10 rfl (by decide) (by decide) ?_
    exact ⟨by simp [own_mx, hc2], rfl⟩
  · refine g_iloadN cx d3_5 rfl ?_
    refine g_goto cx d3_6 ?_
    refine g_retI cx d3_10 rfl (by decide) (by decide) ?_
    exact ⟨by simp [own_mx, hc2], rfl⟩
def own_n1 (i n : Int32) : Int32 := n - (((i).toUInt32 >>> ((1 : Int32) &&& 31).toUInt32).toInt32)
def own_n2 (i n : Int32) : Int32 := if i < (4 : Int32) then own_n1 i n else own_n1 (((i).toUInt32 >>> ((2 : Int32) &&& 31).toUInt32).toInt32) (n + (-2 : Int32))
def own_n3 (i n : Int32) : Int32 := if i < (16 : Int32) then own_n2 i n else own_n2 (((i).toUInt32 >>> ((4 : Int32) &&& 31).toUInt32).toInt32) (n + (-4 : Int32))
def own_n4 (i n : Int32) : Int32 := if i < (256 : Int32) then own_n3 i n else own_n3 (((i).toUInt32 >>> ((8 : Int32) &&& 31).toUInt32).toInt32) (n + (-8 : Int32))
def own_n5 (i n : Int32) : Int32 := if i < (65536 : Int32) then own_n4 i n else own_n4 (((i).toUInt32 >>> ((16 : Int32) &&& 31).toUInt32).toInt32) (n + (-16 : Int32))
def own_nlz (i : Int32) : Int32 := if (0 : Int32) < i then own_n5 i (31 : Int32) else if i = (0 : Int32) then (32 : Int32) else (0 : Int32)
theorem d5_0 : Dc jdk_33_method_47_code 0 (.iload_n 0) 1 1 := ⟨by decide +kernel, rfl⟩
theorem d5_1 : Bi jdk_33_method_47_code 1 (Instr.ifCond .gt) 15 4 := ⟨14, by decide +kernel, by decide, by decide, rfl⟩
theorem d5_15 : Dc jdk_33_method_47_code 15 (.bipush 31) 2 17 := ⟨by decide +kernel, rfl⟩
theorem d5_17 : Dc jdk_33_method_47_code 17 (.istore_n 1) 1 18 := ⟨by decide +kernel, rfl⟩
theorem d5_18 : Dc jdk_33_method_47_code 18 (.iload_n 0) 1 19 := ⟨by decide +kernel, rfl⟩
theorem d5_19 : Dc jdk_33_method_47_code 19 (.ldc_w 264) 3 22 := ⟨by decide +kernel, rfl⟩
theorem d5_22 : Bi jdk_33_method_47_code 22 (Instr.if_icmp .lt) 33 25 := ⟨11, by decide +kernel, by decide, by decide, rfl⟩
theorem d5_33 : Dc jdk_33_method_47_code 33 (.iload_n 0) 1 34 := ⟨by decide +kernel, rfl⟩
theorem d5_34 : Dc jdk_33_method_47_code 34 (.sipush 256) 3 37 := ⟨by decide +kernel, rfl⟩
theorem d5_37 : Bi jdk_33_method_47_code 37 (Instr.if_icmp .lt) 48 40 := ⟨11, by decide +kernel, by decide, by decide, rfl⟩
theorem d5_48 : Dc jdk_33_method_47_code 48 (.iload_n 0) 1 49 := ⟨by decide +kernel, rfl⟩
theorem d5_49 : Dc jdk_33_method_47_code 49 (.bipush 16) 2 51 := ⟨by decide +kernel, rfl⟩
theorem d5_51 : Bi jdk_33_method_47_code 51 (Instr.if_icmp .lt) 61 54 := ⟨10, by decide +kernel, by decide, by decide, rfl⟩
theorem d5_61 : Dc jdk_33_method_47_code 61 (.iload_n 0) 1 62 := ⟨by decide +kernel, rfl⟩
theorem d5_62 : Dc jdk_33_method_47_code 62 (.iconst 4) 1 63 := ⟨by decide +kernel, rfl⟩
theorem d5_63 : Bi jdk_33_method_47_code 63 (Instr.if_icmp .lt) 73 66 := ⟨10, by decide +kernel, by decide, by decide, rfl⟩
theorem d5_73 : Dc jdk_33_method_47_code 73 (.iload_n 1) 1 74 := ⟨by decide +kernel, rfl⟩
theorem d5_74 : Dc jdk_33_method_47_code 74 (.iload_n 0) 1 75 := ⟨by decide +kernel, rfl⟩
theorem d5_75 : Dc jdk_33_method_47_code 75 (.iconst 1) 1 76 := ⟨by decide +kernel, rfl⟩
theorem d5_76 : Dc jdk_33_method_47_code 76 (.iushr) 1 77 := ⟨by decide +kernel, rfl⟩
theorem d5_77 : Dc jdk_33_method_47_code 77 (.isub) 1 78 := ⟨by decide +kernel, rfl⟩
theorem d5_78 : Dc jdk_33_method_47_code 78 (.ireturn) 1 79 := ⟨by decide +kernel, rfl⟩
theorem d5_66 : Dc jdk_33_method_47_code 66 (.iinc 1 (-2)) 3 69 := ⟨by decide +kernel, rfl⟩
theorem d5_69 : Dc jdk_33_method_47_code 69 (.iload_n 0) 1 70 := ⟨by decide +kernel, rfl⟩
theorem d5_70 : Dc jdk_33_method_47_code 70 (.iconst 2) 1 71 := ⟨by decide +kernel, rfl⟩
theorem d5_71 : Dc jdk_33_method_47_code 71 (.iushr) 1 72 := ⟨by decide +kernel, rfl⟩
theorem d5_72 : Dc jdk_33_method_47_code 72 (.istore_n 0) 1 73 := ⟨by decide +kernel, rfl⟩
theorem d5_54 : Dc jdk_33_method_47_code 54 (.iinc 1 (-4)) 3 57 := ⟨by decide +kernel, rfl⟩
theorem d5_57 : Dc jdk_33_method_47_code 57 (.iload_n 0) 1 58 := ⟨by decide +kernel, rfl⟩
theorem d5_58 : Dc jdk_33_method_47_code 58 (.iconst 4) 1 59 := ⟨by decide +kernel, rfl⟩
theorem d5_59 : Dc jdk_33_method_47_code 59 (.iushr) 1 60 := ⟨by decide +kernel, rfl⟩
theorem d5_60 : Dc jdk_33_method_47_code 60 (.istore_n 0) 1 61 := ⟨by decide +kernel, rfl⟩
theorem d5_40 : Dc jdk_33_method_47_code 40 (.iinc 1 (-8)) 3 43 := ⟨by decide +kernel, rfl⟩
theorem d5_43 : Dc jdk_33_method_47_code 43 (.iload_n 0) 1 44 := ⟨by decide +kernel, rfl⟩
theorem d5_44 : Dc jdk_33_method_47_code 44 (.bipush 8) 2 46 := ⟨by decide +kernel, rfl⟩
theorem d5_46 : Dc jdk_33_method_47_code 46 (.iushr) 1 47 := ⟨by decide +kernel, rfl⟩
theorem d5_47 : Dc jdk_33_method_47_code 47 (.istore_n 0) 1 48 := ⟨by decide +kernel, rfl⟩
theorem d5_25 : Dc jdk_33_method_47_code 25 (.iinc 1 (-16)) 3 28 := ⟨by decide +kernel, rfl⟩
theorem d5_28 : Dc jdk_33_method_47_code 28 (.iload_n 0) 1 29 := ⟨by decide +kernel, rfl⟩
theorem d5_29 : Dc jdk_33_method_47_code 29 (.bipush 16) 2 31 := ⟨by decide +kernel, rfl⟩
theorem d5_31 : Dc jdk_33_method_47_code 31 (.iushr) 1 32 := ⟨by decide +kernel, rfl⟩
theorem d5_32 : Dc jdk_33_method_47_code 32 (.istore_n 0) 1 33 := ⟨by decide +kernel, rfl⟩
theorem d5_4 : Dc jdk_33_method_47_code 4 (.iload_n 0) 1 5 := ⟨by decide +kernel, rfl⟩
theorem d5_5 : Bi jdk_33_method_47_code 5 (Instr.ifCond .ne) 13 8 := ⟨8, by decide +kernel, by decide, by decide, rfl⟩
theorem d5_13 : Dc jdk_33_method_47_code 13 (.iconst 0) 1 14 := ⟨by decide +kernel, rfl⟩
theorem d5_14 : Dc jdk_33_method_47_code 14 (.ireturn) 1 15 := ⟨by decide +kernel, rfl⟩
theorem d5_8 : Dc jdk_33_method_47_code 8 (.bipush 32) 2 10 := ⟨by decide +kernel, rfl⟩
theorem d5_10 : Bi jdk_33_method_47_code 10 (Instr.goto) 14 13 := ⟨4, by decide +kernel, by decide, by decide, rfl⟩
theorem pn_rmnz : plainName "java/lang/Integer" = true := by first | (simp [plainName, overriddenIn]; done) | decide +kernel
set_option maxRecDepth 65536 in
set_option maxHeartbeats 40000000 in
theorem rmnz (l : Launch) (Z : State) (a0 : Array Value) (hw : ∀ d ∈ tables_1, d.before a0 Z = true) (y : Int32) (h0 : Heap) :
    Met l Z (⟨"java/lang/Integer", "numberOfLeadingZeros", "(I)I"⟩ : MethodName) jdk_33_method_47_code 2 (some .int) ({ frames := 0, cells := 0, slots := 0, locals := 0 } : Room) #[(.int y)] h0 (fun r h' => r = some (.int (own_nlz y)) ∧ h0 = h') := by
  refine met_of (Ls := #[.val (.int y), .unset]) (plainFor_of_name pn_rmnz) (fun m => by first | (simp [entryFrame, mkF, argsToLocals, Value.category]; done) | rfl) (fun p e s m below meth c cx => ?_)
  refine g_iloadN cx d5_0 rfl ?_
  refine g_if_gt cx d5_1 (fun hc1 => ?_) (fun hc1 => ?_)
  · refine g_bipush cx d5_15 (v := (31 : Int32)) rfl ?_
    refine g_istoreN cx d5_17 (Ls' := #[.val (.int y), .val (.int (31 : Int32))]) rfl ?_
    refine g_iloadN cx d5_18 rfl ?_
    refine g_ldcwI cx d5_19 (hw _ (List.mem_of_getElem? (i := 21) rfl)) ?_
    refine g_icmp_lt cx d5_22 (fun hc22 => ?_) (fun hc22 => ?_)
    · refine g_iloadN cx d5_33 rfl ?_
      refine g_sipush cx d5_34 (v := (256 : Int32)) rfl ?_
      refine g_icmp_lt cx d5_37 (fun hc37 => ?_) (fun hc37 => ?_)
      · refine g_iloadN cx d5_48 rfl ?_
        refine g_bipush cx d5_49 (v := (16 : Int32)) rfl ?_
        refine g_icmp_lt cx d5_51 (fun hc51 => ?_) (fun hc51 => ?_)
        · refine g_iloadN cx d5_61 rfl ?_
          refine g_iconst cx d5_62 (v := (4 : Int32)) rfl ?_
          refine g_icmp_lt cx d5_63 (fun hc63 => ?_) (fun hc63 => ?_)
          · refine g_iloadN cx d5_73 rfl ?_
            refine g_iloadN cx d5_74 rfl ?_
            refine g_iconst cx d5_75 (v := (1 : Int32)) rfl ?_
            refine g_iushr cx d5_76 ?_
            refine g_isub cx d5_77 ?_
            refine g_retI cx d5_78 rfl (by decide) (by decide) ?_
            have E : own_nlz y = ((31 : Int32) - (((y).toUInt32 >>> ((1 : Int32) &&& 31).toUInt32).toInt32)) := by
              unfold own_nlz
              rw [if_pos hc1]
              unfold own_n5
              rw [if_pos hc22]
              unfold own_n4
              rw [if_pos hc37]
              unfold own_n3
              rw [if_pos hc51]
              unfold own_n2
              rw [if_pos hc63]
              rfl
            exact ⟨by rw [E], rfl⟩
          · refine g_iinc cx d5_66 rfl (v := (-2 : Int32)) rfl (Ls' := #[.val (.int y), .val (.int (29 : Int32))]) rfl ?_
            refine g_iloadN cx d5_69 rfl ?_
            refine g_iconst cx d5_70 (v := (2 : Int32)) rfl ?_
            refine g_iushr cx d5_71 ?_
            refine g_istoreN cx d5_72 (Ls' := #[.val (.int (((y).toUInt32 >>> ((2 : Int32) &&& 31).toUInt32).toInt32)), .val (.int (29 : Int32))]) rfl ?_
            refine g_iloadN cx d5_73 rfl ?_
            refine g_iloadN cx d5_74 rfl ?_
            refine g_iconst cx d5_75 (v := (1 : Int32)) rfl ?_
            refine g_iushr cx d5_76 ?_
            refine g_isub cx d5_77 ?_
            refine g_retI cx d5_78 rfl (by decide) (by decide) ?_
            have E : own_nlz y = ((29 : Int32) - ((((((y).toUInt32 >>> ((2 : Int32) &&& 31).toUInt32).toInt32)).toUInt32 >>> ((1 : Int32) &&& 31).toUInt32).toInt32)) := by
              unfold own_nlz
              rw [if_pos hc1]
              unfold own_n5
              rw [if_pos hc22]
              unfold own_n4
              rw [if_pos hc37]
              unfold own_n3
              rw [if_pos hc51]
              unfold own_n2
              rw [if_neg hc63]
              rfl
            exact ⟨by rw [E], rfl⟩
        · refine g_iinc cx d5_54 rfl (v := (-4 : Int32)) rfl (Ls' := #[.val (.int y), .val (.int (27 : Int32))]) rfl ?_
          refine g_iloadN cx d5_57 rfl ?_
          refine g_iconst cx d5_58 (v := (4 : Int32)) rfl ?_
          refine g_iushr cx d5_59 ?_
          refine g_istoreN cx d5_60 (Ls' := #[.val (.int (((y).toUInt32 >>> ((4 : Int32) &&& 31).toUInt32).toInt32)), .val (.int (27 : Int32))]) rfl ?_
          refine g_iloadN cx d5_61 rfl ?_
          refine g_iconst cx d5_62 (v := (4 : Int32)) rfl ?_
          refine g_icmp_lt cx d5_63 (fun hc63 => ?_) (fun hc63 => ?_)
          · refine g_iloadN cx d5_73 rfl ?_
            refine g_iloadN cx d5_74 rfl ?_
            refine g_iconst cx d5_75 (v := (1 : Int32)) rfl ?_
            refine g_iushr cx d5_76 ?_
            refine g_isub cx d5_77 ?_
            refine g_retI cx d5_78 rfl (by decide) (by decide) ?_
            have E : own_nlz y = ((27 : Int32) - ((((((y).toUInt32 >>> ((4 : Int32) &&& 31).toUInt32).toInt32)).toUInt32 >>> ((1 : Int32) &&& 31).toUInt32).toInt32)) := by
              unfold own_nlz
              rw [if_pos hc1]
              unfold own_n5
              rw [if_pos hc22]
              unfold own_n4
              rw [if_pos hc37]
              unfold own_n3
              rw [if_neg hc51]
              unfold own_n2
              rw [if_pos hc63]
              rfl
            exact ⟨by rw [E], rfl⟩
          · refine g_iinc cx d5_66 rfl (v := (-2 : Int32)) rfl (Ls' := #[.val (.int (((y).toUInt32 >>> ((4 : Int32) &&& 31).toUInt32).toInt32)), .val (.int (25 : Int32))]) rfl ?_
            refine g_iloadN cx d5_69 rfl ?_
            refine g_iconst cx d5_70 (v := (2 : Int32)) rfl ?_
            refine g_iushr cx d5_71 ?_
            refine g_istoreN cx d5_72 (Ls' := #[.val (.int ((((((y).toUInt32 >>> ((4 : Int32) &&& 31).toUInt32).toInt32)).toUInt32 >>> ((2 : Int32) &&& 31).toUInt32).toInt32)), .val (.int (25 : Int32))]) rfl ?_
            refine g_iloadN cx d5_73 rfl ?_
            refine g_iloadN cx d5_74 rfl ?_
            refine g_iconst cx d5_75 (v := (1 : Int32)) rfl ?_
            refine g_iushr cx d5_76 ?_
            refine g_isub cx d5_77 ?_
            refine g_retI cx d5_78 rfl (by decide) (by decide) ?_
            have E : own_nlz y = ((25 : Int32) - (((((((((y).toUInt32 >>> ((4 : Int32) &&& 31).toUInt32).toInt32)).toUInt32 >>> ((2 : Int32) &&& 31).toUInt32).toInt32)).toUInt32 >>> ((1 : Int32) &&& 31).toUInt32).toInt32)) := by
              unfold own_nlz
              rw [if_pos hc1]
              unfold own_n5
              rw [if_pos hc22]
              unfold own_n4
              rw [if_pos hc37]
              unfold own_n3
              rw [if_neg hc51]
              unfold own_n2
              rw [if_neg hc63]
              rfl
            exact ⟨by rw [E], rfl⟩
      · refine g_iinc cx d5_40 rfl (v := (-8 : Int32)) rfl (Ls' := #[.val (.int y), .val (.int (23 : Int32))]) rfl ?_
        refine g_iloadN cx d5_43 rfl ?_
        refine g_bipush cx d5_44 (v := (8 : Int32)) rfl ?_
        refine g_iushr cx d5_46 ?_
        refine g_istoreN cx d5_47 (Ls' := #[.val (.int (((y).toUInt32 >>> ((8 : Int32) &&& 31).toUInt32).toInt32)), .val (.int (23 : Int32))]) rfl ?_
        refine g_iloadN cx d5_48 rfl ?_
        refine g_bipush cx d5_49 (v := (16 : Int32)) rfl ?_
        refine g_icmp_lt cx d5_51 (fun hc51 => ?_) (fun hc51 => ?_)
        · refine g_iloadN cx d5_61 rfl ?_
          refine g_iconst cx d5_62 (v := (4 : Int32)) rfl ?_
          refine g_icmp_lt cx d5_63 (fun hc63 => ?_) (fun hc63 => ?_)
          · refine g_iloadN cx d5_73 rfl ?_
            refine g_iloadN cx d5_74 rfl ?_
            refine g_iconst cx d5_75 (v := (1 : Int32)) rfl ?_
            refine g_iushr cx d5_76 ?_
            refine g_isub cx d5_77 ?_
            refine g_retI cx d5_78 rfl (by decide) (by decide) ?_
            have E : own_nlz y = ((23 : Int32) - ((((((y).toUInt32 >>> ((8 : Int32) &&& 31).toUInt32).toInt32)).toUInt32 >>> ((1 : Int32) &&& 31).toUInt32).toInt32)) := by
              unfold own_nlz
              rw [if_pos hc1]
              unfold own_n5
              rw [if_pos hc22]
              unfold own_n4
              rw [if_neg hc37]
              unfold own_n3
              rw [if_pos hc51]
              unfold own_n2
              rw [if_pos hc63]
              rfl
            exact ⟨by rw [E], rfl⟩
          · refine g_iinc cx d5_66 rfl (v := (-2 : Int32)) rfl (Ls' := #[.val (.int (((y).toUInt32 >>> ((8 : Int32) &&& 31).toUInt32).toInt32)), .val (.int (21 : Int32))]) rfl ?_
            refine g_iloadN cx d5_69 rfl ?_
            refine g_iconst cx d5_70 (v := (2 : Int32)) rfl ?_
            refine g_iushr cx d5_71 ?_
            refine g_istoreN cx d5_72 (Ls' := #[.val (.int ((((((y).toUInt32 >>> ((8 : Int32) &&& 31).toUInt32).toInt32)).toUInt32 >>> ((2 : Int32) &&& 31).toUInt32).toInt32)), .val (.int (21 : Int32))]) rfl ?_
            refine g_iloadN cx d5_73 rfl ?_
            refine g_iloadN cx d5_74 rfl ?_
            refine g_iconst cx d5_75 (v := (1 : Int32)) rfl ?_
            refine g_iushr cx d5_76 ?_
            refine g_isub cx d5_77 ?_
            refine g_retI cx d5_78 rfl (by decide) (by decide) ?_
            have E : own_nlz y = ((21 : Int32) - (((((((((y).toUInt32 >>> ((8 : Int32) &&& 31).toUInt32).toInt32)).toUInt32 >>> ((2 : Int32) &&& 31).toUInt32).toInt32)).toUInt32 >>> ((1 : Int32) &&& 31).toUInt32).toInt32)) := by
              unfold own_nlz
              rw [if_pos hc1]
              unfold own_n5
              rw [if_pos hc22]
              unfold own_n4
              rw [if_neg hc37]
              unfold own_n3
              rw [if_pos hc51]
              unfold own_n2
              rw [if_neg hc63]
              rfl
            exact ⟨by rw [E], rfl⟩
        · refine g_iinc cx d5_54 rfl (v := (-4 : Int32)) rfl (Ls' := #[.val (.int (((y).toUInt32 >>> ((8 : Int32) &&& 31).toUInt32).toInt32)), .val (.int (19 : Int32))]) rfl ?_
          refine g_iloadN cx d5_57 rfl ?_
          refine g_iconst cx d5_58 (v := (4 : Int32)) rfl ?_
          refine g_iushr cx d5_59 ?_
          refine g_istoreN cx d5_60 (Ls' := #[.val (.int ((((((y).toUInt32 >>> ((8 : Int32) &&& 31).toUInt32).toInt32)).toUInt32 >>> ((4 : Int32) &&& 31).toUInt32).toInt32)), .val (.int (19 : Int32))]) rfl ?_
          refine g_iloadN cx d5_61 rfl ?_
          refine g_iconst cx d5_62 (v := (4 : Int32)) rfl ?_
          refine g_icmp_lt cx d5_63 (fun hc63 => ?_) (fun hc63 => ?_)
          · refine g_iloadN cx d5_73 rfl ?_
            refine g_iloadN cx d5_74 rfl ?_
            refine g_iconst cx d5_75 (v := (1 : Int32)) rfl ?_
            refine g_iushr cx d5_76 ?_
            refine g_isub cx d5_77 ?_
            refine g_retI cx d5_78 rfl (by decide) (by decide) ?_
            have E : own_nlz y = ((19 : Int32) - (((((((((y).toUInt32 >>> ((8 : Int32) &&& 31).toUInt32).toInt32)).toUInt32 >>> ((4 : Int32) &&& 31).toUInt32).toInt32)).toUInt32 >>> ((1 : Int32) &&& 31).toUInt32).toInt32)) := by
              unfold own_nlz
              rw [if_pos hc1]
              unfold own_n5
              rw [if_pos hc22]
              unfold own_n4
              rw [if_neg hc37]
              unfold own_n3
              rw [if_neg hc51]
              unfold own_n2
              rw [if_pos hc63]
              rfl
            exact ⟨by rw [E], rfl⟩
          · refine g_iinc cx d5_66 rfl (v := (-2 : Int32)) rfl (Ls' := #[.val (.int ((((((y).toUInt32 >>> ((8 : Int32) &&& 31).toUInt32).toInt32)).toUInt32 >>> ((4 : Int32) &&& 31).toUInt32).toInt32)), .val (.int (17 : Int32))]) rfl ?_
            refine g_iloadN cx d5_69 rfl ?_
            refine g_iconst cx d5_70 (v := (2 : Int32)) rfl ?_
            refine g_iushr cx d5_71 ?_
            refine g_istoreN cx d5_72 (Ls' := #[.val (.int (((((((((y).toUInt32 >>> ((8 : Int32) &&& 31).toUInt32).toInt32)).toUInt32 >>> ((4 : Int32) &&& 31).toUInt32).toInt32)).toUInt32 >>> ((2 : Int32) &&& 31).toUInt32).toInt32)), .val (.int (17 : Int32))]) rfl ?_
            refine g_iloadN cx d5_73 rfl ?_
            refine g_iloadN cx d5_74 rfl ?_
            refine g_iconst cx d5_75 (v := (1 : Int32)) rfl ?_
            refine g_iushr cx d5_76 ?_
            refine g_isub cx d5_77 ?_
            refine g_retI cx d5_78 rfl (by decide) (by decide) ?_
            have E : own_nlz y = ((17 : Int32) - ((((((((((((y).toUInt32 >>> ((8 : Int32) &&& 31).toUInt32).toInt32)).toUInt32 >>> ((4 : Int32) &&& 31).toUInt32).toInt32)).toUInt32 >>> ((2 : Int32) &&& 31).toUInt32).toInt32)).toUInt32 >>> ((1 : Int32) &&& 31).toUInt32).toInt32)) := by
              unfold own_nlz
              rw [if_pos hc1]
              unfold own_n5
              rw [if_pos hc22]
              unfold own_n4
              rw [if_neg hc37]
              unfold own_n3
              rw [if_neg hc51]
              unfold own_n2
              rw [if_neg hc63]
              rfl
            exact ⟨by rw [E], rfl⟩
    · refine g_iinc cx d5_25 rfl (v := (-16 : Int32)) rfl (Ls' := #[.val (.int y), .val (.int (15 : Int32))]) rfl ?_
      refine g_iloadN cx d5_28 rfl ?_
      refine g_bipush cx d5_29 (v := (16 : Int32)) rfl ?_
      refine g_iushr cx d5_31 ?_
      refine g_istoreN cx d5_32 (Ls' := #[.val (.int (((y).toUInt32 >>> ((16 : Int32) &&& 31).toUInt32).toInt32)), .val (.int (15 : Int32))]) rfl ?_
      refine g_iloadN cx d5_33 rfl ?_
      refine g_sipush cx d5_34 (v := (256 : Int32)) rfl ?_
      refine g_icmp_lt cx d5_37 (fun hc37 => ?_) (fun hc37 => ?_)
      · refine g_iloadN cx d5_48 rfl ?_
        refine g_bipush cx d5_49 (v := (16 : Int32)) rfl ?_
        refine g_icmp_lt cx d5_51 (fun hc51 => ?_) (fun hc51 => ?_)
        · refine g_iloadN cx d5_61 rfl ?_
          refine g_iconst cx d5_62 (v := (4 : Int32)) rfl ?_
          refine g_icmp_lt cx d5_63 (fun hc63 => ?_) (fun hc63 => ?_)
          · refine g_iloadN cx d5_73 rfl ?_
            refine g_iloadN cx d5_74 rfl ?_
            refine g_iconst cx d5_75 (v := (1 : Int32)) rfl ?_
            refine g_iushr cx d5_76 ?_
            refine g_isub cx d5_77 ?_
            refine g_retI cx d5_78 rfl (by decide) (by decide) ?_
            have E : own_nlz y = ((15 : Int32) - ((((((y).toUInt32 >>> ((16 : Int32) &&& 31).toUInt32).toInt32)).toUInt32 >>> ((1 : Int32) &&& 31).toUInt32).toInt32)) := by
              unfold own_nlz
              rw [if_pos hc1]
              unfold own_n5
              rw [if_neg hc22]
              unfold own_n4
              rw [if_pos hc37]
              unfold own_n3
              rw [if_pos hc51]
              unfold own_n2
              rw [if_pos hc63]
              rfl
            exact ⟨by rw [E], rfl⟩
          · refine g_iinc cx d5_66 rfl (v := (-2 : Int32)) rfl (Ls' := #[.val (.int (((y).toUInt32 >>> ((16 : Int32) &&& 31).toUInt32).toInt32)), .val (.int (13 : Int32))]) rfl ?_
            refine g_iloadN cx d5_69 rfl ?_
            refine g_iconst cx d5_70 (v := (2 : Int32)) rfl ?_
            refine g_iushr cx d5_71 ?_
            refine g_istoreN cx d5_72 (Ls' := #[.val (.int ((((((y).toUInt32 >>> ((16 : Int32) &&& 31).toUInt32).toInt32)).toUInt32 >>> ((2 : Int32) &&& 31).toUInt32).toInt32)), .val (.int (13 : Int32))]) rfl ?_
            refine g_iloadN cx d5_73 rfl ?_
            refine g_iloadN cx d5_74 rfl ?_
            refine g_iconst cx d5_75 (v := (1 : Int32)) rfl ?_
            refine g_iushr cx d5_76 ?_
            refine g_isub cx d5_77 ?_
            refine g_retI cx d5_78 rfl (by decide) (by decide) ?_
            have E : own_nlz y = ((13 : Int32) - (((((((((y).toUInt32 >>> ((16 : Int32) &&& 31).toUInt32).toInt32)).toUInt32 >>> ((2 : Int32) &&& 31).toUInt32).toInt32)).toUInt32 >>> ((1 : Int32) &&& 31).toUInt32).toInt32)) := by
              unfold own_nlz
              rw [if_pos hc1]
              unfold own_n5
              rw [if_neg hc22]
              unfold own_n4
              rw [if_pos hc37]
              unfold own_n3
              rw [if_pos hc51]
              unfold own_n2
              rw [if_neg hc63]
              rfl
            exact ⟨by rw [E], rfl⟩
        · refine g_iinc cx d5_54 rfl (v := (-4 : Int32)) rfl (Ls' := #[.val (.int (((y).toUInt32 >>> ((16 : Int32) &&& 31).toUInt32).toInt32)), .val (.int (11 : Int32))]) rfl ?_
          refine g_iloadN cx d5_57 rfl ?_
          refine g_iconst cx d5_58 (v := (4 : Int32)) rfl ?_
          refine g_iushr cx d5_59 ?_
          refine g_istoreN cx d5_60 (Ls' := #[.val (.int ((((((y).toUInt32 >>> ((16 : Int32) &&& 31).toUInt32).toInt32)).toUInt32 >>> ((4 : Int32) &&& 31).toUInt32).toInt32)), .val (.int (11 : Int32))]) rfl ?_
          refine g_iloadN cx d5_61 rfl ?_
          refine g_iconst cx d5_62 (v := (4 : Int32)) rfl ?_
          refine g_icmp_lt cx d5_63 (fun hc63 => ?_) (fun hc63 => ?_)
          · refine g_iloadN cx d5_73 rfl ?_
            refine g_iloadN cx d5_74 rfl ?_
            refine g_iconst cx d5_75 (v := (1 : Int32)) rfl ?_
            refine g_iushr cx d5_76 ?_
            refine g_isub cx d5_77 ?_
            refine g_retI cx d5_78 rfl (by decide) (by decide) ?_
            have E : own_nlz y = ((11 : Int32) - (((((((((y).toUInt32 >>> ((16 : Int32) &&& 31).toUInt32).toInt32)).toUInt32 >>> ((4 : Int32) &&& 31).toUInt32).toInt32)).toUInt32 >>> ((1 : Int32) &&& 31).toUInt32).toInt32)) := by
              unfold own_nlz
              rw [if_pos hc1]
              unfold own_n5
              rw [if_neg hc22]
              unfold own_n4
              rw [if_pos hc37]
              unfold own_n3
              rw [if_neg hc51]
              unfold own_n2
              rw [if_pos hc63]
              rfl
            exact ⟨by rw [E], rfl⟩
          · refine g_iinc cx d5_66 rfl (v := (-2 : Int32)) rfl (Ls' := #[.val (.int ((((((y).toUInt32 >>> ((16 : Int32) &&& 31).toUInt32).toInt32)).toUInt32 >>> ((4 : Int32) &&& 31).toUInt32).toInt32)), .val (.int (9 : Int32))]) rfl ?_
            refine g_iloadN cx d5_69 rfl ?_
            refine g_iconst cx d5_70 (v := (2 : Int32)) rfl ?_
            refine g_iushr cx d5_71 ?_
            refine g_istoreN cx d5_72 (Ls' := #[.val (.int (((((((((y).toUInt32 >>> ((16 : Int32) &&& 31).toUInt32).toInt32)).toUInt32 >>> ((4 : Int32) &&& 31).toUInt32).toInt32)).toUInt32 >>> ((2 : Int32) &&& 31).toUInt32).toInt32)), .val (.int (9 : Int32))]) rfl ?_
            refine g_iloadN cx d5_73 rfl ?_
            refine g_iloadN cx d5_74 rfl ?_
            refine g_iconst cx d5_75 (v := (1 : Int32)) rfl ?_
            refine g_iushr cx d5_76 ?_
            refine g_isub cx d5_77 ?_
            refine g_retI cx d5_78 rfl (by decide) (by decide) ?_
            have E : own_nlz y = ((9 : Int32) - ((((((((((((y).toUInt32 >>> ((16 : Int32) &&& 31).toUInt32).toInt32)).toUInt32 >>> ((4 : Int32) &&& 31).toUInt32).toInt32)).toUInt32 >>> ((2 : Int32) &&& 31).toUInt32).toInt32)).toUInt32 >>> ((1 : Int32) &&& 31).toUInt32).toInt32)) := by
              unfold own_nlz
              rw [if_pos hc1]
              unfold own_n5
              rw [if_neg hc22]
              unfold own_n4
              rw [if_pos hc37]
              unfold own_n3
              rw [if_neg hc51]
              unfold own_n2
              rw [if_neg hc63]
              rfl
            exact ⟨by rw [E], rfl⟩
      · refine g_iinc cx d5_40 rfl (v := (-8 : Int32)) rfl (Ls' := #[.val (.int (((y).toUInt32 >>> ((16 : Int32) &&& 31).toUInt32).toInt32)), .val (.int (7 : Int32))]) rfl ?_
        refine g_iloadN cx d5_43 rfl ?_
        refine g_bipush cx d5_44 (v := (8 : Int32)) rfl ?_
        refine g_iushr cx d5_46 ?_
        refine g_istoreN cx d5_47 (Ls' := #[.val (.int ((((((y).toUInt32 >>> ((16 : Int32) &&& 31).toUInt32).toInt32)).toUInt32 >>> ((8 : Int32) &&& 31).toUInt32).toInt32)), .val (.int (7 : Int32))]) rfl ?_
        refine g_iloadN cx d5_48 rfl ?_
        refine g_bipush cx d5_49 (v := (16 : Int32)) rfl ?_
        refine g_icmp_lt cx d5_51 (fun hc51 => ?_) (fun hc51 => ?_)
        · refine g_iloadN cx d5_61 rfl ?_
          refine g_iconst cx d5_62 (v := (4 : Int32)) rfl ?_
          refine g_icmp_lt cx d5_63 (fun hc63 => ?_) (fun hc63 => ?_)
          · refine g_iloadN cx d5_73 rfl ?_
            refine g_iloadN cx d5_74 rfl ?_
            refine g_iconst cx d5_75 (v := (1 : Int32)) rfl ?_
            refine g_iushr cx d5_76 ?_
            refine g_isub cx d5_77 ?_
            refine g_retI cx d5_78 rfl (by decide) (by decide) ?_
            have E : own_nlz y = ((7 : Int32) - (((((((((y).toUInt32 >>> ((16 : Int32) &&& 31).toUInt32).toInt32)).toUInt32 >>> ((8 : Int32) &&& 31).toUInt32).toInt32)).toUInt32 >>> ((1 : Int32) &&& 31).toUInt32).toInt32)) := by
              unfold own_nlz
              rw [if_pos hc1]
              unfold own_n5
              rw [if_neg hc22]
              unfold own_n4
              rw [if_neg hc37]
              unfold own_n3
              rw [if_pos hc51]
              unfold own_n2
              rw [if_pos hc63]
              rfl
            exact ⟨by rw [E], rfl⟩
          · refine g_iinc cx d5_66 rfl (v := (-2 : Int32)) rfl (Ls' := #[.val (.int ((((((y).toUInt32 >>> ((16 : Int32) &&& 31).toUInt32).toInt32)).toUInt32 >>> ((8 : Int32) &&& 31).toUInt32).toInt32)), .val (.int (5 : Int32))]) rfl ?_
            refine g_iloadN cx d5_69 rfl ?_
            refine g_iconst cx d5_70 (v := (2 : Int32)) rfl ?_
            refine g_iushr cx d5_71 ?_
            refine g_istoreN cx d5_72 (Ls' := #[.val (.int (((((((((y).toUInt32 >>> ((16 : Int32) &&& 31).toUInt32).toInt32)).toUInt32 >>> ((8 : Int32) &&& 31).toUInt32).toInt32)).toUInt32 >>> ((2 : Int32) &&& 31).toUInt32).toInt32)), .val (.int (5 : Int32))]) rfl ?_
            refine g_iloadN cx d5_73 rfl ?_
            refine g_iloadN cx d5_74 rfl ?_
            refine g_iconst cx d5_75 (v := (1 : Int32)) rfl ?_
            refine g_iushr cx d5_76 ?_
            refine g_isub cx d5_77 ?_
            refine g_retI cx d5_78 rfl (by decide) (by decide) ?_
            have E : own_nlz y = ((5 : Int32) - ((((((((((((y).toUInt32 >>> ((16 : Int32) &&& 31).toUInt32).toInt32)).toUInt32 >>> ((8 : Int32) &&& 31).toUInt32).toInt32)).toUInt32 >>> ((2 : Int32) &&& 31).toUInt32).toInt32)).toUInt32 >>> ((1 : Int32) &&& 31).toUInt32).toInt32)) := by
              unfold own_nlz
              rw [if_pos hc1]
              unfold own_n5
              rw [if_neg hc22]
              unfold own_n4
              rw [if_neg hc37]
              unfold own_n3
              rw [if_pos hc51]
              unfold own_n2
              rw [if_neg hc63]
              rfl
            exact ⟨by rw [E], rfl⟩
        · refine g_iinc cx d5_54 rfl (v := (-4 : Int32)) rfl (Ls' := #[.val (.int ((((((y).toUInt32 >>> ((16 : Int32) &&& 31).toUInt32).toInt32)).toUInt32 >>> ((8 : Int32) &&& 31).toUInt32).toInt32)), .val (.int (3 : Int32))]) rfl ?_
          refine g_iloadN cx d5_57 rfl ?_
          refine g_iconst cx d5_58 (v := (4 : Int32)) rfl ?_
          refine g_iushr cx d5_59 ?_
          refine g_istoreN cx d5_60 (Ls' := #[.val (.int (((((((((y).toUInt32 >>> ((16 : Int32) &&& 31).toUInt32).toInt32)).toUInt32 >>> ((8 : Int32) &&& 31).toUInt32).toInt32)).toUInt32 >>> ((4 : Int32) &&& 31).toUInt32).toInt32)), .val (.int (3 : Int32))]) rfl ?_
          refine g_iloadN cx d5_61 rfl ?_
          refine g_iconst cx d5_62 (v := (4 : Int32)) rfl ?_
          refine g_icmp_lt cx d5_63 (fun hc63 => ?_) (fun hc63 => ?_)
          · refine g_iloadN cx d5_73 rfl ?_
            refine g_iloadN cx d5_74 rfl ?_
            refine g_iconst cx d5_75 (v := (1 : Int32)) rfl ?_
            refine g_iushr cx d5_76 ?_
            refine g_isub cx d5_77 ?_
            refine g_retI cx d5_78 rfl (by decide) (by decide) ?_
            have E : own_nlz y = ((3 : Int32) - ((((((((((((y).toUInt32 >>> ((16 : Int32) &&& 31).toUInt32).toInt32)).toUInt32 >>> ((8 : Int32) &&& 31).toUInt32).toInt32)).toUInt32 >>> ((4 : Int32) &&& 31).toUInt32).toInt32)).toUInt32 >>> ((1 : Int32) &&& 31).toUInt32).toInt32)) := by
              unfold own_nlz
              rw [if_pos hc1]
              unfold own_n5
              rw [if_neg hc22]
              unfold own_n4
              rw [if_neg hc37]
              unfold own_n3
              rw [if_neg hc51]
              unfold own_n2
              rw [if_pos hc63]
              rfl
            exact ⟨by rw [E], rfl⟩
          · refine g_iinc cx d5_66 rfl (v := (-2 : Int32)) rfl (Ls' := #[.val (.int (((((((((y).toUInt32 >>> ((16 : Int32) &&& 31).toUInt32).toInt32)).toUInt32 >>> ((8 : Int32) &&& 31).toUInt32).toInt32)).toUInt32 >>> ((4 : Int32) &&& 31).toUInt32).toInt32)), .val (.int (1 : Int32))]) rfl ?_
            refine g_iloadN cx d5_69 rfl ?_
            refine g_iconst cx d5_70 (v := (2 : Int32)) rfl ?_
            refine g_iushr cx d5_71 ?_
            refine g_istoreN cx d5_72 (Ls' := #[.val (.int ((((((((((((y).toUInt32 >>> ((16 : Int32) &&& 31).toUInt32).toInt32)).toUInt32 >>> ((8 : Int32) &&& 31).toUInt32).toInt32)).toUInt32 >>> ((4 : Int32) &&& 31).toUInt32).toInt32)).toUInt32 >>> ((2 : Int32) &&& 31).toUInt32).toInt32)), .val (.int (1 : Int32))]) rfl ?_
            refine g_iloadN cx d5_73 rfl ?_
            refine g_iloadN cx d5_74 rfl ?_
            refine g_iconst cx d5_75 (v := (1 : Int32)) rfl ?_
            refine g_iushr cx d5_76 ?_
            refine g_isub cx d5_77 ?_
            refine g_retI cx d5_78 rfl (by decide) (by decide) ?_
            have E : own_nlz y = ((1 : Int32) - (((((((((((((((y).toUInt32 >>> ((16 : Int32) &&& 31).toUInt32).toInt32)).toUInt32 >>> ((8 : Int32) &&& 31).toUInt32).toInt32)).toUInt32 >>> ((4 : Int32) &&& 31).toUInt32).toInt32)).toUInt32 >>> ((2 : Int32) &&& 31).toUInt32).toInt32)).toUInt32 >>> ((1 : Int32) &&& 31).toUInt32).toInt32)) := by
              unfold own_nlz
              rw [if_pos hc1]
              unfold own_n5
              rw [if_neg hc22]
              unfold own_n4
              rw [if_neg hc37]
              unfold own_n3
              rw [if_neg hc51]
              unfold own_n2
              rw [if_neg hc63]
              rfl
            exact ⟨by rw [E], rfl⟩
  · refine g_iloadN cx d5_4 rfl ?_
    refine g_if_ne cx d5_5 (fun hc5 => ?_) (fun hc5 => ?_)
    · refine g_iconst cx d5_13 (v := (0 : Int32)) rfl ?_
      refine g_retI cx d5_14 rfl (by decide) (by decide) ?_
      have E : own_nlz y = (0 : Int32) := by
        unfold own_nlz
        rw [if_neg hc1, if_neg hc5]
      exact ⟨by rw [E], rfl⟩
    · refine g_bipush cx d5_8 (v := (32 : Int32)) rfl ?_
      refine g_goto cx d5_10 ?_
      refine g_retI cx d5_14 rfl (by decide) (by decide) ?_
      have E : own_nlz y = (32 : Int32) := by
        unfold own_nlz
        rw [if_neg hc1, if_pos hc5]
      exact ⟨by rw [E], rfl⟩
def own_hob (y : Int32) : Int32 := (y &&& ((((-2147483648 : Int32)).toUInt32 >>> ((own_nlz y) &&& 31).toUInt32).toInt32))
theorem d4_0 : Dc jdk_33_method_45_code 0 (.iload_n 0) 1 1 := ⟨by decide +kernel, rfl⟩
theorem d4_1 : Dc jdk_33_method_45_code 1 (.ldc 127) 2 3 := ⟨by decide +kernel, rfl⟩
theorem d4_3 : Dc jdk_33_method_45_code 3 (.iload_n 0) 1 4 := ⟨by decide +kernel, rfl⟩
theorem pd_0 : parseMethodDescriptor "(I)I" = some ⟨[.int], some .int⟩ := by decide +kernel
theorem d4_4 : Dc jdk_33_method_45_code 4 (.invokestatic 51) 3 7 := ⟨by decide +kernel, rfl⟩
theorem d4_7 : Dc jdk_33_method_45_code 7 (.iushr) 1 8 := ⟨by decide +kernel, rfl⟩
theorem d4_8 : Dc jdk_33_method_45_code 8 (.iand) 1 9 := ⟨by decide +kernel, rfl⟩
theorem d4_9 : Dc jdk_33_method_45_code 9 (.ireturn) 1 10 := ⟨by decide +kernel, rfl⟩
theorem pn_rmhb : plainName "java/lang/Integer" = true := by first | (simp [plainName, overriddenIn]; done) | decide +kernel
set_option maxRecDepth 65536 in
set_option maxHeartbeats 40000000 in
theorem rmhb (l : Launch) (Z : State) (a0 : Array Value) (hw : ∀ d ∈ tables_1, d.before a0 Z = true) (y : Int32) (h0 : Heap) :
    Met l Z (⟨"java/lang/Integer", "highestOneBit", "(I)I"⟩ : MethodName) jdk_33_method_45_code 1 (some .int) ({ frames := 1, cells := 0, slots := 0, locals := 15 } : Room) #[(.int y)] h0 (fun r h' => r = some (.int (own_hob y)) ∧ h0 = h') := by
  refine met_of (Ls := #[.val (.int y)]) (plainFor_of_name pn_rmhb) (fun m => by first | (simp [entryFrame, mkF, argsToLocals, Value.category]; done) | rfl) (fun p e s m below meth c cx => ?_)
  refine g_iloadN cx d4_0 rfl ?_
  refine g_ldcI cx d4_1 (hw _ (List.mem_of_getElem? (i := 17) rfl)) ?_
  refine g_iloadN cx d4_3 rfl ?_
  refine g_static cx (y := (⟨"java/lang/Integer", "numberOfLeadingZeros", "(I)I"⟩ : MethodName)) d4_4 (hw _ (List.mem_of_getElem? (i := 18) rfl)) (hw _ (List.mem_of_getElem? (i := 19) rfl)) (hw _ (List.mem_of_getElem? (i := 15) rfl)) (hw _ (List.mem_of_getElem? (i := 20) rfl)) (by decide) (bytes := jdk_33_method_47_code) (maxL' := 2) (M := (rmnz l Z a0 hw _ _)) rfl (lenOf pd_0 rfl) (by decide) (W := 2) (Nat.le_of_eq rfl) (by decide) (k' := 0) (n' := 0) rfl rfl (by decide) (by decide) (argsL := [(.int y)]) (rest := [(.int (-2147483648 : Int32)), (.int y)]) rfl (fun v2 h1 q3 => ?_)
  obtain ⟨rfl, rfl⟩ := q3
  refine G.cast (st' := [(.int (own_nlz y)), (.int (-2147483648 : Int32)), (.int y)]) ?_ rfl
  refine g_iushr cx d4_7 ?_
  refine g_iand cx d4_8 ?_
  refine g_retI cx d4_9 rfl (by decide) (by decide) ?_
  exact ⟨rfl, rfl⟩
theorem d10_0 : Dc jdk_33_method_48_code 0 (.iload_n 0) 1 1 := ⟨by decide +kernel, rfl⟩
theorem d10_1 : Dc jdk_33_method_48_code 1 (.iconst (-1)) 1 2 := ⟨by decide +kernel, rfl⟩
theorem d10_2 : Dc jdk_33_method_48_code 2 (.ixor) 1 3 := ⟨by decide +kernel, rfl⟩
theorem d10_3 : Dc jdk_33_method_48_code 3 (.iload_n 0) 1 4 := ⟨by decide +kernel, rfl⟩
theorem d10_4 : Dc jdk_33_method_48_code 4 (.iconst 1) 1 5 := ⟨by decide +kernel, rfl⟩
theorem d10_5 : Dc jdk_33_method_48_code 5 (.isub) 1 6 := ⟨by decide +kernel, rfl⟩
theorem d10_6 : Dc jdk_33_method_48_code 6 (.iand) 1 7 := ⟨by decide +kernel, rfl⟩
theorem d10_7 : Dc jdk_33_method_48_code 7 (.istore_n 0) 1 8 := ⟨by decide +kernel, rfl⟩
theorem d10_8 : Dc jdk_33_method_48_code 8 (.iload_n 0) 1 9 := ⟨by decide +kernel, rfl⟩
theorem d10_9 : Bi jdk_33_method_48_code 9 (Instr.ifCond .gt) 17 12 := ⟨8, by decide +kernel, by decide, by decide, rfl⟩
theorem d10_17 : Dc jdk_33_method_48_code 17 (.iconst 1) 1 18 := ⟨by decide +kernel, rfl⟩
theorem d10_18 : Dc jdk_33_method_48_code 18 (.istore_n 1) 1 19 := ⟨by decide +kernel, rfl⟩
theorem d10_19 : Dc jdk_33_method_48_code 19 (.iload_n 0) 1 20 := ⟨by decide +kernel, rfl⟩
theorem d10_20 : Dc jdk_33_method_48_code 20 (.ldc_w 264) 3 23 := ⟨by decide +kernel, rfl⟩
theorem d10_23 : Bi jdk_33_method_48_code 23 (Instr.if_icmp .le) 34 26 := ⟨11, by decide +kernel, by decide, by decide, rfl⟩
theorem d10_34 : Dc jdk_33_method_48_code 34 (.iload_n 0) 1 35 := ⟨by decide +kernel, rfl⟩
theorem d10_35 : Dc jdk_33_method_48_code 35 (.sipush 256) 3 38 := ⟨by decide +kernel, rfl⟩
theorem d10_38 : Bi jdk_33_method_48_code 38 (Instr.if_icmp .le) 49 41 := ⟨11, by decide +kernel, by decide, by decide, rfl⟩
theorem d10_49 : Dc jdk_33_method_48_code 49 (.iload_n 0) 1 50 := ⟨by decide +kernel, rfl⟩
theorem d10_50 : Dc jdk_33_method_48_code 50 (.bipush 16) 2 52 := ⟨by decide +kernel, rfl⟩
theorem d10_52 : Bi jdk_33_method_48_code 52 (Instr.if_icmp .le) 62 55 := ⟨10, by decide +kernel, by decide, by decide, rfl⟩
theorem d10_62 : Dc jdk_33_method_48_code 62 (.iload_n 0) 1 63 := ⟨by decide +kernel, rfl⟩
theorem d10_63 : Dc jdk_33_method_48_code 63 (.iconst 4) 1 64 := ⟨by decide +kernel, rfl⟩
theorem d10_64 : Bi jdk_33_method_48_code 64 (Instr.if_icmp .le) 74 67 := ⟨10, by decide +kernel, by decide, by decide, rfl⟩
theorem d10_67 : Dc jdk_33_method_48_code 67 (.iinc 1 2) 3 70 := ⟨by decide +kernel, rfl⟩
theorem d10_70 : Dc jdk_33_method_48_code 70 (.iload_n 0) 1 71 := ⟨by decide +kernel, rfl⟩
theorem d10_71 : Dc jdk_33_method_48_code 71 (.iconst 2) 1 72 := ⟨by decide +kernel, rfl⟩
theorem d10_72 : Dc jdk_33_method_48_code 72 (.iushr) 1 73 := ⟨by decide +kernel, rfl⟩
theorem d10_73 : Dc jdk_33_method_48_code 73 (.istore_n 0) 1 74 := ⟨by decide +kernel, rfl⟩
theorem d10_74 : Dc jdk_33_method_48_code 74 (.iload_n 1) 1 75 := ⟨by decide +kernel, rfl⟩
theorem d10_75 : Dc jdk_33_method_48_code 75 (.iload_n 0) 1 76 := ⟨by decide +kernel, rfl⟩
theorem d10_76 : Dc jdk_33_method_48_code 76 (.iconst 1) 1 77 := ⟨by decide +kernel, rfl⟩
theorem d10_77 : Dc jdk_33_method_48_code 77 (.iushr) 1 78 := ⟨by decide +kernel, rfl⟩
theorem d10_78 : Dc jdk_33_method_48_code 78 (.iadd) 1 79 := ⟨by decide +kernel, rfl⟩
theorem d10_79 : Dc jdk_33_method_48_code 79 (.ireturn) 1 80 := ⟨by decide +kernel, rfl⟩
theorem pn_rmtz16 : plainName "java/lang/Integer" = true := by first | (simp [plainName, overriddenIn]; done) | decide +kernel
set_option maxRecDepth 65536 in
set_option maxHeartbeats 40000000 in
theorem rmtz16 (l : Launch) (Z : State) (a0 : Array Value) (hw : ∀ d ∈ tables_1, d.before a0 Z = true) (h0 : Heap) :
    Met l Z (⟨"java/lang/Integer", "numberOfTrailingZeros", "(I)I"⟩ : MethodName) jdk_33_method_48_code 2 (some .int) ({ frames := 0, cells := 0, slots := 0, locals := 0 } : Room) #[(.int (16 : Int32))] h0 (fun r h' => r = some (.int (own_tz (16 : Int32))) ∧ h0 = h') := by
  refine met_of (Ls := #[.val (.int (16 : Int32)), .unset]) (plainFor_of_name pn_rmtz16) (fun m => by first | (simp [entryFrame, mkF, argsToLocals, Value.category]; done) | rfl) (fun p e s m below meth c cx => ?_)
  refine g_iloadN cx d10_0 rfl ?_
  refine g_iconst cx d10_1 (v := (-1 : Int32)) rfl ?_
  refine g_ixor cx d10_2 ?_
  refine G.cast (st' := [(.int (-17 : Int32))]) ?_ rfl
  refine g_iloadN cx d10_3 rfl ?_
  refine g_iconst cx d10_4 (v := (1 : Int32)) rfl ?_
  refine g_isub cx d10_5 ?_
  refine G.cast (st' := [(.int (15 : Int32)), (.int (-17 : Int32))]) ?_ rfl
  refine g_iand cx d10_6 ?_
  refine G.cast (st' := [(.int (15 : Int32))]) ?_ rfl
  refine g_istoreN cx d10_7 (Ls' := #[.val (.int (15 : Int32)), .unset]) rfl ?_
  refine g_iloadN cx d10_8 rfl ?_
  refine g_if_gt cx d10_9 (fun hc9 => ?_) (fun q => absurd q (fun q => by revert q; decide))
  refine g_iconst cx d10_17 (v := (1 : Int32)) rfl ?_
  refine g_istoreN cx d10_18 (Ls' := #[.val (.int (15 : Int32)), .val (.int (1 : Int32))]) rfl ?_
  refine g_iloadN cx d10_19 rfl ?_
  refine g_ldcwI cx d10_20 (hw _ (List.mem_of_getElem? (i := 21) rfl)) ?_
  refine g_icmp_le cx d10_23 (fun hc23 => ?_) (fun q => absurd q (fun q => by revert q; decide))
  refine g_iloadN cx d10_34 rfl ?_
  refine g_sipush cx d10_35 (v := (256 : Int32)) rfl ?_
  refine g_icmp_le cx d10_38 (fun hc38 => ?_) (fun q => absurd q (fun q => by revert q; decide))
  refine g_iloadN cx d10_49 rfl ?_
  refine g_bipush cx d10_50 (v := (16 : Int32)) rfl ?_
  refine g_icmp_le cx d10_52 (fun hc52 => ?_) (fun q => absurd q (fun q => by revert q; decide))
  refine g_iloadN cx d10_62 rfl ?_
  refine g_iconst cx d10_63 (v := (4 : Int32)) rfl ?_
  refine g_icmp_le cx d10_64 (fun q => absurd q (fun q => by revert q; decide)) (fun hc64 => ?_)
  refine g_iinc cx d10_67 rfl (v := (2 : Int32)) rfl (Ls' := #[.val (.int (15 : Int32)), .val (.int (3 : Int32))]) rfl ?_
  refine g_iloadN cx d10_70 rfl ?_
  refine g_iconst cx d10_71 (v := (2 : Int32)) rfl ?_
  refine g_iushr cx d10_72 ?_
  refine G.cast (st' := [(.int (3 : Int32))]) ?_ rfl
  refine g_istoreN cx d10_73 (Ls' := #[.val (.int (3 : Int32)), .val (.int (3 : Int32))]) rfl ?_
  refine g_iloadN cx d10_74 rfl ?_
  refine g_iloadN cx d10_75 rfl ?_
  refine g_iconst cx d10_76 (v := (1 : Int32)) rfl ?_
  refine g_iushr cx d10_77 ?_
  refine G.cast (st' := [(.int (1 : Int32)), (.int (3 : Int32))]) ?_ rfl
  refine g_iadd cx d10_78 ?_
  refine G.cast (st' := [(.int (4 : Int32))]) ?_ rfl
  refine g_retI cx d10_79 rfl (by decide) (by decide) ?_
  exact ⟨rfl, rfl⟩
theorem d10_55 : Dc jdk_33_method_48_code 55 (.iinc 1 4) 3 58 := ⟨by decide +kernel, rfl⟩
theorem d10_58 : Dc jdk_33_method_48_code 58 (.iload_n 0) 1 59 := ⟨by decide +kernel, rfl⟩
theorem d10_59 : Dc jdk_33_method_48_code 59 (.iconst 4) 1 60 := ⟨by decide +kernel, rfl⟩
theorem d10_60 : Dc jdk_33_method_48_code 60 (.iushr) 1 61 := ⟨by decide +kernel, rfl⟩
theorem d10_61 : Dc jdk_33_method_48_code 61 (.istore_n 0) 1 62 := ⟨by decide +kernel, rfl⟩
theorem pn_rmtz32 : plainName "java/lang/Integer" = true := by first | (simp [plainName, overriddenIn]; done) | decide +kernel
set_option maxRecDepth 65536 in
set_option maxHeartbeats 40000000 in
theorem rmtz32 (l : Launch) (Z : State) (a0 : Array Value) (hw : ∀ d ∈ tables_1, d.before a0 Z = true) (h0 : Heap) :
    Met l Z (⟨"java/lang/Integer", "numberOfTrailingZeros", "(I)I"⟩ : MethodName) jdk_33_method_48_code 2 (some .int) ({ frames := 0, cells := 0, slots := 0, locals := 0 } : Room) #[(.int (32 : Int32))] h0 (fun r h' => r = some (.int (own_tz (32 : Int32))) ∧ h0 = h') := by
  refine met_of (Ls := #[.val (.int (32 : Int32)), .unset]) (plainFor_of_name pn_rmtz32) (fun m => by first | (simp [entryFrame, mkF, argsToLocals, Value.category]; done) | rfl) (fun p e s m below meth c cx => ?_)
  refine g_iloadN cx d10_0 rfl ?_
  refine g_iconst cx d10_1 (v := (-1 : Int32)) rfl ?_
  refine g_ixor cx d10_2 ?_
  refine G.cast (st' := [(.int (-33 : Int32))]) ?_ rfl
  refine g_iloadN cx d10_3 rfl ?_
  refine g_iconst cx d10_4 (v := (1 : Int32)) rfl ?_
  refine g_isub cx d10_5 ?_
  refine G.cast (st' := [(.int (31 : Int32)), (.int (-33 : Int32))]) ?_ rfl
  refine g_iand cx d10_6 ?_
  refine G.cast (st' := [(.int (31 : Int32))]) ?_ rfl
  refine g_istoreN cx d10_7 (Ls' := #[.val (.int (31 : Int32)), .unset]) rfl ?_
  refine g_iloadN cx d10_8 rfl ?_
  refine g_if_gt cx d10_9 (fun hc9 => ?_) (fun q => absurd q (fun q => by revert q; decide))
  refine g_iconst cx d10_17 (v := (1 : Int32)) rfl ?_
  refine g_istoreN cx d10_18 (Ls' := #[.val (.int (31 : Int32)), .val (.int (1 : Int32))]) rfl ?_
  refine g_iloadN cx d10_19 rfl ?_
  refine g_ldcwI cx d10_20 (hw _ (List.mem_of_getElem? (i := 21) rfl)) ?_
  refine g_icmp_le cx d10_23 (fun hc23 => ?_) (fun q => absurd q (fun q => by revert q; decide))
  refine g_iloadN cx d10_34 rfl ?_
  refine g_sipush cx d10_35 (v := (256 : Int32)) rfl ?_
  refine g_icmp_le cx d10_38 (fun hc38 => ?_) (fun q => absurd q (fun q => by revert q; decide))
  refine g_iloadN cx d10_49 rfl ?_
  refine g_bipush cx d10_50 (v := (16 : Int32)) rfl ?_
  refine g_icmp_le cx d10_52 (fun q => absurd q (fun q => by revert q; decide)) (fun hc52 => ?_)
  refine g_iinc cx d10_55 rfl (v := (4 : Int32)) rfl (Ls' := #[.val (.int (31 : Int32)), .val (.int (5 : Int32))]) rfl ?_
  refine g_iloadN cx d10_58 rfl ?_
  refine g_iconst cx d10_59 (v := (4 : Int32)) rfl ?_
  refine g_iushr cx d10_60 ?_
  refine G.cast (st' := [(.int (1 : Int32))]) ?_ rfl
  refine g_istoreN cx d10_61 (Ls' := #[.val (.int (1 : Int32)), .val (.int (5 : Int32))]) rfl ?_
  refine g_iloadN cx d10_62 rfl ?_
  refine g_iconst cx d10_63 (v := (4 : Int32)) rfl ?_
  refine g_icmp_le cx d10_64 (fun hc64 => ?_) (fun q => absurd q (fun q => by revert q; decide))
  refine g_iloadN cx d10_74 rfl ?_
  refine g_iloadN cx d10_75 rfl ?_
  refine g_iconst cx d10_76 (v := (1 : Int32)) rfl ?_
  refine g_iushr cx d10_77 ?_
  refine G.cast (st' := [(.int (0 : Int32)), (.int (5 : Int32))]) ?_ rfl
  refine g_iadd cx d10_78 ?_
  refine G.cast (st' := [(.int (5 : Int32))]) ?_ rfl
  refine g_retI cx d10_79 rfl (by decide) (by decide) ?_
  exact ⟨rfl, rfl⟩
theorem pn_rmtz64 : plainName "java/lang/Integer" = true := by first | (simp [plainName, overriddenIn]; done) | decide +kernel
set_option maxRecDepth 65536 in
set_option maxHeartbeats 40000000 in
theorem rmtz64 (l : Launch) (Z : State) (a0 : Array Value) (hw : ∀ d ∈ tables_1, d.before a0 Z = true) (h0 : Heap) :
    Met l Z (⟨"java/lang/Integer", "numberOfTrailingZeros", "(I)I"⟩ : MethodName) jdk_33_method_48_code 2 (some .int) ({ frames := 0, cells := 0, slots := 0, locals := 0 } : Room) #[(.int (64 : Int32))] h0 (fun r h' => r = some (.int (own_tz (64 : Int32))) ∧ h0 = h') := by
  refine met_of (Ls := #[.val (.int (64 : Int32)), .unset]) (plainFor_of_name pn_rmtz64) (fun m => by first | (simp [entryFrame, mkF, argsToLocals, Value.category]; done) | rfl) (fun p e s m below meth c cx => ?_)
  refine g_iloadN cx d10_0 rfl ?_
  refine g_iconst cx d10_1 (v := (-1 : Int32)) rfl ?_
  refine g_ixor cx d10_2 ?_
  refine G.cast (st' := [(.int (-65 : Int32))]) ?_ rfl
  refine g_iloadN cx d10_3 rfl ?_
  refine g_iconst cx d10_4 (v := (1 : Int32)) rfl ?_
  refine g_isub cx d10_5 ?_
  refine G.cast (st' := [(.int (63 : Int32)), (.int (-65 : Int32))]) ?_ rfl
  refine g_iand cx d10_6 ?_
  refine G.cast (st' := [(.int (63 : Int32))]) ?_ rfl
  refine g_istoreN cx d10_7 (Ls' := #[.val (.int (63 : Int32)), .unset]) rfl ?_
  refine g_iloadN cx d10_8 rfl ?_
  refine g_if_gt cx d10_9 (fun hc9 => ?_) (fun q => absurd q (fun q => by revert q; decide))
  refine g_iconst cx d10_17 (v := (1 : Int32)) rfl ?_
  refine g_istoreN cx d10_18 (Ls' := #[.val (.int (63 : Int32)), .val (.int (1 : Int32))]) rfl ?_
  refine g_iloadN cx d10_19 rfl ?_
  refine g_ldcwI cx d10_20 (hw _ (List.mem_of_getElem? (i := 21) rfl)) ?_
  refine g_icmp_le cx d10_23 (fun hc23 => ?_) (fun q => absurd q (fun q => by revert q; decide))
  refine g_iloadN cx d10_34 rfl ?_
  refine g_sipush cx d10_35 (v := (256 : Int32)) rfl ?_
  refine g_icmp_le cx d10_38 (fun hc38 => ?_) (fun q => absurd q (fun q => by revert q; decide))
  refine g_iloadN cx d10_49 rfl ?_
  refine g_bipush cx d10_50 (v := (16 : Int32)) rfl ?_
  refine g_icmp_le cx d10_52 (fun q => absurd q (fun q => by revert q; decide)) (fun hc52 => ?_)
  refine g_iinc cx d10_55 rfl (v := (4 : Int32)) rfl (Ls' := #[.val (.int (63 : Int32)), .val (.int (5 : Int32))]) rfl ?_
  refine g_iloadN cx d10_58 rfl ?_
  refine g_iconst cx d10_59 (v := (4 : Int32)) rfl ?_
  refine g_iushr cx d10_60 ?_
  refine G.cast (st' := [(.int (3 : Int32))]) ?_ rfl
  refine g_istoreN cx d10_61 (Ls' := #[.val (.int (3 : Int32)), .val (.int (5 : Int32))]) rfl ?_
  refine g_iloadN cx d10_62 rfl ?_
  refine g_iconst cx d10_63 (v := (4 : Int32)) rfl ?_
  refine g_icmp_le cx d10_64 (fun hc64 => ?_) (fun q => absurd q (fun q => by revert q; decide))
  refine g_iloadN cx d10_74 rfl ?_
  refine g_iloadN cx d10_75 rfl ?_
  refine g_iconst cx d10_76 (v := (1 : Int32)) rfl ?_
  refine g_iushr cx d10_77 ?_
  refine G.cast (st' := [(.int (1 : Int32)), (.int (5 : Int32))]) ?_ rfl
  refine g_iadd cx d10_78 ?_
  refine G.cast (st' := [(.int (6 : Int32))]) ?_ rfl
  refine g_retI cx d10_79 rfl (by decide) (by decide) ?_
  exact ⟨rfl, rfl⟩
theorem pn_rmtz128 : plainName "java/lang/Integer" = true := by first | (simp [plainName, overriddenIn]; done) | decide +kernel
set_option maxRecDepth 65536 in
set_option maxHeartbeats 40000000 in
theorem rmtz128 (l : Launch) (Z : State) (a0 : Array Value) (hw : ∀ d ∈ tables_1, d.before a0 Z = true) (h0 : Heap) :
    Met l Z (⟨"java/lang/Integer", "numberOfTrailingZeros", "(I)I"⟩ : MethodName) jdk_33_method_48_code 2 (some .int) ({ frames := 0, cells := 0, slots := 0, locals := 0 } : Room) #[(.int (128 : Int32))] h0 (fun r h' => r = some (.int (own_tz (128 : Int32))) ∧ h0 = h') := by
  refine met_of (Ls := #[.val (.int (128 : Int32)), .unset]) (plainFor_of_name pn_rmtz128) (fun m => by first | (simp [entryFrame, mkF, argsToLocals, Value.category]; done) | rfl) (fun p e s m below meth c cx => ?_)
  refine g_iloadN cx d10_0 rfl ?_
  refine g_iconst cx d10_1 (v := (-1 : Int32)) rfl ?_
  refine g_ixor cx d10_2 ?_
  refine G.cast (st' := [(.int (-129 : Int32))]) ?_ rfl
  refine g_iloadN cx d10_3 rfl ?_
  refine g_iconst cx d10_4 (v := (1 : Int32)) rfl ?_
  refine g_isub cx d10_5 ?_
  refine G.cast (st' := [(.int (127 : Int32)), (.int (-129 : Int32))]) ?_ rfl
  refine g_iand cx d10_6 ?_
  refine G.cast (st' := [(.int (127 : Int32))]) ?_ rfl
  refine g_istoreN cx d10_7 (Ls' := #[.val (.int (127 : Int32)), .unset]) rfl ?_
  refine g_iloadN cx d10_8 rfl ?_
  refine g_if_gt cx d10_9 (fun hc9 => ?_) (fun q => absurd q (fun q => by revert q; decide))
  refine g_iconst cx d10_17 (v := (1 : Int32)) rfl ?_
  refine g_istoreN cx d10_18 (Ls' := #[.val (.int (127 : Int32)), .val (.int (1 : Int32))]) rfl ?_
  refine g_iloadN cx d10_19 rfl ?_
  refine g_ldcwI cx d10_20 (hw _ (List.mem_of_getElem? (i := 21) rfl)) ?_
  refine g_icmp_le cx d10_23 (fun hc23 => ?_) (fun q => absurd q (fun q => by revert q; decide))
  refine g_iloadN cx d10_34 rfl ?_
  refine g_sipush cx d10_35 (v := (256 : Int32)) rfl ?_
  refine g_icmp_le cx d10_38 (fun hc38 => ?_) (fun q => absurd q (fun q => by revert q; decide))
  refine g_iloadN cx d10_49 rfl ?_
  refine g_bipush cx d10_50 (v := (16 : Int32)) rfl ?_
  refine g_icmp_le cx d10_52 (fun q => absurd q (fun q => by revert q; decide)) (fun hc52 => ?_)
  refine g_iinc cx d10_55 rfl (v := (4 : Int32)) rfl (Ls' := #[.val (.int (127 : Int32)), .val (.int (5 : Int32))]) rfl ?_
  refine g_iloadN cx d10_58 rfl ?_
  refine g_iconst cx d10_59 (v := (4 : Int32)) rfl ?_
  refine g_iushr cx d10_60 ?_
  refine G.cast (st' := [(.int (7 : Int32))]) ?_ rfl
  refine g_istoreN cx d10_61 (Ls' := #[.val (.int (7 : Int32)), .val (.int (5 : Int32))]) rfl ?_
  refine g_iloadN cx d10_62 rfl ?_
  refine g_iconst cx d10_63 (v := (4 : Int32)) rfl ?_
  refine g_icmp_le cx d10_64 (fun q => absurd q (fun q => by revert q; decide)) (fun hc64 => ?_)
  refine g_iinc cx d10_67 rfl (v := (2 : Int32)) rfl (Ls' := #[.val (.int (7 : Int32)), .val (.int (7 : Int32))]) rfl ?_
  refine g_iloadN cx d10_70 rfl ?_
  refine g_iconst cx d10_71 (v := (2 : Int32)) rfl ?_
  refine g_iushr cx d10_72 ?_
  refine G.cast (st' := [(.int (1 : Int32))]) ?_ rfl
  refine g_istoreN cx d10_73 (Ls' := #[.val (.int (1 : Int32)), .val (.int (7 : Int32))]) rfl ?_
  refine g_iloadN cx d10_74 rfl ?_
  refine g_iloadN cx d10_75 rfl ?_
  refine g_iconst cx d10_76 (v := (1 : Int32)) rfl ?_
  refine g_iushr cx d10_77 ?_
  refine G.cast (st' := [(.int (0 : Int32)), (.int (7 : Int32))]) ?_ rfl
  refine g_iadd cx d10_78 ?_
  refine G.cast (st' := [(.int (7 : Int32))]) ?_ rfl
  refine g_retI cx d10_79 rfl (by decide) (by decide) ?_
  exact ⟨rfl, rfl⟩
theorem rmtz (l : Launch) (Z : State) (a0 : Array Value) (hw : ∀ d ∈ tables_1, d.before a0 Z = true) (z : Int32) (hz : own_sz z) (h0 : Heap) :
    Met l Z (⟨"java/lang/Integer", "numberOfTrailingZeros", "(I)I"⟩ : MethodName) jdk_33_method_48_code 2 (some .int) ({ frames := 0, cells := 0, slots := 0, locals := 0 } : Room) #[(.int z)] h0 (fun r h' => r = some (.int (own_tz z)) ∧ h0 = h') := by
  rcases hz with rfl | rfl | rfl | rfl
  · exact rmtz16 l Z a0 hw h0
  · exact rmtz32 l Z a0 hw h0
  · exact rmtz64 l Z a0 hw h0
  · exact rmtz128 l Z a0 hw h0
theorem d7_6 : Dc jdk_65_method_101_code 6 (.iload_n 3) 1 7 := ⟨by decide +kernel, rfl⟩
theorem d7_7 : Dc jdk_65_method_101_code 7 (.iload 4) 2 9 := ⟨by decide +kernel, rfl⟩
theorem d7_9 : Bi jdk_65_method_101_code 9 (Instr.if_icmp .ge) 22 12 := ⟨13, by decide +kernel, by decide, by decide, rfl⟩
theorem d7_22 : Dc jdk_65_method_101_code 22 (.return_) 1 23 := ⟨by decide +kernel, rfl⟩
theorem d7_12 : Dc jdk_65_method_101_code 12 (.aload_n 0) 1 13 := ⟨by decide +kernel, rfl⟩
theorem d7_13 : Dc jdk_65_method_101_code 13 (.iload_n 3) 1 14 := ⟨by decide +kernel, rfl⟩
theorem d7_14 : Dc jdk_65_method_101_code 14 (.lload_n 1) 1 15 := ⟨by decide +kernel, rfl⟩
theorem d7_15 : Dc jdk_65_method_101_code 15 (.lastore) 1 16 := ⟨by decide +kernel, rfl⟩
theorem d7_16 : Dc jdk_65_method_101_code 16 (.iinc 3 1) 3 19 := ⟨by decide +kernel, rfl⟩
theorem d7_19 : Bi jdk_65_method_101_code 19 (Instr.goto) 6 22 := ⟨(-13), by decide +kernel, by decide, by decide, rfl⟩
theorem d7_0 : Dc jdk_65_method_101_code 0 (.iconst 0) 1 1 := ⟨by decide +kernel, rfl⟩
theorem d7_1 : Dc jdk_65_method_101_code 1 (.istore_n 3) 1 2 := ⟨by decide +kernel, rfl⟩
theorem d7_2 : Dc jdk_65_method_101_code 2 (.aload_n 0) 1 3 := ⟨by decide +kernel, rfl⟩
theorem d7_3 : Dc jdk_65_method_101_code 3 (.arraylength) 1 4 := ⟨by decide +kernel, rfl⟩
theorem d7_4 : Dc jdk_65_method_101_code 4 (.istore 4) 2 6 := ⟨by decide +kernel, rfl⟩
theorem pn_rmfil : plainName "java/util/Arrays" = true := by first | (simp [plainName, overriddenIn]; done) | decide +kernel
set_option maxRecDepth 65536 in
set_option maxHeartbeats 40000000 in
theorem rmfil (l : Launch) (Z : State) (a0 : Array Value) (hw : ∀ d ∈ tables_1, d.before a0 Z = true) (a : Addr) (z : Int32) (hz : own_sz z) (wv : Int64) (f0 : Nat → Int64) (cL : ClassId) (h0 : Heap) (A_a : Arx Z h0 a cL .long z (own_lr z.toNatClampNeg f0) (.long 0) "[J") (g_a : Z.heap.size ≤ a) :
    Met l Z (⟨"java/util/Arrays", "fill", "([JJ)V"⟩ : MethodName) jdk_65_method_101_code 5 none ({ frames := 0, cells := 0, slots := 0, locals := 0 } : Room) #[(.ref a), (.long wv)] h0 (fun v h' => v = none ∧ Keep h0 h' [a] ∧ Arx Z h' a cL .long z (own_lr z.toNatClampNeg (fun _ => wv)) (.long 0) "[J") := by
  refine met_of (Ls := #[.val (.ref a), .val (.long wv), .second, .unset, .unset]) (plainFor_of_name pn_rmfil) (fun m => by first | (simp [entryFrame, mkF, argsToLocals, Value.category]; done) | rfl) (fun p e s m below meth c cx => ?_)
  have loop : ∀ (fu : Nat) (i : Int32) (h : Heap) (f : Nat → Int64), z.toInt - i.toInt ≤ (fu : Nat) → ¬ i < (0 : Int32) → (∀ j, j < i.toNatClampNeg → f j = wv) → Keep h0 h [a] → Arx Z h a cL .long z (own_lr z.toNatClampNeg f) (.long 0) "[J" → G p l e ({ frames := 0, cells := 0, slots := 0, locals := 0 } : Room) s m #[.ref a, .long wv] below meth c Z.heap.size (fun v h' => v = none ∧ Keep h0 h' [a] ∧ Arx Z h' a cL .long z (own_lr z.toNatClampNeg (fun _ => wv)) (.long 0) "[J") h 0 0 6 #[.val (.ref a), .val (.long wv), .second, .val (.int i), .val (.int z)] [] := by
    intro fu
    induction fu with
    | zero =>
      intro i h f hfu i0 hv KK A_a
      refine g_iloadN cx d7_6 rfl ?_
      refine g_iload cx d7_7 rfl ?_
      refine g_icmp_ge cx d7_9 (fun hc9 => ?_) (fun q => absurd q (fun q => own_d0 hfu q))
      refine g_retV cx d7_22 rfl (by decide) (by decide) ?_
      refine ⟨rfl, KK, ?_⟩
      rw [← own_all hc9 hv]
      exact A_a
    | succ fu ih =>
      intro i h f hfu i0 hv KK A_a
      refine g_iloadN cx d7_6 rfl ?_
      refine g_iload cx d7_7 rfl ?_
      refine g_icmp_ge cx d7_9 (fun hc9 => ?_) (fun hc9 => ?_)
      · refine g_retV cx d7_22 rfl (by decide) (by decide) ?_
        refine ⟨rfl, KK, ?_⟩
        rw [← own_all hc9 hv]
        exact A_a
      · refine g_aloadN cx d7_12 rfl rfl ?_
        refine g_iloadN cx d7_13 rfl ?_
        refine g_lloadN cx d7_14 rfl ?_
        refine g_lastore cx d7_15 A_a ⟨i0, hc9⟩ (by rw [own_lr_len]; exact own_ixz i0 hc9) g_a (fun h1 W2 AA3 => ?_)
        rw [own_lr_set] at AA3
        have KK := KK.wr W2 (Or.inl (by simp))
        have A_a := AA3
        refine g_iinc cx d7_16 rfl (v := (1 : Int32)) rfl (Ls' := #[.val (.ref a), .val (.long wv), .second, .val (.int (i + (1 : Int32))), .val (.int z)]) rfl ?_
        refine g_goto cx d7_19 ?_
        exact ih (i + (1 : Int32)) _ _ (own_d1 hz i0 hc9 hfu) (own_up hz i0 hc9).2.1 (own_zs hz i0 hc9 hv) KK A_a
  refine g_iconst cx d7_0 (v := (0 : Int32)) rfl ?_
  refine g_istoreN cx d7_1 (Ls' := #[.val (.ref a), .val (.long wv), .second, .val (.int (0 : Int32)), .unset]) rfl ?_
  refine g_aloadN cx d7_2 rfl rfl ?_
  refine g_arraylength cx d7_3 A_a.1 ?_
  refine g_istore cx d7_4 (Ls' := #[.val (.ref a), .val (.long wv), .second, .val (.int (0 : Int32)), .val (.int z)]) rfl ?_
  exact loop 128 (0 : Int32) h0 f0 (by have := own_szb hz; have e0 : (0 : Int32).toInt = 0 := rfl; omega) (by decide) (fun j hj => absurd hj (Nat.not_lt_zero _)) (Keep.refl h0 [a]) A_a
theorem d6_0 : Dc prog_22_method_10_code 0 (.iload_n 0) 1 1 := ⟨by decide +kernel, rfl⟩
theorem d6_1 : Dc prog_22_method_10_code 1 (.newarray .long) 2 3 := ⟨by decide +kernel, rfl⟩
theorem d6_3 : Dc prog_22_method_10_code 3 (.astore_n 1) 1 4 := ⟨by decide +kernel, rfl⟩
theorem d6_4 : Dc prog_22_method_10_code 4 (.aload_n 1) 1 5 := ⟨by decide +kernel, rfl⟩
theorem d6_5 : Dc prog_22_method_10_code 5 (.ldc2_w 45) 3 8 := ⟨by decide +kernel, rfl⟩
theorem pd_1 : parseMethodDescriptor "([JJ)V" = some ⟨[(.array .long), .long], none⟩ := by decide +kernel
theorem d6_8 : Dc prog_22_method_10_code 8 (.invokestatic 58) 3 11 := ⟨by decide +kernel, rfl⟩
theorem d6_11 : Dc prog_22_method_10_code 11 (.aload_n 1) 1 12 := ⟨by decide +kernel, rfl⟩
theorem d6_12 : Dc prog_22_method_10_code 12 (.areturn) 1 13 := ⟨by decide +kernel, rfl⟩
theorem pn_rmnt : plainName "com/example/gridsmith/gridsmith/LongSet" = true := by first | (simp [plainName, overriddenIn]; done) | decide +kernel
set_option maxRecDepth 65536 in
set_option maxHeartbeats 40000000 in
theorem rmnt (l : Launch) (Z : State) (a0 : Array Value) (hw : ∀ d ∈ tables_1, d.before a0 Z = true) (z : Int32) (hz : own_sz z) (h0 : Heap) (OL : Old Z Z.heap.size h0) :
    Met l Z (⟨"com/example/gridsmith/gridsmith/LongSet", "newTable", "(I)[J"⟩ : MethodName) prog_22_method_10_code 2 (some (.array .long)) ({ frames := 1, cells := 1, slots := 128, locals := 16 } : Room) #[(.int z)] h0 (fun v h' => ∃ t cT, v = some (.ref t) ∧ Keep h0 h' [] ∧ h0.size ≤ t ∧ Arx Z h' t cT .long z (own_lr z.toNatClampNeg (fun _ => own_E)) (.long 0) "[J") := by
  refine met_of (Ls := #[.val (.int z), .unset]) (plainFor_of_name pn_rmnt) (fun m => by first | (simp [entryFrame, mkF, argsToLocals, Value.category]; done) | rfl) (fun p e s m below meth c cx => ?_)
  have KK := Keep.refl h0 []
  refine g_iloadN cx d6_0 rfl ?_
  refine g_newarray cx (ad := "[J") (by decide) d6_1 (hw _ (List.mem_of_getElem? (i := 25) rfl)) (own_nn hz) (cap := 128) (own_szb hz).2.1 (by decide) (k' := 1) (n' := 128) rfl rfl (by decide) (by decide) (fun h1 b2 cA3 gb4 E5 X6 => ?_)
  have g_b2 : Z.heap.size ≤ b2 := by rw [gb4]; exact OL.2.1
  have sz_b2 := (by rw [gb4]; exact KK.1 : h0.size ≤ b2)
  have OL := OL.ext E5
  have KK := KK.ext E5
  have A_b2 := X6
  refine g_astoreN cx d6_3 rfl (Ls' := #[.val (.int z), .val (.ref b2)]) rfl ?_
  refine g_aloadN cx d6_4 rfl rfl ?_
  refine g_ldcJ cx d6_5 (hw _ (List.mem_of_getElem? (i := 26) rfl)) ?_
  refine g_static cx (y := (⟨"java/util/Arrays", "fill", "([JJ)V"⟩ : MethodName)) d6_8 (hw _ (List.mem_of_getElem? (i := 27) rfl)) (hw _ (List.mem_of_getElem? (i := 28) rfl)) (hw _ (List.mem_of_getElem? (i := 29) rfl)) (hw _ (List.mem_of_getElem? (i := 30) rfl)) (by decide) (bytes := jdk_65_method_101_code) (maxL' := 5) (M := (rmfil l Z a0 hw b2 z hz (-9223372036854775808 : Int64) (fun _ => 0) cA3 _ (A_b2.pad (own_pad0 _)) g_b2)) rfl (lenOf pd_1 rfl) (by decide) (W := 0) (Nat.le_of_eq rfl) (by decide) (k' := 1) (n' := 128) rfl rfl (by decide) (by decide) (argsL := [(.ref b2), (.long (-9223372036854775808 : Int64))]) (rest := []) rfl (fun v9 h8 q10 => ?_)
  obtain ⟨rfl, K7, A_b2⟩ := q10
  have OL := OL.keep K7 (allS g_b2 all0)
  have KK := KK.trans K7 (allS (P := fun z => z ∈ _ ∨ _ ≤ z) (Or.inr sz_b2) all0)
  refine G.cast (st' := []) ?_ rfl
  refine g_aloadN cx d6_11 rfl rfl ?_
  refine g_retA cx d6_12 (t := (.array .long)) rfl rfl rfl rfl (by decide) (by decide) ?_
  exact ⟨_, _, rfl, KK, sz_b2, A_b2⟩
def own_NZ (y : Int32) : Int32 := (own_mx (16 : Int32) ((own_hob (own_mx (1 : Int32) ((2 : Int32) * y))) * (2 : Int32)))
theorem own_szK : ∀ k : Fin 64, own_NZ (Int32.ofNat k.val) = (16 : Int32) ∨ own_NZ (Int32.ofNat k.val) = (32 : Int32) ∨ own_NZ (Int32.ofNat k.val) = (64 : Int32) ∨ own_NZ (Int32.ofNat k.val) = (128 : Int32) := by decide +kernel
theorem own_szN (ie : Int32) : own_sz (own_NZ (ie &&& (63 : Int32))) := by
  have e : (ie &&& (63 : Int32)).toInt = ie.toInt % 64 := c_mask ie (63 : Int32) 6 (by decide) (by decide)
  have h0 : ¬ (ie &&& (63 : Int32)) < (0 : Int32) := fun q => by
    have := Int32.lt_iff_toInt_lt.mp q
    have e0 : (0 : Int32).toInt = 0 := rfl
    omega
  have e2 : Int32.ofNat (ie &&& (63 : Int32)).toNatClampNeg = ie &&& (63 : Int32) := Int32.ofNat_toNatClampNeg _ (Int32.not_lt.mp h0)
  have hb : (ie &&& (63 : Int32)).toNatClampNeg < 64 := by simp only [Int32.toNatClampNeg]; omega
  have := own_szK ⟨_, hb⟩
  rw [e2] at this
  exact this
theorem d1_0 : Dc prog_22_method_2_code 0 (.aload_n 0) 1 1 := ⟨by decide +kernel, rfl⟩
theorem d1_1 : Dc prog_22_method_2_code 1 (.invokespecial 9) 3 4 := ⟨by decide +kernel, rfl⟩
theorem d1_4 : Dc prog_22_method_2_code 4 (.aload_n 0) 1 5 := ⟨by decide +kernel, rfl⟩
theorem d1_5 : Dc prog_22_method_2_code 5 (.bipush 16) 2 7 := ⟨by decide +kernel, rfl⟩
theorem d1_7 : Dc prog_22_method_2_code 7 (.iconst 1) 1 8 := ⟨by decide +kernel, rfl⟩
theorem d1_8 : Dc prog_22_method_2_code 8 (.iconst 2) 1 9 := ⟨by decide +kernel, rfl⟩
theorem d1_9 : Dc prog_22_method_2_code 9 (.iload_n 1) 1 10 := ⟨by decide +kernel, rfl⟩
theorem d1_10 : Dc prog_22_method_2_code 10 (.imul) 1 11 := ⟨by decide +kernel, rfl⟩
theorem pd_2 : parseMethodDescriptor "(II)I" = some ⟨[.int, .int], some .int⟩ := by decide +kernel
theorem d1_11 : Dc prog_22_method_2_code 11 (.invokestatic 14) 3 14 := ⟨by decide +kernel, rfl⟩
theorem d1_14 : Dc prog_22_method_2_code 14 (.invokestatic 20) 3 17 := ⟨by decide +kernel, rfl⟩
theorem d1_17 : Dc prog_22_method_2_code 17 (.iconst 2) 1 18 := ⟨by decide +kernel, rfl⟩
theorem d1_18 : Dc prog_22_method_2_code 18 (.imul) 1 19 := ⟨by decide +kernel, rfl⟩
theorem d1_19 : Dc prog_22_method_2_code 19 (.invokestatic 14) 3 22 := ⟨by decide +kernel, rfl⟩
theorem pd_3 : parseMethodDescriptor "(I)[J" = some ⟨[.int], some (.array .long)⟩ := by decide +kernel
theorem d1_22 : Dc prog_22_method_2_code 22 (.invokestatic 26) 3 25 := ⟨by decide +kernel, rfl⟩
theorem d1_25 : Dc prog_22_method_2_code 25 (.putfield 30) 3 28 := ⟨by decide +kernel, rfl⟩
theorem d1_28 : Dc prog_22_method_2_code 28 (.return_) 1 29 := ⟨by decide +kernel, rfl⟩
theorem pn_rmini : plainName "com/example/gridsmith/gridsmith/LongSet" = true := by first | (simp [plainName, overriddenIn]; done) | decide +kernel
set_option maxRecDepth 65536 in
set_option maxHeartbeats 40000000 in
theorem rmini (l : Launch) (Z : State) (a0 : Array Value) (hw : ∀ d ∈ tables_1, d.before a0 Z = true) (ie : Int32) (a : Addr) (h0 : Heap) (O_a : ObS Z h0 a .null (.int (0 : Int32))) (g_a : Z.heap.size ≤ a) (OL : Old Z Z.heap.size h0) :
    Met l Z (⟨"com/example/gridsmith/gridsmith/LongSet", "<init>", "(I)V"⟩ : MethodName) prog_22_method_2_code 2 none ({ frames := 2, cells := 1, slots := 128, locals := 30 } : Room) #[(.ref a), (.int (ie &&& (63 : Int32)))] h0 (fun v h' => ∃ t cT z, v = none ∧ own_sz z ∧ Keep h0 h' [a] ∧ h0.size ≤ t ∧ ObS Z h' a (.ref t) (.int (0 : Int32)) ∧ Arx Z h' t cT .long z (own_lr z.toNatClampNeg (fun _ => own_E)) (.long 0) "[J") := by
  refine met_of (Ls := #[.val (.ref a), .val (.int (ie &&& (63 : Int32)))]) (plainFor_of_name pn_rmini) (fun m => by first | (simp [entryFrame, mkF, argsToLocals, Value.category]; done) | rfl) (fun p e s m below meth c cx => ?_)
  have KK := Keep.refl h0 [a]
  refine g_aloadN cx d1_0 rfl rfl ?_
  refine g_initO cx d1_1 (hw _ (List.mem_of_getElem? (i := 6) rfl)) (hw _ (List.mem_of_getElem? (i := 7) rfl)) (hw _ (List.mem_of_getElem? (i := 8) rfl)) rfl (by decide) (W := 0) (Nat.le_of_eq rfl) (by decide) ?_
  refine g_aloadN cx d1_4 rfl rfl ?_
  refine g_bipush cx d1_5 (v := (16 : Int32)) rfl ?_
  refine g_iconst cx d1_7 (v := (1 : Int32)) rfl ?_
  refine g_iconst cx d1_8 (v := (2 : Int32)) rfl ?_
  refine g_iloadN cx d1_9 rfl ?_
  refine g_imul cx d1_10 ?_
  refine g_static cx (y := (⟨"java/lang/Math", "max", "(II)I"⟩ : MethodName)) d1_11 (hw _ (List.mem_of_getElem? (i := 9) rfl)) (hw _ (List.mem_of_getElem? (i := 10) rfl)) (hw _ (List.mem_of_getElem? (i := 11) rfl)) (hw _ (List.mem_of_getElem? (i := 12) rfl)) (by decide) (bytes := jdk_29_method_65_code) (maxL' := 2) (M := (rmxi l Z a0 hw _ _ _)) rfl (lenOf pd_2 rfl) (by decide) (W := 2) (Nat.le_of_eq rfl) (by decide) (k' := 0) (n' := 0) rfl rfl (by decide) (by decide) (argsL := [(.int (1 : Int32)), (.int ((2 : Int32) * (ie &&& (63 : Int32))))]) (rest := [(.int (16 : Int32)), (.ref a)]) rfl (fun v2 h1 q3 => ?_)
  obtain ⟨rfl, rfl⟩ := q3
  refine G.cast (st' := [(.int (own_mx (1 : Int32) ((2 : Int32) * (ie &&& (63 : Int32))))), (.int (16 : Int32)), (.ref a)]) ?_ rfl
  refine g_static cx (y := (⟨"java/lang/Integer", "highestOneBit", "(I)I"⟩ : MethodName)) d1_14 (hw _ (List.mem_of_getElem? (i := 13) rfl)) (hw _ (List.mem_of_getElem? (i := 14) rfl)) (hw _ (List.mem_of_getElem? (i := 15) rfl)) (hw _ (List.mem_of_getElem? (i := 16) rfl)) (by decide) (bytes := jdk_33_method_45_code) (maxL' := 1) (M := (rmhb l Z a0 hw _ _)) rfl (lenOf pd_0 rfl) (by decide) (W := 2) (Nat.le_of_eq rfl) (by decide) (k' := 0) (n' := 0) rfl rfl (by decide) (by decide) (argsL := [(.int (own_mx (1 : Int32) ((2 : Int32) * (ie &&& (63 : Int32)))))]) (rest := [(.int (16 : Int32)), (.ref a)]) rfl (fun v5 h4 q6 => ?_)
  obtain ⟨rfl, rfl⟩ := q6
  refine G.cast (st' := [(.int (own_hob (own_mx (1 : Int32) ((2 : Int32) * (ie &&& (63 : Int32)))))), (.int (16 : Int32)), (.ref a)]) ?_ rfl
  refine g_iconst cx d1_17 (v := (2 : Int32)) rfl ?_
  refine g_imul cx d1_18 ?_
  refine g_static cx (y := (⟨"java/lang/Math", "max", "(II)I"⟩ : MethodName)) d1_19 (hw _ (List.mem_of_getElem? (i := 9) rfl)) (hw _ (List.mem_of_getElem? (i := 10) rfl)) (hw _ (List.mem_of_getElem? (i := 11) rfl)) (hw _ (List.mem_of_getElem? (i := 12) rfl)) (by decide) (bytes := jdk_29_method_65_code) (maxL' := 2) (M := (rmxi l Z a0 hw _ _ _)) rfl (lenOf pd_2 rfl) (by decide) (W := 1) (Nat.le_of_eq rfl) (by decide) (k' := 0) (n' := 0) rfl rfl (by decide) (by decide) (argsL := [(.int (16 : Int32)), (.int ((own_hob (own_mx (1 : Int32) ((2 : Int32) * (ie &&& (63 : Int32))))) * (2 : Int32)))]) (rest := [(.ref a)]) rfl (fun v8 h7 q9 => ?_)
  obtain ⟨rfl, rfl⟩ := q9
  refine G.cast (st' := [(.int (own_mx (16 : Int32) ((own_hob (own_mx (1 : Int32) ((2 : Int32) * (ie &&& (63 : Int32))))) * (2 : Int32)))), (.ref a)]) ?_ rfl
  refine g_static cx (y := (⟨"com/example/gridsmith/gridsmith/LongSet", "newTable", "(I)[J"⟩ : MethodName)) d1_22 (hw _ (List.mem_of_getElem? (i := 22) rfl)) (hw _ (List.mem_of_getElem? (i := 23) rfl)) (hw _ (List.mem_of_getElem? (i := 2) rfl)) (hw _ (List.mem_of_getElem? (i := 24) rfl)) (by decide) (bytes := prog_22_method_10_code) (maxL' := 2) (M := (rmnt l Z a0 hw (own_NZ (ie &&& (63 : Int32))) (own_szN ie) _ OL)) rfl (lenOf pd_3 rfl) (by decide) (W := 1) (Nat.le_of_eq rfl) (by decide) (k' := 1) (n' := 128) rfl rfl (by decide) (by decide) (argsL := [(.int (own_mx (16 : Int32) ((own_hob (own_mx (1 : Int32) ((2 : Int32) * (ie &&& (63 : Int32))))) * (2 : Int32))))]) (rest := [(.ref a)]) rfl (fun v12 h11 q13 => ?_)
  obtain ⟨t, cT, rfl, K10, st_t, A_t⟩ := q13
  have ne_a_t : a ≠ t := Nat.ne_of_lt (Nat.lt_of_lt_of_le O_a.lt st_t)
  have g_t : Z.heap.size ≤ t := Nat.le_trans OL.2.1 st_t
  have O_a := O_a.keep K10 nin0
  have OL := OL.keep K10 all0
  have KK := KK.trans K10 all0
  refine G.cast (st' := [(.ref t), (.ref a)]) ?_ rfl
  refine g_putF cx d1_25 (host := "") (Or.inl (hw _ (List.mem_of_getElem? (i := 31) rfl))) Via.refl O_a.2.1 O_a.1 (Or.inl (hw _ (List.mem_of_getElem? (i := 32) rfl))) (hw _ (List.mem_of_getElem? (i := 1) rfl)) (ty := (.array .long)) (by decide) rfl rfl g_a (fun h14 W15 => ?_)
  have O_a := O_a.put1 hw W15
  have A_t := A_t.other W15 (Ne.symm ne_a_t)
  have OL := OL.wr W15 g_a
  have KK := KK.wr W15 (Or.inl (List.mem_of_getElem? (i := 0) rfl))
  refine g_retV cx d1_28 rfl (by decide) (by decide) ?_
  exact ⟨t, cT, _, rfl, own_szN ie, KK, st_t, O_a, A_t⟩
def own_hs (z : Int32) (y : Int64) : Int32 := (((((((y * (-7046029254386353131 : Int64))).toUInt64 >>> (((64 : Int32) - (own_tz z)) &&& 0x3f).toInt64.toUInt64).toInt64)).toInt32) &&& (z - (1 : Int32)))
def own_hn (z : Int32) (y : Int64) : Nat := (own_hs z y).toNatClampNeg
theorem d9_24 : Dc prog_22_method_9_code 24 (.aload_n 0) 1 25 := ⟨by decide +kernel, rfl⟩
theorem d9_25 : Dc prog_22_method_9_code 25 (.iload 4) 2 27 := ⟨by decide +kernel, rfl⟩
theorem d9_27 : Dc prog_22_method_9_code 27 (.laload) 1 28 := ⟨by decide +kernel, rfl⟩
theorem d9_28 : Dc prog_22_method_9_code 28 (.ldc2_w 45) 3 31 := ⟨by decide +kernel, rfl⟩
theorem d9_31 : Dc prog_22_method_9_code 31 (.lcmp) 1 32 := ⟨by decide +kernel, rfl⟩
theorem d9_32 : Bi prog_22_method_9_code 32 (Instr.ifCond .eq) 55 35 := ⟨23, by decide +kernel, by decide, by decide, rfl⟩
theorem d9_55 : Dc prog_22_method_9_code 55 (.iload 4) 2 57 := ⟨by decide +kernel, rfl⟩
theorem d9_57 : Dc prog_22_method_9_code 57 (.ireturn) 1 58 := ⟨by decide +kernel, rfl⟩
theorem d9_35 : Dc prog_22_method_9_code 35 (.aload_n 0) 1 36 := ⟨by decide +kernel, rfl⟩
theorem d9_36 : Dc prog_22_method_9_code 36 (.iload 4) 2 38 := ⟨by decide +kernel, rfl⟩
theorem d9_38 : Dc prog_22_method_9_code 38 (.laload) 1 39 := ⟨by decide +kernel, rfl⟩
theorem d9_39 : Dc prog_22_method_9_code 39 (.lload_n 1) 1 40 := ⟨by decide +kernel, rfl⟩
theorem d9_40 : Dc prog_22_method_9_code 40 (.lcmp) 1 41 := ⟨by decide +kernel, rfl⟩
theorem d9_41 : Bi prog_22_method_9_code 41 (Instr.ifCond .eq) 55 44 := ⟨14, by decide +kernel, by decide, by decide, rfl⟩
theorem d9_44 : Dc prog_22_method_9_code 44 (.iload 4) 2 46 := ⟨by decide +kernel, rfl⟩
theorem d9_46 : Dc prog_22_method_9_code 46 (.iconst 1) 1 47 := ⟨by decide +kernel, rfl⟩
theorem d9_47 : Dc prog_22_method_9_code 47 (.iadd) 1 48 := ⟨by decide +kernel, rfl⟩
theorem d9_48 : Dc prog_22_method_9_code 48 (.iload_n 3) 1 49 := ⟨by decide +kernel, rfl⟩
theorem d9_49 : Dc prog_22_method_9_code 49 (.iand) 1 50 := ⟨by decide +kernel, rfl⟩
theorem d9_50 : Dc prog_22_method_9_code 50 (.istore 4) 2 52 := ⟨by decide +kernel, rfl⟩
theorem d9_52 : Bi prog_22_method_9_code 52 (Instr.goto) 24 55 := ⟨(-28), by decide +kernel, by decide, by decide, rfl⟩
theorem d9_0 : Dc prog_22_method_9_code 0 (.aload_n 0) 1 1 := ⟨by decide +kernel, rfl⟩
theorem d9_1 : Dc prog_22_method_9_code 1 (.arraylength) 1 2 := ⟨by decide +kernel, rfl⟩
theorem d9_2 : Dc prog_22_method_9_code 2 (.iconst 1) 1 3 := ⟨by decide +kernel, rfl⟩
theorem d9_3 : Dc prog_22_method_9_code 3 (.isub) 1 4 := ⟨by decide +kernel, rfl⟩
theorem d9_4 : Dc prog_22_method_9_code 4 (.istore_n 3) 1 5 := ⟨by decide +kernel, rfl⟩
theorem d9_5 : Dc prog_22_method_9_code 5 (.lload_n 1) 1 6 := ⟨by decide +kernel, rfl⟩
theorem d9_6 : Dc prog_22_method_9_code 6 (.ldc2_w 53) 3 9 := ⟨by decide +kernel, rfl⟩
theorem d9_9 : Dc prog_22_method_9_code 9 (.lmul) 1 10 := ⟨by decide +kernel, rfl⟩
theorem d9_10 : Dc prog_22_method_9_code 10 (.bipush 64) 2 12 := ⟨by decide +kernel, rfl⟩
theorem d9_12 : Dc prog_22_method_9_code 12 (.aload_n 0) 1 13 := ⟨by decide +kernel, rfl⟩
theorem d9_13 : Dc prog_22_method_9_code 13 (.arraylength) 1 14 := ⟨by decide +kernel, rfl⟩
theorem d9_14 : Dc prog_22_method_9_code 14 (.invokestatic 55) 3 17 := ⟨by decide +kernel, rfl⟩
theorem d9_17 : Dc prog_22_method_9_code 17 (.isub) 1 18 := ⟨by decide +kernel, rfl⟩
theorem d9_18 : Dc prog_22_method_9_code 18 (.lushr) 1 19 := ⟨by decide +kernel, rfl⟩
theorem d9_19 : Dc prog_22_method_9_code 19 (.l2i) 1 20 := ⟨by decide +kernel, rfl⟩
theorem d9_20 : Dc prog_22_method_9_code 20 (.iload_n 3) 1 21 := ⟨by decide +kernel, rfl⟩
theorem d9_21 : Dc prog_22_method_9_code 21 (.iand) 1 22 := ⟨by decide +kernel, rfl⟩
theorem d9_22 : Dc prog_22_method_9_code 22 (.istore 4) 2 24 := ⟨by decide +kernel, rfl⟩
theorem pn_rmfi : plainName "com/example/gridsmith/gridsmith/LongSet" = true := by first | (simp [plainName, overriddenIn]; done) | decide +kernel
set_option maxRecDepth 65536 in
set_option maxHeartbeats 40000000 in
theorem rmfi (l : Launch) (Z : State) (a0 : Array Value) (hw : ∀ d ∈ tables_1, d.before a0 Z = true) (a : Addr) (z : Int32) (hz : own_sz z) (y : Int64) (f : Nat → Int64) (cL : ClassId) (t0 : Nat) (ht0 : t0 < z.toNatClampNeg) (ht0E : f ((own_hn z y + t0) % z.toNatClampNeg) = own_E) (h0 : Heap) (A_a : Arx Z h0 a cL .long z (own_lr z.toNatClampNeg f) (.long 0) "[J") :
    Met l Z (⟨"com/example/gridsmith/gridsmith/LongSet", "find", "([JJ)I"⟩ : MethodName) prog_22_method_9_code 5 (some .int) ({ frames := 1, cells := 0, slots := 0, locals := 16 } : Room) #[(.ref a), (.long y)] h0 (fun v h' => ∃ (r : Int32) (tt : Nat), v = some (.int r) ∧ h0 = h' ∧ ¬ r < (0 : Int32) ∧ r < z ∧ tt < z.toNatClampNeg ∧ r.toNatClampNeg = (own_hn z y + tt) % z.toNatClampNeg ∧ (f r.toNatClampNeg = own_E ∨ f r.toNatClampNeg = y) ∧ (∀ t', t' < tt → f ((own_hn z y + t') % z.toNatClampNeg) ≠ own_E) ∧ (∀ t', t' < tt → f ((own_hn z y + t') % z.toNatClampNeg) ≠ y)) := by
  refine met_of (Ls := #[.val (.ref a), .val (.long y), .second, .unset, .unset]) (plainFor_of_name pn_rmfi) (fun m => by first | (simp [entryFrame, mkF, argsToLocals, Value.category]; done) | rfl) (fun p e s m below meth c cx => ?_)
  have hz0 : 0 < z.toNatClampNeg := by have := own_szb hz; omega
  have loop : ∀ (fu : Nat) (tt : Nat) (kk : Int32), t0 - tt ≤ fu → tt < z.toNatClampNeg → ¬ kk < (0 : Int32) → kk < z → kk.toNatClampNeg = (own_hn z y + tt) % z.toNatClampNeg → (∀ t', t' < tt → f ((own_hn z y + t') % z.toNatClampNeg) ≠ own_E) → (∀ t', t' < tt → f ((own_hn z y + t') % z.toNatClampNeg) ≠ y) → G p l e ({ frames := 1, cells := 0, slots := 0, locals := 16 } : Room) s m #[.ref a, .long y] below meth c Z.heap.size (fun v h' => ∃ (r : Int32) (tt : Nat), v = some (.int r) ∧ h0 = h' ∧ ¬ r < (0 : Int32) ∧ r < z ∧ tt < z.toNatClampNeg ∧ r.toNatClampNeg = (own_hn z y + tt) % z.toNatClampNeg ∧ (f r.toNatClampNeg = own_E ∨ f r.toNatClampNeg = y) ∧ (∀ t', t' < tt → f ((own_hn z y + t') % z.toNatClampNeg) ≠ own_E) ∧ (∀ t', t' < tt → f ((own_hn z y + t') % z.toNatClampNeg) ≠ y)) h0 0 0 24 #[.val (.ref a), .val (.long y), .second, .val (.int (z - (1 : Int32))), .val (.int kk)] [] := by
    intro fu
    induction fu with
    | zero =>
      intro tt kk hfu htt k0 k1 hk hE hY
      have hE0 : f kk.toNatClampNeg = own_E := by
        have : ¬ t0 < tt := fun q => hE t0 q ht0E
        rw [hk, show tt = t0 by omega]; exact ht0E
      refine g_aloadN cx d9_24 rfl rfl ?_
      refine g_iload cx d9_25 rfl ?_
      refine g_laload cx d9_27 A_a.1 ⟨k0, k1⟩ (v := .long (f kk.toNatClampNeg)) (own_lr_get _ (own_ixz k0 k1) _) ?_
      refine g_ldcJ cx d9_28 (hw _ (List.mem_of_getElem? (i := 26) rfl)) ?_
      refine g_lif_eq cx d9_31 d9_32 (fun hc32 => ?_) (fun q => absurd q (fun q => q hE0))
      refine g_iload cx d9_55 rfl ?_
      refine g_retI cx d9_57 rfl (by decide) (by decide) ?_
      exact ⟨kk, tt, rfl, rfl, k0, k1, htt, hk, Or.inl hc32, hE, hY⟩
    | succ fu ih =>
      intro tt kk hfu htt k0 k1 hk hE hY
      refine g_aloadN cx d9_24 rfl rfl ?_
      refine g_iload cx d9_25 rfl ?_
      refine g_laload cx d9_27 A_a.1 ⟨k0, k1⟩ (v := .long (f kk.toNatClampNeg)) (own_lr_get _ (own_ixz k0 k1) _) ?_
      refine g_ldcJ cx d9_28 (hw _ (List.mem_of_getElem? (i := 26) rfl)) ?_
      refine g_lif_eq cx d9_31 d9_32 (fun hc32 => ?_) (fun hc32 => ?_)
      · refine g_iload cx d9_55 rfl ?_
        refine g_retI cx d9_57 rfl (by decide) (by decide) ?_
        exact ⟨kk, tt, rfl, rfl, k0, k1, htt, hk, Or.inl hc32, hE, hY⟩
      · refine g_aloadN cx d9_35 rfl rfl ?_
        refine g_iload cx d9_36 rfl ?_
        refine g_laload cx d9_38 A_a.1 ⟨k0, k1⟩ (v := .long (f kk.toNatClampNeg)) (own_lr_get _ (own_ixz k0 k1) _) ?_
        refine g_lloadN cx d9_39 rfl ?_
        refine g_lif_eq cx d9_40 d9_41 (fun hc41 => ?_) (fun hc41 => ?_)
        · refine g_iload cx d9_55 rfl ?_
          refine g_retI cx d9_57 rfl (by decide) (by decide) ?_
          exact ⟨kk, tt, rfl, rfl, k0, k1, htt, hk, Or.inr hc41, hE, hY⟩
        · refine g_iload cx d9_44 rfl ?_
          refine g_iconst cx d9_46 (v := (1 : Int32)) rfl ?_
          refine g_iadd cx d9_47 ?_
          refine g_iloadN cx d9_48 rfl ?_
          refine g_iand cx d9_49 ?_
          refine g_istore cx d9_50 (Ls' := #[.val (.ref a), .val (.long y), .second, .val (.int (z - (1 : Int32))), .val (.int ((kk + (1 : Int32)) &&& (z - (1 : Int32))))]) rfl ?_
          refine g_goto cx d9_52 ?_
          refine ih (tt + 1) ((kk + (1 : Int32)) &&& (z - (1 : Int32))) ?_ ?_ (own_msk hz _).1 (own_msk hz _).2.1 ?_ ?_ ?_
          · omega
          · have : tt ≠ t0 := fun q => hc32 (by rw [hk, q]; exact ht0E)
            have : ¬ t0 < tt := fun q => hE t0 q ht0E
            omega
          · rw [own_nxt hz k0 k1, hk, Nat.mod_add_mod, Nat.add_assoc]
          · intro t' h'
            by_cases q : t' = tt
            · rw [q, ← hk]; exact hc32
            · exact hE t' (by omega)
          · intro t' h'
            by_cases q : t' = tt
            · rw [q, ← hk]; exact hc41
            · exact hY t' (by omega)
  refine g_aloadN cx d9_0 rfl rfl ?_
  refine g_arraylength cx d9_1 A_a.1 ?_
  refine g_iconst cx d9_2 (v := (1 : Int32)) rfl ?_
  refine g_isub cx d9_3 ?_
  refine g_istoreN cx d9_4 (Ls' := #[.val (.ref a), .val (.long y), .second, .val (.int (z - (1 : Int32))), .unset]) rfl ?_
  refine g_lloadN cx d9_5 rfl ?_
  refine g_ldcJ cx d9_6 (hw _ (List.mem_of_getElem? (i := 45) rfl)) ?_
  refine g_lmul cx d9_9 ?_
  refine g_bipush cx d9_10 (v := (64 : Int32)) rfl ?_
  refine g_aloadN cx d9_12 rfl rfl ?_
  refine g_arraylength cx d9_13 A_a.1 ?_
  refine g_static cx (y := (⟨"java/lang/Integer", "numberOfTrailingZeros", "(I)I"⟩ : MethodName)) d9_14 (hw _ (List.mem_of_getElem? (i := 46) rfl)) (hw _ (List.mem_of_getElem? (i := 47) rfl)) (hw _ (List.mem_of_getElem? (i := 15) rfl)) (hw _ (List.mem_of_getElem? (i := 48) rfl)) (by decide) (bytes := jdk_33_method_48_code) (maxL' := 2) (M := (rmtz l Z a0 hw _ hz _)) rfl (lenOf pd_0 rfl) (by decide) (W := 3) (Nat.le_of_eq rfl) (by decide) (k' := 0) (n' := 0) rfl rfl (by decide) (by decide) (argsL := [(.int z)]) (rest := [(.int (64 : Int32)), (.long (y * (-7046029254386353131 : Int64)))]) rfl (fun v2 h1 q3 => ?_)
  obtain ⟨rfl, rfl⟩ := q3
  refine G.cast (st' := [(.int (own_tz z)), (.int (64 : Int32)), (.long (y * (-7046029254386353131 : Int64)))]) ?_ rfl
  refine g_isub cx d9_17 ?_
  refine g_lushr cx d9_18 ?_
  refine g_l2i cx d9_19 ?_
  refine g_iloadN cx d9_20 rfl ?_
  refine g_iand cx d9_21 ?_
  refine g_istore cx d9_22 (Ls' := #[.val (.ref a), .val (.long y), .second, .val (.int (z - (1 : Int32))), .val (.int (((((((y * (-7046029254386353131 : Int64))).toUInt64 >>> (((64 : Int32) - (own_tz z)) &&& 0x3f).toInt64.toUInt64).toInt64)).toInt32) &&& (z - (1 : Int32))))]) rfl ?_
  exact loop t0 0 (own_hs z y) (by omega) hz0 (own_msk hz _).1 (own_msk hz _).2.1 (by rw [Nat.add_zero]; exact (Nat.mod_eq_of_lt (own_ixz (own_msk hz _).1 (own_msk hz _).2.1)).symm) (fun t' h' => absurd h' (Nat.not_lt_zero _)) (fun t' h' => absurd h' (Nat.not_lt_zero _))
theorem d8_0 : Dc prog_22_method_3_code 0 (.iconst 2) 1 1 := ⟨by decide +kernel, rfl⟩
theorem d8_1 : Dc prog_22_method_3_code 1 (.aload_n 0) 1 2 := ⟨by decide +kernel, rfl⟩
theorem d8_2 : Dc prog_22_method_3_code 2 (.getfield 34) 3 5 := ⟨by decide +kernel, rfl⟩
theorem d8_5 : Dc prog_22_method_3_code 5 (.iconst 1) 1 6 := ⟨by decide +kernel, rfl⟩
theorem d8_6 : Dc prog_22_method_3_code 6 (.iadd) 1 7 := ⟨by decide +kernel, rfl⟩
theorem d8_7 : Dc prog_22_method_3_code 7 (.imul) 1 8 := ⟨by decide +kernel, rfl⟩
theorem d8_8 : Dc prog_22_method_3_code 8 (.aload_n 0) 1 9 := ⟨by decide +kernel, rfl⟩
theorem d8_9 : Dc prog_22_method_3_code 9 (.getfield 30) 3 12 := ⟨by decide +kernel, rfl⟩
theorem d8_12 : Dc prog_22_method_3_code 12 (.arraylength) 1 13 := ⟨by decide +kernel, rfl⟩
theorem d8_13 : Bi prog_22_method_3_code 13 (Instr.if_icmp .le) 20 16 := ⟨7, by decide +kernel, by decide, by decide, rfl⟩
theorem d8_20 : Dc prog_22_method_3_code 20 (.aload_n 0) 1 21 := ⟨by decide +kernel, rfl⟩
theorem d8_21 : Dc prog_22_method_3_code 21 (.getfield 30) 3 24 := ⟨by decide +kernel, rfl⟩
theorem d8_24 : Dc prog_22_method_3_code 24 (.lload_n 1) 1 25 := ⟨by decide +kernel, rfl⟩
theorem pd_4 : parseMethodDescriptor "([JJ)I" = some ⟨[(.array .long), .long], some .int⟩ := by decide +kernel
theorem d8_25 : Dc prog_22_method_3_code 25 (.invokestatic 41) 3 28 := ⟨by decide +kernel, rfl⟩
theorem d8_28 : Dc prog_22_method_3_code 28 (.istore_n 3) 1 29 := ⟨by decide +kernel, rfl⟩
theorem d8_29 : Dc prog_22_method_3_code 29 (.aload_n 0) 1 30 := ⟨by decide +kernel, rfl⟩
theorem d8_30 : Dc prog_22_method_3_code 30 (.getfield 30) 3 33 := ⟨by decide +kernel, rfl⟩
theorem d8_33 : Dc prog_22_method_3_code 33 (.iload_n 3) 1 34 := ⟨by decide +kernel, rfl⟩
theorem d8_34 : Dc prog_22_method_3_code 34 (.laload) 1 35 := ⟨by decide +kernel, rfl⟩
theorem d8_35 : Dc prog_22_method_3_code 35 (.lload_n 1) 1 36 := ⟨by decide +kernel, rfl⟩
theorem d8_36 : Dc prog_22_method_3_code 36 (.lcmp) 1 37 := ⟨by decide +kernel, rfl⟩
theorem d8_37 : Bi prog_22_method_3_code 37 (Instr.ifCond .ne) 42 40 := ⟨5, by decide +kernel, by decide, by decide, rfl⟩
theorem d8_42 : Dc prog_22_method_3_code 42 (.aload_n 0) 1 43 := ⟨by decide +kernel, rfl⟩
theorem d8_43 : Dc prog_22_method_3_code 43 (.getfield 30) 3 46 := ⟨by decide +kernel, rfl⟩
theorem d8_46 : Dc prog_22_method_3_code 46 (.iload_n 3) 1 47 := ⟨by decide +kernel, rfl⟩
theorem d8_47 : Dc prog_22_method_3_code 47 (.lload_n 1) 1 48 := ⟨by decide +kernel, rfl⟩
theorem d8_48 : Dc prog_22_method_3_code 48 (.lastore) 1 49 := ⟨by decide +kernel, rfl⟩
theorem d8_49 : Dc prog_22_method_3_code 49 (.aload_n 0) 1 50 := ⟨by decide +kernel, rfl⟩
theorem d8_50 : Dc prog_22_method_3_code 50 (.dup) 1 51 := ⟨by decide +kernel, rfl⟩
theorem d8_51 : Dc prog_22_method_3_code 51 (.getfield 34) 3 54 := ⟨by decide +kernel, rfl⟩
theorem d8_54 : Dc prog_22_method_3_code 54 (.iconst 1) 1 55 := ⟨by decide +kernel, rfl⟩
theorem d8_55 : Dc prog_22_method_3_code 55 (.iadd) 1 56 := ⟨by decide +kernel, rfl⟩
theorem d8_56 : Dc prog_22_method_3_code 56 (.putfield 34) 3 59 := ⟨by decide +kernel, rfl⟩
theorem d8_59 : Dc prog_22_method_3_code 59 (.iconst 1) 1 60 := ⟨by decide +kernel, rfl⟩
theorem d8_60 : Dc prog_22_method_3_code 60 (.ireturn) 1 61 := ⟨by decide +kernel, rfl⟩
theorem d8_40 : Dc prog_22_method_3_code 40 (.iconst 0) 1 41 := ⟨by decide +kernel, rfl⟩
theorem d8_41 : Dc prog_22_method_3_code 41 (.ireturn) 1 42 := ⟨by decide +kernel, rfl⟩
theorem pn_rmad : plainName "com/example/gridsmith/gridsmith/LongSet" = true := by first | (simp [plainName, overriddenIn]; done) | decide +kernel
set_option maxRecDepth 65536 in
set_option maxHeartbeats 40000000 in
theorem rmad (l : Launch) (Z : State) (a0 : Array Value) (hw : ∀ d ∈ tables_1, d.before a0 Z = true) (y : Int64) (hy : y ≠ own_E) (S t : Addr) (z : Int32) (hz : own_sz z) (f : Nat → Int64) (cT : ClassId) (sz : Int32) (h0 : Heap) (O_S : ObS Z h0 S (.ref t) (.int sz)) (A_t : Arx Z h0 t cT .long z (own_lr z.toNatClampNeg f) (.long 0) "[J") (hsz : sz.toInt = ((own_ls f z.toNatClampNeg).length : Int)) (hn3 : (own_ls f z.toNatClampNeg).length ≤ 3) (P1 : own_pr z.toNatClampNeg (own_hn z) f) (P2 : own_ij z.toNatClampNeg f) (ne_S_t : S ≠ t) (g_S : Z.heap.size ≤ S) (g_t : Z.heap.size ≤ t) (OL : Old Z Z.heap.size h0) :
    Met l Z (⟨"com/example/gridsmith/gridsmith/LongSet", "add", "(J)Z"⟩ : MethodName) prog_22_method_3_code 4 (some .boolean) ({ frames := 2, cells := 0, slots := 0, locals := 32 } : Room) #[(.ref S), (.long y)] h0 (fun v h' => ∃ (r : Int32) (f' : Nat → Int64) (sz' : Int32), v = some (.int r) ∧ Keep h0 h' [S, t] ∧ ObS Z h' S (.ref t) (.int sz') ∧ Arx Z h' t cT .long z (own_lr z.toNatClampNeg f') (.long 0) "[J" ∧ own_pr z.toNatClampNeg (own_hn z) f' ∧ own_ij z.toNatClampNeg f' ∧ sz'.toInt = ((own_ls f' z.toNatClampNeg).length : Int) ∧ (∀ x, x ∈ own_ls f' z.toNatClampNeg ↔ x = y ∨ x ∈ own_ls f z.toNatClampNeg) ∧ (y ∈ own_ls f z.toNatClampNeg → (own_ls f' z.toNatClampNeg).length = (own_ls f z.toNatClampNeg).length) ∧ (y ∉ own_ls f z.toNatClampNeg → (own_ls f' z.toNatClampNeg).length = (own_ls f z.toNatClampNeg).length + 1)) := by
  refine met_of (Ls := #[.val (.ref S), .val (.long y), .second, .unset]) (plainFor_of_name pn_rmad) (fun m => by first | (simp [entryFrame, mkF, argsToLocals, Value.category]; done) | rfl) (fun p e s m below meth c cx => ?_)
  obtain ⟨t0, ht0, ht0E⟩ := own_hasE (f := f) (N := z.toNatClampNeg) (by have := own_szb hz; omega) (own_hn z y) (own_ixz (own_msk hz _).1 (own_msk hz _).2.1)
  have KK := Keep.refl h0 [S, t]
  refine g_iconst cx d8_0 (v := (2 : Int32)) rfl ?_
  refine g_aloadN cx d8_1 rfl rfl ?_
  refine g_getF cx d8_2 (host := "") (Or.inl (hw _ (List.mem_of_getElem? (i := 40) rfl))) Via.refl O_S.2.2 ?_
  refine g_iconst cx d8_5 (v := (1 : Int32)) rfl ?_
  refine g_iadd cx d8_6 ?_
  refine g_imul cx d8_7 ?_
  refine g_aloadN cx d8_8 rfl rfl ?_
  refine g_getF cx d8_9 (host := "") (Or.inl (hw _ (List.mem_of_getElem? (i := 31) rfl))) Via.refl O_S.2.1 ?_
  refine g_arraylength cx d8_12 A_t.1 ?_
  refine g_icmp_le cx d8_13 (fun hc13 => ?_) (fun q => absurd q (fun q => own_room hz hsz hn3 q))
  refine g_aloadN cx d8_20 rfl rfl ?_
  refine g_getF cx d8_21 (host := "") (Or.inl (hw _ (List.mem_of_getElem? (i := 31) rfl))) Via.refl O_S.2.1 ?_
  refine g_lloadN cx d8_24 rfl ?_
  refine g_static cx (y := (⟨"com/example/gridsmith/gridsmith/LongSet", "find", "([JJ)I"⟩ : MethodName)) d8_25 (hw _ (List.mem_of_getElem? (i := 42) rfl)) (hw _ (List.mem_of_getElem? (i := 43) rfl)) (hw _ (List.mem_of_getElem? (i := 2) rfl)) (hw _ (List.mem_of_getElem? (i := 44) rfl)) (by decide) (bytes := prog_22_method_9_code) (maxL' := 5) (M := (rmfi l Z a0 hw t z hz y f cT t0 ht0 ht0E _ A_t)) rfl (lenOf pd_4 rfl) (by decide) (W := 0) (Nat.le_of_eq rfl) (by decide) (k' := 0) (n' := 0) rfl rfl (by decide) (by decide) (argsL := [(.ref t), (.long y)]) (rest := []) rfl (fun v2 h1 q3 => ?_)
  obtain ⟨r, tt, rfl, rfl, r0, r1, htt, hr, hfr, hE, hY⟩ := q3
  refine G.cast (st' := [(.int r)]) ?_ rfl
  refine g_istoreN cx d8_28 (Ls' := #[.val (.ref S), .val (.long y), .second, .val (.int r)]) rfl ?_
  refine g_aloadN cx d8_29 rfl rfl ?_
  refine g_getF cx d8_30 (host := "") (Or.inl (hw _ (List.mem_of_getElem? (i := 31) rfl))) Via.refl O_S.2.1 ?_
  refine g_iloadN cx d8_33 rfl ?_
  refine g_laload cx d8_34 A_t.1 ⟨r0, r1⟩ (v := .long (f r.toNatClampNeg)) (own_lr_get _ (own_ixz r0 r1) _) ?_
  refine g_lloadN cx d8_35 rfl ?_
  refine g_lif_ne cx d8_36 d8_37 (fun hc37 => ?_) (fun hc37 => ?_)
  · refine g_aloadN cx d8_42 rfl rfl ?_
    refine g_getF cx d8_43 (host := "") (Or.inl (hw _ (List.mem_of_getElem? (i := 31) rfl))) Via.refl O_S.2.1 ?_
    refine g_iloadN cx d8_46 rfl ?_
    refine g_lloadN cx d8_47 rfl ?_
    refine g_lastore cx d8_48 A_t ⟨r0, r1⟩ (by rw [own_lr_len]; exact own_ixz r0 r1) g_t (fun h4 W5 AA6 => ?_)
    have O_S := O_S.oth W5 ne_S_t
    have A_t := AA6
    have OL := OL.wr W5 g_t
    have KK := KK.wr W5 (Or.inl (List.mem_of_getElem? (i := 1) rfl))
    rw [own_lr_set] at A_t
    have hfE : f r.toNatClampNeg = own_E := hfr.resolve_right hc37
    refine g_aloadN cx d8_49 rfl rfl ?_
    refine g_dup cx d8_50 rfl ?_
    refine g_getF cx d8_51 (host := "") (Or.inl (hw _ (List.mem_of_getElem? (i := 40) rfl))) Via.refl O_S.2.2 ?_
    refine g_iconst cx d8_54 (v := (1 : Int32)) rfl ?_
    refine g_iadd cx d8_55 ?_
    refine g_putF cx d8_56 (host := "") (Or.inl (hw _ (List.mem_of_getElem? (i := 40) rfl))) Via.refl O_S.2.2 O_S.1 (Or.inl (hw _ (List.mem_of_getElem? (i := 41) rfl))) (hw _ (List.mem_of_getElem? (i := 1) rfl)) (ty := .int) (by decide) rfl rfl g_S (fun h7 W8 => ?_)
    have O_S := O_S.put2 hw W8
    have A_t := A_t.other W8 (Ne.symm ne_S_t)
    have OL := OL.wr W8 g_S
    have KK := KK.wr W8 (Or.inl (List.mem_of_getElem? (i := 0) rfl))
    refine g_iconst cx d8_59 (v := (1 : Int32)) rfl ?_
    refine g_retZ cx d8_60 rfl rfl (by decide) (by decide) ?_
    have hab := own_absent P1 htt hr hfE hY hy
    have hnm : y ∉ own_ls f z.toNatClampNeg := fun q => by
      obtain ⟨-, j, hj, e⟩ := own_mem_ls.mp q
      exact hab j hj e
    have hl := own_ls_upd hfE hy z.toNatClampNeg (own_ixz r0 r1)
    exact ⟨_, own_upd f r.toNatClampNeg y, _, rfl, KK, O_S, A_t, own_pr_upd P1 hy htt hr hE, own_ij_upd P2 hab, by rw [hl]; exact own_sz1 hsz hn3, own_mem_upd (own_ixz r0 r1) hfE hy, fun q => absurd q hnm, fun _ => hl⟩
  · refine g_iconst cx d8_40 (v := (0 : Int32)) rfl ?_
    refine g_retZ cx d8_41 rfl rfl (by decide) (by decide) ?_
    have hm : y ∈ own_ls f z.toNatClampNeg := own_mem_ls.mpr ⟨hy, _, own_ixz r0 r1, hc37⟩
    exact ⟨_, f, sz, rfl, KK, O_S, A_t, P1, P2, hsz, fun x => ⟨Or.inr, fun q => q.elim (fun q => by rw [q]; exact hm) id⟩, fun _ => rfl, fun q => absurd hm q⟩
theorem d12_0 : Dc prog_22_method_5_code 0 (.aload_n 0) 1 1 := ⟨by decide +kernel, rfl⟩
theorem d12_1 : Dc prog_22_method_5_code 1 (.getfield 34) 3 4 := ⟨by decide +kernel, rfl⟩
theorem d12_4 : Dc prog_22_method_5_code 4 (.ireturn) 1 5 := ⟨by decide +kernel, rfl⟩
theorem pn_rmsg : plainName "com/example/gridsmith/gridsmith/LongSet" = true := by first | (simp [plainName, overriddenIn]; done) | decide +kernel
set_option maxRecDepth 65536 in
set_option maxHeartbeats 40000000 in
theorem rmsg (l : Launch) (Z : State) (a0 : Array Value) (hw : ∀ d ∈ tables_1, d.before a0 Z = true) (S t : Addr) (sz : Int32) (h0 : Heap) (O_S : ObS Z h0 S (.ref t) (.int sz)) :
    Met l Z (⟨"com/example/gridsmith/gridsmith/LongSet", "size", "()I"⟩ : MethodName) prog_22_method_5_code 1 (some .int) ({ frames := 0, cells := 0, slots := 0, locals := 0 } : Room) #[(.ref S)] h0 (fun v h' => v = some (.int sz) ∧ h0 = h') := by
  refine met_of (Ls := #[.val (.ref S)]) (plainFor_of_name pn_rmsg) (fun m => by first | (simp [entryFrame, mkF, argsToLocals, Value.category]; done) | rfl) (fun p e s m below meth c cx => ?_)
  refine g_aloadN cx d12_0 rfl rfl ?_
  refine g_getF cx d12_1 (host := "") (Or.inl (hw _ (List.mem_of_getElem? (i := 40) rfl))) Via.refl O_S.2.2 ?_
  refine g_retI cx d12_4 rfl (by decide) (by decide) ?_
  exact ⟨rfl, rfl⟩
theorem own_js {f : Nat → Int64} {N i n : Nat} (h : (own_ls f N).length = n) (hi : i < N) (hE : ¬ f i = own_E) : (own_ls f i).length < n := by
  have := own_ls_le f (show i + 1 ≤ N by omega)
  rw [own_ls_succ, if_neg hE, List.length_append, h] at this
  simp only [List.length_cons, List.length_nil] at this
  omega
theorem own_jlt {sz j : Int32} {n m : Nat} (hs : sz.toInt = (n : Int)) (hj : j.toInt = (m : Int)) (h : m < n) : ¬ j < (0 : Int32) ∧ j < sz := by
  have e0 : (0 : Int32).toInt = 0 := rfl
  simp only [Int32.lt_iff_toInt_lt]
  omega
theorem own_iz {z i : Int32} (h : own_sz z) (i0 : ¬ i < (0 : Int32)) (i1 : i < z) : (i + (1 : Int32)).toInt ≤ z.toInt := by
  rw [(own_up h i0 i1).2.2]; have := Int32.lt_iff_toInt_lt.mp i1; omega
theorem own_eqz {z i : Int32} (i1 : ¬ i < z) (hi : i.toInt ≤ z.toInt) : i.toNatClampNeg = z.toNatClampNeg := by
  have : ¬ i.toInt < z.toInt := fun q => i1 (Int32.lt_iff_toInt_lt.mpr q)
  simp only [Int32.toNatClampNeg]; omega
theorem own_jn {j : Int32} {m : Nat} (hj : j.toInt = (m : Int)) : j.toNatClampNeg = m := by simp only [Int32.toNatClampNeg]; omega
theorem own_ju {j : Int32} {m : Nat} (hj : j.toInt = (m : Int)) (h : m < 4) : (j + (1 : Int32)).toInt = ((m + 1 : Nat) : Int) := by
  have e1 : (1 : Int32).toInt = 1 := rfl
  have w := c_iadd j (1 : Int32)
  have w2 := rng32 (j + (1 : Int32))
  omega
theorem d11_21 : Dc prog_22_method_7_code 21 (.iload 5) 2 23 := ⟨by decide +kernel, rfl⟩
theorem d11_23 : Dc prog_22_method_7_code 23 (.iload 4) 2 25 := ⟨by decide +kernel, rfl⟩
theorem d11_25 : Bi prog_22_method_7_code 25 (Instr.if_icmp .ge) 57 28 := ⟨32, by decide +kernel, by decide, by decide, rfl⟩
theorem d11_57 : Dc prog_22_method_7_code 57 (.aload_n 1) 1 58 := ⟨by decide +kernel, rfl⟩
theorem d11_58 : Dc prog_22_method_7_code 58 (.areturn) 1 59 := ⟨by decide +kernel, rfl⟩
theorem d11_28 : Dc prog_22_method_7_code 28 (.aload_n 3) 1 29 := ⟨by decide +kernel, rfl⟩
theorem d11_29 : Dc prog_22_method_7_code 29 (.iload 5) 2 31 := ⟨by decide +kernel, rfl⟩
theorem d11_31 : Dc prog_22_method_7_code 31 (.laload) 1 32 := ⟨by decide +kernel, rfl⟩
theorem d11_32 : Dc prog_22_method_7_code 32 (.lstore 6) 2 34 := ⟨by decide +kernel, rfl⟩
theorem d11_34 : Dc prog_22_method_7_code 34 (.lload 6) 2 36 := ⟨by decide +kernel, rfl⟩
theorem d11_36 : Dc prog_22_method_7_code 36 (.ldc2_w 45) 3 39 := ⟨by decide +kernel, rfl⟩
theorem d11_39 : Dc prog_22_method_7_code 39 (.lcmp) 1 40 := ⟨by decide +kernel, rfl⟩
theorem d11_40 : Bi prog_22_method_7_code 40 (Instr.ifCond .eq) 51 43 := ⟨11, by decide +kernel, by decide, by decide, rfl⟩
theorem d11_51 : Dc prog_22_method_7_code 51 (.iinc 5 1) 3 54 := ⟨by decide +kernel, rfl⟩
theorem d11_54 : Bi prog_22_method_7_code 54 (Instr.goto) 21 57 := ⟨(-33), by decide +kernel, by decide, by decide, rfl⟩
theorem d11_43 : Dc prog_22_method_7_code 43 (.aload_n 1) 1 44 := ⟨by decide +kernel, rfl⟩
theorem d11_44 : Dc prog_22_method_7_code 44 (.iload_n 2) 1 45 := ⟨by decide +kernel, rfl⟩
theorem d11_45 : Dc prog_22_method_7_code 45 (.iinc 2 1) 3 48 := ⟨by decide +kernel, rfl⟩
theorem d11_48 : Dc prog_22_method_7_code 48 (.lload 6) 2 50 := ⟨by decide +kernel, rfl⟩
theorem d11_50 : Dc prog_22_method_7_code 50 (.lastore) 1 51 := ⟨by decide +kernel, rfl⟩
theorem d11_0 : Dc prog_22_method_7_code 0 (.aload_n 0) 1 1 := ⟨by decide +kernel, rfl⟩
theorem d11_1 : Dc prog_22_method_7_code 1 (.getfield 34) 3 4 := ⟨by decide +kernel, rfl⟩
theorem d11_4 : Dc prog_22_method_7_code 4 (.newarray .long) 2 6 := ⟨by decide +kernel, rfl⟩
theorem d11_6 : Dc prog_22_method_7_code 6 (.astore_n 1) 1 7 := ⟨by decide +kernel, rfl⟩
theorem d11_7 : Dc prog_22_method_7_code 7 (.iconst 0) 1 8 := ⟨by decide +kernel, rfl⟩
theorem d11_8 : Dc prog_22_method_7_code 8 (.istore_n 2) 1 9 := ⟨by decide +kernel, rfl⟩
theorem d11_9 : Dc prog_22_method_7_code 9 (.aload_n 0) 1 10 := ⟨by decide +kernel, rfl⟩
theorem d11_10 : Dc prog_22_method_7_code 10 (.getfield 30) 3 13 := ⟨by decide +kernel, rfl⟩
theorem d11_13 : Dc prog_22_method_7_code 13 (.astore_n 3) 1 14 := ⟨by decide +kernel, rfl⟩
theorem d11_14 : Dc prog_22_method_7_code 14 (.aload_n 3) 1 15 := ⟨by decide +kernel, rfl⟩
theorem d11_15 : Dc prog_22_method_7_code 15 (.arraylength) 1 16 := ⟨by decide +kernel, rfl⟩
theorem d11_16 : Dc prog_22_method_7_code 16 (.istore 4) 2 18 := ⟨by decide +kernel, rfl⟩
theorem d11_18 : Dc prog_22_method_7_code 18 (.iconst 0) 1 19 := ⟨by decide +kernel, rfl⟩
theorem d11_19 : Dc prog_22_method_7_code 19 (.istore 5) 2 21 := ⟨by decide +kernel, rfl⟩
theorem pn_rmta : plainName "com/example/gridsmith/gridsmith/LongSet" = true := by first | (simp [plainName, overriddenIn]; done) | decide +kernel
set_option maxRecDepth 65536 in
set_option maxHeartbeats 40000000 in
theorem rmta (l : Launch) (Z : State) (a0 : Array Value) (hw : ∀ d ∈ tables_1, d.before a0 Z = true) (nn : Nat) (S t : Addr) (z : Int32) (hz : own_sz z) (f : Nat → Int64) (cT : ClassId) (sz : Int32) (h0 : Heap) (O_S : ObS Z h0 S (.ref t) (.int sz)) (A_t : Arx Z h0 t cT .long z (own_lr z.toNatClampNeg f) (.long 0) "[J") (hsz : sz.toInt = (nn : Int)) (hln : (own_ls f z.toNatClampNeg).length = nn) (hn4 : nn ≤ 4) (ne_S_t : S ≠ t) (OL : Old Z Z.heap.size h0) :
    Met l Z (⟨"com/example/gridsmith/gridsmith/LongSet", "toArray", "()[J"⟩ : MethodName) prog_22_method_7_code 8 (some (.array .long)) ({ frames := 0, cells := 1, slots := 4, locals := 0 } : Room) #[(.ref S)] h0 (fun v h' => ∃ o cO, v = some (.ref o) ∧ Keep h0 h' [] ∧ h0.size ≤ o ∧ Arx Z h' o cO .long sz ((own_ls f z.toNatClampNeg).map .long) (.long 0) "[J") := by
  refine met_of (Ls := #[.val (.ref S), .unset, .unset, .unset, .unset, .unset, .unset, .unset]) (plainFor_of_name pn_rmta) (fun m => by first | (simp [entryFrame, mkF, argsToLocals, Value.category]; done) | rfl) (fun p e s m below meth c cx => ?_)
  have KK := Keep.refl h0 []
  refine g_aloadN cx d11_0 rfl rfl ?_
  refine g_getF cx d11_1 (host := "") (Or.inl (hw _ (List.mem_of_getElem? (i := 40) rfl))) Via.refl O_S.2.2 ?_
  refine g_newarray cx (ad := "[J") (by decide) d11_4 (hw _ (List.mem_of_getElem? (i := 25) rfl)) (own_jlt (sz := (5 : Int32)) (n := 5) rfl hsz (by omega)).1 (cap := 4) (by rw [own_jn hsz]; exact hn4) (by decide) (k' := 1) (n' := 4) rfl rfl (by decide) (by decide) (fun h1 b2 cA3 gb4 E5 X6 => ?_)
  have ne_S_b2 : S ≠ b2 := Nat.ne_of_lt (by rw [gb4]; exact O_S.lt)
  have ne_t_b2 : t ≠ b2 := Nat.ne_of_lt (by rw [gb4]; exact A_t.lt)
  have g_b2 : Z.heap.size ≤ b2 := by rw [gb4]; exact OL.2.1
  have sz_b2 := (by rw [gb4]; exact KK.1 : h0.size ≤ b2)
  have O_S := O_S.ext E5
  have A_t := A_t.ext E5
  have OL := OL.ext E5
  have KK := KK.ext E5
  have A_b2 := X6
  refine g_astoreN cx d11_6 rfl (Ls' := #[.val (.ref S), .val (.ref b2), .unset, .unset, .unset, .unset, .unset, .unset]) rfl ?_
  refine g_iconst cx d11_7 (v := (0 : Int32)) rfl ?_
  refine g_istoreN cx d11_8 (Ls' := #[.val (.ref S), .val (.ref b2), .val (.int (0 : Int32)), .unset, .unset, .unset, .unset, .unset]) rfl ?_
  refine g_aloadN cx d11_9 rfl rfl ?_
  refine g_getF cx d11_10 (host := "") (Or.inl (hw _ (List.mem_of_getElem? (i := 31) rfl))) Via.refl O_S.2.1 ?_
  refine g_astoreN cx d11_13 rfl (Ls' := #[.val (.ref S), .val (.ref b2), .val (.int (0 : Int32)), .val (.ref t), .unset, .unset, .unset, .unset]) rfl ?_
  refine g_aloadN cx d11_14 rfl rfl ?_
  refine g_arraylength cx d11_15 A_t.1 ?_
  refine g_istore cx d11_16 (Ls' := #[.val (.ref S), .val (.ref b2), .val (.int (0 : Int32)), .val (.ref t), .val (.int z), .unset, .unset, .unset]) rfl ?_
  refine g_iconst cx d11_18 (v := (0 : Int32)) rfl ?_
  refine g_istore cx d11_19 (Ls' := #[.val (.ref S), .val (.ref b2), .val (.int (0 : Int32)), .val (.ref t), .val (.int z), .val (.int (0 : Int32)), .unset, .unset]) rfl ?_
  have g_o := g_b2
  have so := sz_b2
  have ne_t_o := ne_t_b2
  revert A_b2 g_o so ne_t_o
  intro A_o g_o so ne_t_o
  have loop : ∀ (fu : Nat) (i j : Int32) (h : Heap) (l6 l7 : Slot), ((l6 = .unset ∧ l7 = .unset) ∨ (∃ q6, l6 = .val (.long q6) ∧ l7 = .second)) → z.toInt - i.toInt ≤ (fu : Nat) → ¬ i < (0 : Int32) → i.toInt ≤ z.toInt → j.toInt = ((own_ls f i.toNatClampNeg).length : Int) → Keep h0 h [] → Arx Z h t cT .long z (own_lr z.toNatClampNeg f) (.long 0) "[J" → Arx Z h b2 cA3 .long sz (own_pt (own_ls f i.toNatClampNeg) nn) (.long 0) "[J" → G p l e ({ frames := 0, cells := 1, slots := 4, locals := 0 } : Room) s m #[.ref S] below meth c Z.heap.size (fun v h' => ∃ o cO, v = some (.ref o) ∧ Keep h0 h' [] ∧ h0.size ≤ o ∧ Arx Z h' o cO .long sz ((own_ls f z.toNatClampNeg).map .long) (.long 0) "[J") h 1 4 21 #[.val (.ref S), .val (.ref b2), .val (.int j), .val (.ref t), .val (.int z), .val (.int i), l6, l7] [] := by
    intro fu
    induction fu with
    | zero =>
      intro i j h l6 l7 hl hfu i0 hiz hj KK A_t A_o
      rcases hl with ⟨rfl, rfl⟩ | ⟨q6, rfl, rfl⟩
      · refine g_iload cx d11_21 rfl ?_
        refine g_iload cx d11_23 rfl ?_
        refine g_icmp_ge cx d11_25 (fun hc25 => ?_) (fun q => absurd q (fun q => own_d0 hfu q))
        refine g_aloadN cx d11_57 rfl rfl ?_
        refine g_retA cx d11_58 (t := (.array .long)) rfl rfl rfl rfl (by decide) (by decide) ?_
        refine ⟨b2, cA3, rfl, KK, so, ?_⟩
        have ei : own_ls f i.toNatClampNeg = own_ls f z.toNatClampNeg := by rw [own_eqz hc25 hiz]
        rw [ei] at A_o
        rw [← own_pt_end, hln]
        exact A_o
      · refine g_iload cx d11_21 rfl ?_
        refine g_iload cx d11_23 rfl ?_
        refine g_icmp_ge cx d11_25 (fun hc25 => ?_) (fun q => absurd q (fun q => own_d0 hfu q))
        refine g_aloadN cx d11_57 rfl rfl ?_
        refine g_retA cx d11_58 (t := (.array .long)) rfl rfl rfl rfl (by decide) (by decide) ?_
        refine ⟨b2, cA3, rfl, KK, so, ?_⟩
        have ei : own_ls f i.toNatClampNeg = own_ls f z.toNatClampNeg := by rw [own_eqz hc25 hiz]
        rw [ei] at A_o
        rw [← own_pt_end, hln]
        exact A_o
    | succ fu ih =>
      intro i j h l6 l7 hl hfu i0 hiz hj KK A_t A_o
      rcases hl with ⟨rfl, rfl⟩ | ⟨q6, rfl, rfl⟩
      · refine g_iload cx d11_21 rfl ?_
        refine g_iload cx d11_23 rfl ?_
        refine g_icmp_ge cx d11_25 (fun hc25 => ?_) (fun hc25 => ?_)
        · refine g_aloadN cx d11_57 rfl rfl ?_
          refine g_retA cx d11_58 (t := (.array .long)) rfl rfl rfl rfl (by decide) (by decide) ?_
          refine ⟨b2, cA3, rfl, KK, so, ?_⟩
          have ei : own_ls f i.toNatClampNeg = own_ls f z.toNatClampNeg := by rw [own_eqz hc25 hiz]
          rw [ei] at A_o
          rw [← own_pt_end, hln]
          exact A_o
        · refine g_aloadN cx d11_28 rfl rfl ?_
          refine g_iload cx d11_29 rfl ?_
          refine g_laload cx d11_31 A_t.1 ⟨i0, hc25⟩ (v := .long (f i.toNatClampNeg)) (own_lr_get _ (own_ixz i0 hc25) _) ?_
          refine g_lstore cx d11_32 (Ls' := #[.val (.ref S), .val (.ref b2), .val (.int j), .val (.ref t), .val (.int z), .val (.int i), .val (.long (f i.toNatClampNeg)), .second]) rfl ?_
          refine g_lload cx d11_34 rfl ?_
          refine g_ldcJ cx d11_36 (hw _ (List.mem_of_getElem? (i := 26) rfl)) ?_
          refine g_lif_eq cx d11_39 d11_40 (fun hc40 => ?_) (fun hc40 => ?_)
          · refine g_iinc cx d11_51 rfl (v := (1 : Int32)) rfl (Ls' := #[.val (.ref S), .val (.ref b2), .val (.int j), .val (.ref t), .val (.int z), .val (.int (i + (1 : Int32))), .val (.long (f i.toNatClampNeg)), .second]) rfl ?_
            refine g_goto cx d11_54 ?_
            refine ih (i + (1 : Int32)) j _ _ _ (Or.inr ⟨_, rfl, rfl⟩) (own_d1 hz i0 hc25 hfu) (own_up hz i0 hc25).2.1 (own_iz hz i0 hc25) ?_ KK A_t ?_
            · rw [(own_up hz i0 hc25).1, own_ls_succ, if_pos (show f i.toNatClampNeg = own_E from hc40)]; exact hj
            · rw [(own_up hz i0 hc25).1, own_ls_succ, if_pos (show f i.toNatClampNeg = own_E from hc40)]; exact A_o
          · refine g_aloadN cx d11_43 rfl rfl ?_
            refine g_iloadN cx d11_44 rfl ?_
            refine g_iinc cx d11_45 rfl (v := (1 : Int32)) rfl (Ls' := #[.val (.ref S), .val (.ref b2), .val (.int (j + (1 : Int32))), .val (.ref t), .val (.int z), .val (.int i), .val (.long (f i.toNatClampNeg)), .second]) rfl ?_
            refine g_lload cx d11_48 rfl ?_
            have hjs := own_js hln (own_ixz i0 hc25) hc40
            refine g_lastore cx d11_50 A_o (own_jlt hsz hj hjs) (by rw [own_pt_len (Nat.le_of_lt hjs), own_jn hj]; exact hjs) g_o (fun h1 W2 AA3 => ?_)
            have A_t := A_t.other W2 ne_t_o
            have KK := KK.wr W2 (Or.inr so)
            rw [own_jn hj, own_pt_set hjs] at AA3
            have A_o := AA3
            refine g_iinc cx d11_51 rfl (v := (1 : Int32)) rfl (Ls' := #[.val (.ref S), .val (.ref b2), .val (.int (j + (1 : Int32))), .val (.ref t), .val (.int z), .val (.int (i + (1 : Int32))), .val (.long (f i.toNatClampNeg)), .second]) rfl ?_
            refine g_goto cx d11_54 ?_
            refine ih (i + (1 : Int32)) (j + (1 : Int32)) _ _ _ (Or.inr ⟨_, rfl, rfl⟩) (own_d1 hz i0 hc25 hfu) (own_up hz i0 hc25).2.1 (own_iz hz i0 hc25) ?_ KK A_t ?_
            · rw [(own_up hz i0 hc25).1, own_ls_succ, if_neg (show ¬ f i.toNatClampNeg = own_E from hc40), List.length_append]; exact own_ju hj (by omega)
            · rw [(own_up hz i0 hc25).1, own_ls_succ, if_neg (show ¬ f i.toNatClampNeg = own_E from hc40)]; exact A_o
      · refine g_iload cx d11_21 rfl ?_
        refine g_iload cx d11_23 rfl ?_
        refine g_icmp_ge cx d11_25 (fun hc25 => ?_) (fun hc25 => ?_)
        · refine g_aloadN cx d11_57 rfl rfl ?_
          refine g_retA cx d11_58 (t := (.array .long)) rfl rfl rfl rfl (by decide) (by decide) ?_
          refine ⟨b2, cA3, rfl, KK, so, ?_⟩
          have ei : own_ls f i.toNatClampNeg = own_ls f z.toNatClampNeg := by rw [own_eqz hc25 hiz]
          rw [ei] at A_o
          rw [← own_pt_end, hln]
          exact A_o
        · refine g_aloadN cx d11_28 rfl rfl ?_
          refine g_iload cx d11_29 rfl ?_
          refine g_laload cx d11_31 A_t.1 ⟨i0, hc25⟩ (v := .long (f i.toNatClampNeg)) (own_lr_get _ (own_ixz i0 hc25) _) ?_
          refine g_lstore cx d11_32 (Ls' := #[.val (.ref S), .val (.ref b2), .val (.int j), .val (.ref t), .val (.int z), .val (.int i), .val (.long (f i.toNatClampNeg)), .second]) rfl ?_
          refine g_lload cx d11_34 rfl ?_
          refine g_ldcJ cx d11_36 (hw _ (List.mem_of_getElem? (i := 26) rfl)) ?_
          refine g_lif_eq cx d11_39 d11_40 (fun hc40 => ?_) (fun hc40 => ?_)
          · refine g_iinc cx d11_51 rfl (v := (1 : Int32)) rfl (Ls' := #[.val (.ref S), .val (.ref b2), .val (.int j), .val (.ref t), .val (.int z), .val (.int (i + (1 : Int32))), .val (.long (f i.toNatClampNeg)), .second]) rfl ?_
            refine g_goto cx d11_54 ?_
            refine ih (i + (1 : Int32)) j _ _ _ (Or.inr ⟨_, rfl, rfl⟩) (own_d1 hz i0 hc25 hfu) (own_up hz i0 hc25).2.1 (own_iz hz i0 hc25) ?_ KK A_t ?_
            · rw [(own_up hz i0 hc25).1, own_ls_succ, if_pos (show f i.toNatClampNeg = own_E from hc40)]; exact hj
            · rw [(own_up hz i0 hc25).1, own_ls_succ, if_pos (show f i.toNatClampNeg = own_E from hc40)]; exact A_o
          · refine g_aloadN cx d11_43 rfl rfl ?_
            refine g_iloadN cx d11_44 rfl ?_
            refine g_iinc cx d11_45 rfl (v := (1 : Int32)) rfl (Ls' := #[.val (.ref S), .val (.ref b2), .val (.int (j + (1 : Int32))), .val (.ref t), .val (.int z), .val (.int i), .val (.long (f i.toNatClampNeg)), .second]) rfl ?_
            refine g_lload cx d11_48 rfl ?_
            have hjs := own_js hln (own_ixz i0 hc25) hc40
            refine g_lastore cx d11_50 A_o (own_jlt hsz hj hjs) (by rw [own_pt_len (Nat.le_of_lt hjs), own_jn hj]; exact hjs) g_o (fun h4 W5 AA6 => ?_)
            have A_t := A_t.other W5 ne_t_o
            have KK := KK.wr W5 (Or.inr so)
            rw [own_jn hj, own_pt_set hjs] at AA6
            have A_o := AA6
            refine g_iinc cx d11_51 rfl (v := (1 : Int32)) rfl (Ls' := #[.val (.ref S), .val (.ref b2), .val (.int (j + (1 : Int32))), .val (.ref t), .val (.int z), .val (.int (i + (1 : Int32))), .val (.long (f i.toNatClampNeg)), .second]) rfl ?_
            refine g_goto cx d11_54 ?_
            refine ih (i + (1 : Int32)) (j + (1 : Int32)) _ _ _ (Or.inr ⟨_, rfl, rfl⟩) (own_d1 hz i0 hc25 hfu) (own_up hz i0 hc25).2.1 (own_iz hz i0 hc25) ?_ KK A_t ?_
            · rw [(own_up hz i0 hc25).1, own_ls_succ, if_neg (show ¬ f i.toNatClampNeg = own_E from hc40), List.length_append]; exact own_ju hj (by omega)
            · rw [(own_up hz i0 hc25).1, own_ls_succ, if_neg (show ¬ f i.toNatClampNeg = own_E from hc40)]; exact A_o
  exact loop 128 (0 : Int32) (0 : Int32) _ .unset .unset (Or.inl ⟨rfl, rfl⟩) (by have := own_szb hz; have e0 : (0 : Int32).toInt = 0 := rfl; omega) (by decide) (by have := own_szb hz; have e0 : (0 : Int32).toInt = 0 := rfl; omega) rfl KK A_t (A_o.pad (own_pt0 _))
theorem d13_0 : Dc method_3_code 0 (.aload_n 0) 1 1 := ⟨by decide +kernel, rfl⟩
theorem d13_1 : Dc method_3_code 1 (.arraylength) 1 2 := ⟨by decide +kernel, rfl⟩
theorem d13_2 : Bi method_3_code 2 (Instr.ifCond .le) 13 5 := ⟨11, by decide +kernel, by decide, by decide, rfl⟩
theorem d13_13 : Dc method_3_code 13 (.aload_n 0) 1 14 := ⟨by decide +kernel, rfl⟩
theorem d13_14 : Dc method_3_code 14 (.arraylength) 1 15 := ⟨by decide +kernel, rfl⟩
theorem d13_15 : Dc method_3_code 15 (.iconst 1) 1 16 := ⟨by decide +kernel, rfl⟩
theorem d13_16 : Bi method_3_code 16 (Instr.if_icmp .le) 27 19 := ⟨11, by decide +kernel, by decide, by decide, rfl⟩
theorem d13_27 : Dc method_3_code 27 (.aload_n 0) 1 28 := ⟨by decide +kernel, rfl⟩
theorem d13_28 : Dc method_3_code 28 (.arraylength) 1 29 := ⟨by decide +kernel, rfl⟩
theorem d13_29 : Dc method_3_code 29 (.iconst 2) 1 30 := ⟨by decide +kernel, rfl⟩
theorem d13_30 : Bi method_3_code 30 (Instr.if_icmp .le) 41 33 := ⟨11, by decide +kernel, by decide, by decide, rfl⟩
theorem d13_41 : Dc method_3_code 41 (.aload_n 0) 1 42 := ⟨by decide +kernel, rfl⟩
theorem d13_42 : Dc method_3_code 42 (.arraylength) 1 43 := ⟨by decide +kernel, rfl⟩
theorem d13_43 : Dc method_3_code 43 (.iconst 3) 1 44 := ⟨by decide +kernel, rfl⟩
theorem d13_44 : Bi method_3_code 44 (Instr.if_icmp .le) 59 47 := ⟨15, by decide +kernel, by decide, by decide, rfl⟩
theorem d13_59 : Dc method_3_code 59 (.iconst 0) 1 60 := ⟨by decide +kernel, rfl⟩
theorem d13_60 : Dc method_3_code 60 (.ireturn) 1 61 := ⟨by decide +kernel, rfl⟩
theorem pn_rmhas0 : plainName "com/example/gridsmith/gridsmith/LongSetToArrayPinLaw" = true := by first | (simp [plainName, overriddenIn]; done) | decide +kernel
set_option maxRecDepth 65536 in
set_option maxHeartbeats 40000000 in
theorem rmhas0 (l : Launch) (Z : State) (a0 : Array Value) (hw : ∀ d ∈ tables_1, d.before a0 Z = true) (a : Addr) (cA : ClassId) (x0 : Int64) (h0 : Heap) (A_a : Arx Z h0 a cA .long (0 : Int32) [] (.long (0 : Int64)) "[J") :
    Met l Z (⟨"com/example/gridsmith/gridsmith/LongSetToArrayPinLaw", "has", "([JJ)Z"⟩ : MethodName) method_3_code 3 (some .boolean) ({ frames := 0, cells := 0, slots := 0, locals := 0 } : Room) #[(.ref a), (.long x0)] h0 (fun v h' => v = some (.int (own_mem [] x0)) ∧ h0 = h') := by
  refine met_of (Ls := #[.val (.ref a), .val (.long x0), .second]) (plainFor_of_name pn_rmhas0) (fun m => by first | (simp [entryFrame, mkF, argsToLocals, Value.category]; done) | rfl) (fun p e s m below meth c cx => ?_)
  refine g_aloadN cx d13_0 rfl rfl ?_
  refine g_arraylength cx d13_1 A_a.1 ?_
  refine g_if_le cx d13_2 (fun hc2 => ?_) (fun q => absurd q (fun q => by revert q; decide))
  refine g_aloadN cx d13_13 rfl rfl ?_
  refine g_arraylength cx d13_14 A_a.1 ?_
  refine g_iconst cx d13_15 (v := (1 : Int32)) rfl ?_
  refine g_icmp_le cx d13_16 (fun hc16 => ?_) (fun q => absurd q (fun q => by revert q; decide))
  refine g_aloadN cx d13_27 rfl rfl ?_
  refine g_arraylength cx d13_28 A_a.1 ?_
  refine g_iconst cx d13_29 (v := (2 : Int32)) rfl ?_
  refine g_icmp_le cx d13_30 (fun hc30 => ?_) (fun q => absurd q (fun q => by revert q; decide))
  refine g_aloadN cx d13_41 rfl rfl ?_
  refine g_arraylength cx d13_42 A_a.1 ?_
  refine g_iconst cx d13_43 (v := (3 : Int32)) rfl ?_
  refine g_icmp_le cx d13_44 (fun hc44 => ?_) (fun q => absurd q (fun q => by revert q; decide))
  refine g_iconst cx d13_59 (v := (0 : Int32)) rfl ?_
  refine g_retZ cx d13_60 rfl rfl (by decide) (by decide) ?_
  exact ⟨by simp [own_mem], rfl⟩
theorem d15_0 : Dc method_5_code 0 (.aload_n 0) 1 1 := ⟨by decide +kernel, rfl⟩
theorem d15_1 : Dc method_5_code 1 (.arraylength) 1 2 := ⟨by decide +kernel, rfl⟩
theorem d15_2 : Dc method_5_code 2 (.istore_n 1) 1 3 := ⟨by decide +kernel, rfl⟩
theorem d15_3 : Dc method_5_code 3 (.iload_n 1) 1 4 := ⟨by decide +kernel, rfl⟩
theorem d15_4 : Dc method_5_code 4 (.iconst 1) 1 5 := ⟨by decide +kernel, rfl⟩
theorem d15_5 : Bi method_5_code 5 (Instr.if_icmp .le) 20 8 := ⟨15, by decide +kernel, by decide, by decide, rfl⟩
theorem d15_20 : Dc method_5_code 20 (.iload_n 1) 1 21 := ⟨by decide +kernel, rfl⟩
theorem d15_21 : Dc method_5_code 21 (.iconst 2) 1 22 := ⟨by decide +kernel, rfl⟩
theorem d15_22 : Bi method_5_code 22 (Instr.if_icmp .le) 47 25 := ⟨25, by decide +kernel, by decide, by decide, rfl⟩
theorem d15_47 : Dc method_5_code 47 (.iload_n 1) 1 48 := ⟨by decide +kernel, rfl⟩
theorem d15_48 : Dc method_5_code 48 (.iconst 3) 1 49 := ⟨by decide +kernel, rfl⟩
theorem d15_49 : Bi method_5_code 49 (Instr.if_icmp .le) 84 52 := ⟨35, by decide +kernel, by decide, by decide, rfl⟩
theorem d15_84 : Dc method_5_code 84 (.iconst 1) 1 85 := ⟨by decide +kernel, rfl⟩
theorem d15_85 : Dc method_5_code 85 (.ireturn) 1 86 := ⟨by decide +kernel, rfl⟩
theorem pn_rmdis0 : plainName "com/example/gridsmith/gridsmith/LongSetToArrayPinLaw" = true := by first | (simp [plainName, overriddenIn]; done) | decide +kernel
set_option maxRecDepth 65536 in
set_option maxHeartbeats 40000000 in
theorem rmdis0 (l : Launch) (Z : State) (a0 : Array Value) (hw : ∀ d ∈ tables_1, d.before a0 Z = true) (a : Addr) (cA : ClassId) (h0 : Heap) (A_a : Arx Z h0 a cA .long (0 : Int32) [] (.long (0 : Int64)) "[J") :
    Met l Z (⟨"com/example/gridsmith/gridsmith/LongSetToArrayPinLaw", "allDistinct", "([J)Z"⟩ : MethodName) method_5_code 2 (some .boolean) ({ frames := 0, cells := 0, slots := 0, locals := 0 } : Room) #[(.ref a)] h0 (fun v h' => v = some (.int (own_nd [])) ∧ h0 = h') := by
  refine met_of (Ls := #[.val (.ref a), .unset]) (plainFor_of_name pn_rmdis0) (fun m => by first | (simp [entryFrame, mkF, argsToLocals, Value.category]; done) | rfl) (fun p e s m below meth c cx => ?_)
  refine g_aloadN cx d15_0 rfl rfl ?_
  refine g_arraylength cx d15_1 A_a.1 ?_
  refine g_istoreN cx d15_2 (Ls' := #[.val (.ref a), .val (.int (0 : Int32))]) rfl ?_
  refine g_iloadN cx d15_3 rfl ?_
  refine g_iconst cx d15_4 (v := (1 : Int32)) rfl ?_
  refine g_icmp_le cx d15_5 (fun hc5 => ?_) (fun q => absurd q (fun q => by revert q; decide))
  refine g_iloadN cx d15_20 rfl ?_
  refine g_iconst cx d15_21 (v := (2 : Int32)) rfl ?_
  refine g_icmp_le cx d15_22 (fun hc22 => ?_) (fun q => absurd q (fun q => by revert q; decide))
  refine g_iloadN cx d15_47 rfl ?_
  refine g_iconst cx d15_48 (v := (3 : Int32)) rfl ?_
  refine g_icmp_le cx d15_49 (fun hc49 => ?_) (fun q => absurd q (fun q => by revert q; decide))
  refine g_iconst cx d15_84 (v := (1 : Int32)) rfl ?_
  refine g_retZ cx d15_85 rfl rfl (by decide) (by decide) ?_
  exact ⟨by simp [own_nd], rfl⟩
theorem d13_5 : Dc method_3_code 5 (.aload_n 0) 1 6 := ⟨by decide +kernel, rfl⟩
theorem d13_6 : Dc method_3_code 6 (.iconst 0) 1 7 := ⟨by decide +kernel, rfl⟩
theorem d13_7 : Dc method_3_code 7 (.laload) 1 8 := ⟨by decide +kernel, rfl⟩
theorem d13_8 : Dc method_3_code 8 (.lload_n 1) 1 9 := ⟨by decide +kernel, rfl⟩
theorem d13_9 : Dc method_3_code 9 (.lcmp) 1 10 := ⟨by decide +kernel, rfl⟩
theorem d13_10 : Bi method_3_code 10 (Instr.ifCond .eq) 55 13 := ⟨45, by decide +kernel, by decide, by decide, rfl⟩
theorem d13_55 : Dc method_3_code 55 (.iconst 1) 1 56 := ⟨by decide +kernel, rfl⟩
theorem d13_56 : Bi method_3_code 56 (Instr.goto) 60 59 := ⟨4, by decide +kernel, by decide, by decide, rfl⟩
theorem pn_rmhas1 : plainName "com/example/gridsmith/gridsmith/LongSetToArrayPinLaw" = true := by first | (simp [plainName, overriddenIn]; done) | decide +kernel
set_option maxRecDepth 65536 in
set_option maxHeartbeats 40000000 in
theorem rmhas1 (l : Launch) (Z : State) (a0 : Array Value) (hw : ∀ d ∈ tables_1, d.before a0 Z = true) (a : Addr) (cA : ClassId) (y0 : Int64) (x0 : Int64) (h0 : Heap) (A_a : Arx Z h0 a cA .long (1 : Int32) [(.long y0)] (.long (0 : Int64)) "[J") :
    Met l Z (⟨"com/example/gridsmith/gridsmith/LongSetToArrayPinLaw", "has", "([JJ)Z"⟩ : MethodName) method_3_code 3 (some .boolean) ({ frames := 0, cells := 0, slots := 0, locals := 0 } : Room) #[(.ref a), (.long x0)] h0 (fun v h' => v = some (.int (own_mem [y0] x0)) ∧ h0 = h') := by
  refine met_of (Ls := #[.val (.ref a), .val (.long x0), .second]) (plainFor_of_name pn_rmhas1) (fun m => by first | (simp [entryFrame, mkF, argsToLocals, Value.category]; done) | rfl) (fun p e s m below meth c cx => ?_)
  refine g_aloadN cx d13_0 rfl rfl ?_
  refine g_arraylength cx d13_1 A_a.1 ?_
  refine g_if_le cx d13_2 (fun q => absurd q (fun q => by revert q; decide)) (fun hc2 => ?_)
  refine g_aloadN cx d13_5 rfl rfl ?_
  refine g_iconst cx d13_6 (v := (0 : Int32)) rfl ?_
  refine g_laload cx d13_7 A_a.1 ⟨by decide, by decide⟩ (v := (.long y0)) rfl ?_
  refine g_lloadN cx d13_8 rfl ?_
  refine g_lif_eq cx d13_9 d13_10 (fun hc10 => ?_) (fun hc10 => ?_)
  · refine g_iconst cx d13_55 (v := (1 : Int32)) rfl ?_
    refine g_goto cx d13_56 ?_
    refine g_retZ cx d13_60 rfl rfl (by decide) (by decide) ?_
    subst hc10
    exact ⟨by simp [own_mem], rfl⟩
  · refine g_aloadN cx d13_13 rfl rfl ?_
    refine g_arraylength cx d13_14 A_a.1 ?_
    refine g_iconst cx d13_15 (v := (1 : Int32)) rfl ?_
    refine g_icmp_le cx d13_16 (fun hc16 => ?_) (fun q => absurd q (fun q => by revert q; decide))
    refine g_aloadN cx d13_27 rfl rfl ?_
    refine g_arraylength cx d13_28 A_a.1 ?_
    refine g_iconst cx d13_29 (v := (2 : Int32)) rfl ?_
    refine g_icmp_le cx d13_30 (fun hc30 => ?_) (fun q => absurd q (fun q => by revert q; decide))
    refine g_aloadN cx d13_41 rfl rfl ?_
    refine g_arraylength cx d13_42 A_a.1 ?_
    refine g_iconst cx d13_43 (v := (3 : Int32)) rfl ?_
    refine g_icmp_le cx d13_44 (fun hc44 => ?_) (fun q => absurd q (fun q => by revert q; decide))
    refine g_iconst cx d13_59 (v := (0 : Int32)) rfl ?_
    refine g_retZ cx d13_60 rfl rfl (by decide) (by decide) ?_
    have shc10 : ¬ x0 = y0 := fun z => hc10 z.symm
    exact ⟨by simp [own_mem, hc10, shc10], rfl⟩
theorem pn_rmdis1 : plainName "com/example/gridsmith/gridsmith/LongSetToArrayPinLaw" = true := by first | (simp [plainName, overriddenIn]; done) | decide +kernel
set_option maxRecDepth 65536 in
set_option maxHeartbeats 40000000 in
theorem rmdis1 (l : Launch) (Z : State) (a0 : Array Value) (hw : ∀ d ∈ tables_1, d.before a0 Z = true) (a : Addr) (cA : ClassId) (y0 : Int64) (h0 : Heap) (A_a : Arx Z h0 a cA .long (1 : Int32) [(.long y0)] (.long (0 : Int64)) "[J") :
    Met l Z (⟨"com/example/gridsmith/gridsmith/LongSetToArrayPinLaw", "allDistinct", "([J)Z"⟩ : MethodName) method_5_code 2 (some .boolean) ({ frames := 0, cells := 0, slots := 0, locals := 0 } : Room) #[(.ref a)] h0 (fun v h' => v = some (.int (own_nd [y0])) ∧ h0 = h') := by
  refine met_of (Ls := #[.val (.ref a), .unset]) (plainFor_of_name pn_rmdis1) (fun m => by first | (simp [entryFrame, mkF, argsToLocals, Value.category]; done) | rfl) (fun p e s m below meth c cx => ?_)
  refine g_aloadN cx d15_0 rfl rfl ?_
  refine g_arraylength cx d15_1 A_a.1 ?_
  refine g_istoreN cx d15_2 (Ls' := #[.val (.ref a), .val (.int (1 : Int32))]) rfl ?_
  refine g_iloadN cx d15_3 rfl ?_
  refine g_iconst cx d15_4 (v := (1 : Int32)) rfl ?_
  refine g_icmp_le cx d15_5 (fun hc5 => ?_) (fun q => absurd q (fun q => by revert q; decide))
  refine g_iloadN cx d15_20 rfl ?_
  refine g_iconst cx d15_21 (v := (2 : Int32)) rfl ?_
  refine g_icmp_le cx d15_22 (fun hc22 => ?_) (fun q => absurd q (fun q => by revert q; decide))
  refine g_iloadN cx d15_47 rfl ?_
  refine g_iconst cx d15_48 (v := (3 : Int32)) rfl ?_
  refine g_icmp_le cx d15_49 (fun hc49 => ?_) (fun q => absurd q (fun q => by revert q; decide))
  refine g_iconst cx d15_84 (v := (1 : Int32)) rfl ?_
  refine g_retZ cx d15_85 rfl rfl (by decide) (by decide) ?_
  exact ⟨by simp [own_nd], rfl⟩
theorem d13_19 : Dc method_3_code 19 (.aload_n 0) 1 20 := ⟨by decide +kernel, rfl⟩
theorem d13_20 : Dc method_3_code 20 (.iconst 1) 1 21 := ⟨by decide +kernel, rfl⟩
theorem d13_21 : Dc method_3_code 21 (.laload) 1 22 := ⟨by decide +kernel, rfl⟩
theorem d13_22 : Dc method_3_code 22 (.lload_n 1) 1 23 := ⟨by decide +kernel, rfl⟩
theorem d13_23 : Dc method_3_code 23 (.lcmp) 1 24 := ⟨by decide +kernel, rfl⟩
theorem d13_24 : Bi method_3_code 24 (Instr.ifCond .eq) 55 27 := ⟨31, by decide +kernel, by decide, by decide, rfl⟩
theorem pn_rmhas2 : plainName "com/example/gridsmith/gridsmith/LongSetToArrayPinLaw" = true := by first | (simp [plainName, overriddenIn]; done) | decide +kernel
set_option maxRecDepth 65536 in
set_option maxHeartbeats 40000000 in
theorem rmhas2 (l : Launch) (Z : State) (a0 : Array Value) (hw : ∀ d ∈ tables_1, d.before a0 Z = true) (a : Addr) (cA : ClassId) (y0 y1 : Int64) (x0 : Int64) (h0 : Heap) (A_a : Arx Z h0 a cA .long (2 : Int32) [(.long y0), (.long y1)] (.long (0 : Int64)) "[J") :
    Met l Z (⟨"com/example/gridsmith/gridsmith/LongSetToArrayPinLaw", "has", "([JJ)Z"⟩ : MethodName) method_3_code 3 (some .boolean) ({ frames := 0, cells := 0, slots := 0, locals := 0 } : Room) #[(.ref a), (.long x0)] h0 (fun v h' => v = some (.int (own_mem [y0, y1] x0)) ∧ h0 = h') := by
  refine met_of (Ls := #[.val (.ref a), .val (.long x0), .second]) (plainFor_of_name pn_rmhas2) (fun m => by first | (simp [entryFrame, mkF, argsToLocals, Value.category]; done) | rfl) (fun p e s m below meth c cx => ?_)
  refine g_aloadN cx d13_0 rfl rfl ?_
  refine g_arraylength cx d13_1 A_a.1 ?_
  refine g_if_le cx d13_2 (fun q => absurd q (fun q => by revert q; decide)) (fun hc2 => ?_)
  refine g_aloadN cx d13_5 rfl rfl ?_
  refine g_iconst cx d13_6 (v := (0 : Int32)) rfl ?_
  refine g_laload cx d13_7 A_a.1 ⟨by decide, by decide⟩ (v := (.long y0)) rfl ?_
  refine g_lloadN cx d13_8 rfl ?_
  refine g_lif_eq cx d13_9 d13_10 (fun hc10 => ?_) (fun hc10 => ?_)
  · refine g_iconst cx d13_55 (v := (1 : Int32)) rfl ?_
    refine g_goto cx d13_56 ?_
    refine g_retZ cx d13_60 rfl rfl (by decide) (by decide) ?_
    subst hc10
    exact ⟨by simp [own_mem], rfl⟩
  · refine g_aloadN cx d13_13 rfl rfl ?_
    refine g_arraylength cx d13_14 A_a.1 ?_
    refine g_iconst cx d13_15 (v := (1 : Int32)) rfl ?_
    refine g_icmp_le cx d13_16 (fun q => absurd q (fun q => by revert q; decide)) (fun hc16 => ?_)
    refine g_aloadN cx d13_19 rfl rfl ?_
    refine g_iconst cx d13_20 (v := (1 : Int32)) rfl ?_
    refine g_laload cx d13_21 A_a.1 ⟨by decide, by decide⟩ (v := (.long y1)) rfl ?_
    refine g_lloadN cx d13_22 rfl ?_
    refine g_lif_eq cx d13_23 d13_24 (fun hc24 => ?_) (fun hc24 => ?_)
    · refine g_iconst cx d13_55 (v := (1 : Int32)) rfl ?_
      refine g_goto cx d13_56 ?_
      refine g_retZ cx d13_60 rfl rfl (by decide) (by decide) ?_
      have shc10 : ¬ x0 = y0 := fun z => hc10 z.symm
      subst hc24
      exact ⟨by simp [own_mem, hc10, shc10], rfl⟩
    · refine g_aloadN cx d13_27 rfl rfl ?_
      refine g_arraylength cx d13_28 A_a.1 ?_
      refine g_iconst cx d13_29 (v := (2 : Int32)) rfl ?_
      refine g_icmp_le cx d13_30 (fun hc30 => ?_) (fun q => absurd q (fun q => by revert q; decide))
      refine g_aloadN cx d13_41 rfl rfl ?_
      refine g_arraylength cx d13_42 A_a.1 ?_
      refine g_iconst cx d13_43 (v := (3 : Int32)) rfl ?_
      refine g_icmp_le cx d13_44 (fun hc44 => ?_) (fun q => absurd q (fun q => by revert q; decide))
      refine g_iconst cx d13_59 (v := (0 : Int32)) rfl ?_
      refine g_retZ cx d13_60 rfl rfl (by decide) (by decide) ?_
      have shc10 : ¬ x0 = y0 := fun z => hc10 z.symm
      have shc24 : ¬ x0 = y1 := fun z => hc24 z.symm
      exact ⟨by simp [own_mem, hc10, hc24, shc10, shc24], rfl⟩
theorem d15_8 : Dc method_5_code 8 (.aload_n 0) 1 9 := ⟨by decide +kernel, rfl⟩
theorem d15_9 : Dc method_5_code 9 (.iconst 0) 1 10 := ⟨by decide +kernel, rfl⟩
theorem d15_10 : Dc method_5_code 10 (.laload) 1 11 := ⟨by decide +kernel, rfl⟩
theorem d15_11 : Dc method_5_code 11 (.aload_n 0) 1 12 := ⟨by decide +kernel, rfl⟩
theorem d15_12 : Dc method_5_code 12 (.iconst 1) 1 13 := ⟨by decide +kernel, rfl⟩
theorem d15_13 : Dc method_5_code 13 (.laload) 1 14 := ⟨by decide +kernel, rfl⟩
theorem d15_14 : Dc method_5_code 14 (.lcmp) 1 15 := ⟨by decide +kernel, rfl⟩
theorem d15_15 : Bi method_5_code 15 (Instr.ifCond .ne) 20 18 := ⟨5, by decide +kernel, by decide, by decide, rfl⟩
theorem d15_18 : Dc method_5_code 18 (.iconst 0) 1 19 := ⟨by decide +kernel, rfl⟩
theorem d15_19 : Dc method_5_code 19 (.ireturn) 1 20 := ⟨by decide +kernel, rfl⟩
theorem pn_rmdis2 : plainName "com/example/gridsmith/gridsmith/LongSetToArrayPinLaw" = true := by first | (simp [plainName, overriddenIn]; done) | decide +kernel
set_option maxRecDepth 65536 in
set_option maxHeartbeats 40000000 in
theorem rmdis2 (l : Launch) (Z : State) (a0 : Array Value) (hw : ∀ d ∈ tables_1, d.before a0 Z = true) (a : Addr) (cA : ClassId) (y0 y1 : Int64) (h0 : Heap) (A_a : Arx Z h0 a cA .long (2 : Int32) [(.long y0), (.long y1)] (.long (0 : Int64)) "[J") :
    Met l Z (⟨"com/example/gridsmith/gridsmith/LongSetToArrayPinLaw", "allDistinct", "([J)Z"⟩ : MethodName) method_5_code 2 (some .boolean) ({ frames := 0, cells := 0, slots := 0, locals := 0 } : Room) #[(.ref a)] h0 (fun v h' => v = some (.int (own_nd [y0, y1])) ∧ h0 = h') := by
  refine met_of (Ls := #[.val (.ref a), .unset]) (plainFor_of_name pn_rmdis2) (fun m => by first | (simp [entryFrame, mkF, argsToLocals, Value.category]; done) | rfl) (fun p e s m below meth c cx => ?_)
  refine g_aloadN cx d15_0 rfl rfl ?_
  refine g_arraylength cx d15_1 A_a.1 ?_
  refine g_istoreN cx d15_2 (Ls' := #[.val (.ref a), .val (.int (2 : Int32))]) rfl ?_
  refine g_iloadN cx d15_3 rfl ?_
  refine g_iconst cx d15_4 (v := (1 : Int32)) rfl ?_
  refine g_icmp_le cx d15_5 (fun q => absurd q (fun q => by revert q; decide)) (fun hc5 => ?_)
  refine g_aloadN cx d15_8 rfl rfl ?_
  refine g_iconst cx d15_9 (v := (0 : Int32)) rfl ?_
  refine g_laload cx d15_10 A_a.1 ⟨by decide, by decide⟩ (v := (.long y0)) rfl ?_
  refine g_aloadN cx d15_11 rfl rfl ?_
  refine g_iconst cx d15_12 (v := (1 : Int32)) rfl ?_
  refine g_laload cx d15_13 A_a.1 ⟨by decide, by decide⟩ (v := (.long y1)) rfl ?_
  refine g_lif_ne cx d15_14 d15_15 (fun hc15 => ?_) (fun hc15 => ?_)
  · refine g_iloadN cx d15_20 rfl ?_
    refine g_iconst cx d15_21 (v := (2 : Int32)) rfl ?_
    refine g_icmp_le cx d15_22 (fun hc22 => ?_) (fun q => absurd q (fun q => by revert q; decide))
    refine g_iloadN cx d15_47 rfl ?_
    refine g_iconst cx d15_48 (v := (3 : Int32)) rfl ?_
    refine g_icmp_le cx d15_49 (fun hc49 => ?_) (fun q => absurd q (fun q => by revert q; decide))
    refine g_iconst cx d15_84 (v := (1 : Int32)) rfl ?_
    refine g_retZ cx d15_85 rfl rfl (by decide) (by decide) ?_
    have shc15 : ¬ y1 = y0 := fun z => hc15 z.symm
    exact ⟨by simp [own_nd, hc15, shc15], rfl⟩
  · refine g_iconst cx d15_18 (v := (0 : Int32)) rfl ?_
    refine g_retZ cx d15_19 rfl rfl (by decide) (by decide) ?_
    subst hc15
    exact ⟨by simp [own_nd], rfl⟩
theorem d13_33 : Dc method_3_code 33 (.aload_n 0) 1 34 := ⟨by decide +kernel, rfl⟩
theorem d13_34 : Dc method_3_code 34 (.iconst 2) 1 35 := ⟨by decide +kernel, rfl⟩
theorem d13_35 : Dc method_3_code 35 (.laload) 1 36 := ⟨by decide +kernel, rfl⟩
theorem d13_36 : Dc method_3_code 36 (.lload_n 1) 1 37 := ⟨by decide +kernel, rfl⟩
theorem d13_37 : Dc method_3_code 37 (.lcmp) 1 38 := ⟨by decide +kernel, rfl⟩
theorem d13_38 : Bi method_3_code 38 (Instr.ifCond .eq) 55 41 := ⟨17, by decide +kernel, by decide, by decide, rfl⟩
theorem pn_rmhas3 : plainName "com/example/gridsmith/gridsmith/LongSetToArrayPinLaw" = true := by first | (simp [plainName, overriddenIn]; done) | decide +kernel
set_option maxRecDepth 65536 in
set_option maxHeartbeats 40000000 in
theorem rmhas3 (l : Launch) (Z : State) (a0 : Array Value) (hw : ∀ d ∈ tables_1, d.before a0 Z = true) (a : Addr) (cA : ClassId) (y0 y1 y2 : Int64) (x0 : Int64) (h0 : Heap) (A_a : Arx Z h0 a cA .long (3 : Int32) [(.long y0), (.long y1), (.long y2)] (.long (0 : Int64)) "[J") :
    Met l Z (⟨"com/example/gridsmith/gridsmith/LongSetToArrayPinLaw", "has", "([JJ)Z"⟩ : MethodName) method_3_code 3 (some .boolean) ({ frames := 0, cells := 0, slots := 0, locals := 0 } : Room) #[(.ref a), (.long x0)] h0 (fun v h' => v = some (.int (own_mem [y0, y1, y2] x0)) ∧ h0 = h') := by
  refine met_of (Ls := #[.val (.ref a), .val (.long x0), .second]) (plainFor_of_name pn_rmhas3) (fun m => by first | (simp [entryFrame, mkF, argsToLocals, Value.category]; done) | rfl) (fun p e s m below meth c cx => ?_)
  refine g_aloadN cx d13_0 rfl rfl ?_
  refine g_arraylength cx d13_1 A_a.1 ?_
  refine g_if_le cx d13_2 (fun q => absurd q (fun q => by revert q; decide)) (fun hc2 => ?_)
  refine g_aloadN cx d13_5 rfl rfl ?_
  refine g_iconst cx d13_6 (v := (0 : Int32)) rfl ?_
  refine g_laload cx d13_7 A_a.1 ⟨by decide, by decide⟩ (v := (.long y0)) rfl ?_
  refine g_lloadN cx d13_8 rfl ?_
  refine g_lif_eq cx d13_9 d13_10 (fun hc10 => ?_) (fun hc10 => ?_)
  · refine g_iconst cx d13_55 (v := (1 : Int32)) rfl ?_
    refine g_goto cx d13_56 ?_
    refine g_retZ cx d13_60 rfl rfl (by decide) (by decide) ?_
    subst hc10
    exact ⟨by simp [own_mem], rfl⟩
  · refine g_aloadN cx d13_13 rfl rfl ?_
    refine g_arraylength cx d13_14 A_a.1 ?_
    refine g_iconst cx d13_15 (v := (1 : Int32)) rfl ?_
    refine g_icmp_le cx d13_16 (fun q => absurd q (fun q => by revert q; decide)) (fun hc16 => ?_)
    refine g_aloadN cx d13_19 rfl rfl ?_
    refine g_iconst cx d13_20 (v := (1 : Int32)) rfl ?_
    refine g_laload cx d13_21 A_a.1 ⟨by decide, by decide⟩ (v := (.long y1)) rfl ?_
    refine g_lloadN cx d13_22 rfl ?_
    refine g_lif_eq cx d13_23 d13_24 (fun hc24 => ?_) (fun hc24 => ?_)
    · refine g_iconst cx d13_55 (v := (1 : Int32)) rfl ?_
      refine g_goto cx d13_56 ?_
      refine g_retZ cx d13_60 rfl rfl (by decide) (by decide) ?_
      have shc10 : ¬ x0 = y0 := fun z => hc10 z.symm
      subst hc24
      exact ⟨by simp [own_mem, hc10, shc10], rfl⟩
    · refine g_aloadN cx d13_27 rfl rfl ?_
      refine g_arraylength cx d13_28 A_a.1 ?_
      refine g_iconst cx d13_29 (v := (2 : Int32)) rfl ?_
      refine g_icmp_le cx d13_30 (fun q => absurd q (fun q => by revert q; decide)) (fun hc30 => ?_)
      refine g_aloadN cx d13_33 rfl rfl ?_
      refine g_iconst cx d13_34 (v := (2 : Int32)) rfl ?_
      refine g_laload cx d13_35 A_a.1 ⟨by decide, by decide⟩ (v := (.long y2)) rfl ?_
      refine g_lloadN cx d13_36 rfl ?_
      refine g_lif_eq cx d13_37 d13_38 (fun hc38 => ?_) (fun hc38 => ?_)
      · refine g_iconst cx d13_55 (v := (1 : Int32)) rfl ?_
        refine g_goto cx d13_56 ?_
        refine g_retZ cx d13_60 rfl rfl (by decide) (by decide) ?_
        have shc10 : ¬ x0 = y0 := fun z => hc10 z.symm
        have shc24 : ¬ x0 = y1 := fun z => hc24 z.symm
        subst hc38
        exact ⟨by simp [own_mem, hc10, hc24, shc10, shc24], rfl⟩
      · refine g_aloadN cx d13_41 rfl rfl ?_
        refine g_arraylength cx d13_42 A_a.1 ?_
        refine g_iconst cx d13_43 (v := (3 : Int32)) rfl ?_
        refine g_icmp_le cx d13_44 (fun hc44 => ?_) (fun q => absurd q (fun q => by revert q; decide))
        refine g_iconst cx d13_59 (v := (0 : Int32)) rfl ?_
        refine g_retZ cx d13_60 rfl rfl (by decide) (by decide) ?_
        have shc10 : ¬ x0 = y0 := fun z => hc10 z.symm
        have shc24 : ¬ x0 = y1 := fun z => hc24 z.symm
        have shc38 : ¬ x0 = y2 := fun z => hc38 z.symm
        exact ⟨by simp [own_mem, hc10, hc24, hc38, shc10, shc24, shc38], rfl⟩
theorem d15_25 : Dc method_5_code 25 (.aload_n 0) 1 26 := ⟨by decide +kernel, rfl⟩
theorem d15_26 : Dc method_5_code 26 (.iconst 0) 1 27 := ⟨by decide +kernel, rfl⟩
theorem d15_27 : Dc method_5_code 27 (.laload) 1 28 := ⟨by decide +kernel, rfl⟩
theorem d15_28 : Dc method_5_code 28 (.aload_n 0) 1 29 := ⟨by decide +kernel, rfl⟩
theorem d15_29 : Dc method_5_code 29 (.iconst 2) 1 30 := ⟨by decide +kernel, rfl⟩
theorem d15_30 : Dc method_5_code 30 (.laload) 1 31 := ⟨by decide +kernel, rfl⟩
theorem d15_31 : Dc method_5_code 31 (.lcmp) 1 32 := ⟨by decide +kernel, rfl⟩
theorem d15_32 : Bi method_5_code 32 (Instr.ifCond .eq) 45 35 := ⟨13, by decide +kernel, by decide, by decide, rfl⟩
theorem d15_45 : Dc method_5_code 45 (.iconst 0) 1 46 := ⟨by decide +kernel, rfl⟩
theorem d15_46 : Dc method_5_code 46 (.ireturn) 1 47 := ⟨by decide +kernel, rfl⟩
theorem d15_35 : Dc method_5_code 35 (.aload_n 0) 1 36 := ⟨by decide +kernel, rfl⟩
theorem d15_36 : Dc method_5_code 36 (.iconst 1) 1 37 := ⟨by decide +kernel, rfl⟩
theorem d15_37 : Dc method_5_code 37 (.laload) 1 38 := ⟨by decide +kernel, rfl⟩
theorem d15_38 : Dc method_5_code 38 (.aload_n 0) 1 39 := ⟨by decide +kernel, rfl⟩
theorem d15_39 : Dc method_5_code 39 (.iconst 2) 1 40 := ⟨by decide +kernel, rfl⟩
theorem d15_40 : Dc method_5_code 40 (.laload) 1 41 := ⟨by decide +kernel, rfl⟩
theorem d15_41 : Dc method_5_code 41 (.lcmp) 1 42 := ⟨by decide +kernel, rfl⟩
theorem d15_42 : Bi method_5_code 42 (Instr.ifCond .ne) 47 45 := ⟨5, by decide +kernel, by decide, by decide, rfl⟩
theorem pn_rmdis3 : plainName "com/example/gridsmith/gridsmith/LongSetToArrayPinLaw" = true := by first | (simp [plainName, overriddenIn]; done) | decide +kernel
set_option maxRecDepth 65536 in
set_option maxHeartbeats 40000000 in
theorem rmdis3 (l : Launch) (Z : State) (a0 : Array Value) (hw : ∀ d ∈ tables_1, d.before a0 Z = true) (a : Addr) (cA : ClassId) (y0 y1 y2 : Int64) (h0 : Heap) (A_a : Arx Z h0 a cA .long (3 : Int32) [(.long y0), (.long y1), (.long y2)] (.long (0 : Int64)) "[J") :
    Met l Z (⟨"com/example/gridsmith/gridsmith/LongSetToArrayPinLaw", "allDistinct", "([J)Z"⟩ : MethodName) method_5_code 2 (some .boolean) ({ frames := 0, cells := 0, slots := 0, locals := 0 } : Room) #[(.ref a)] h0 (fun v h' => v = some (.int (own_nd [y0, y1, y2])) ∧ h0 = h') := by
  refine met_of (Ls := #[.val (.ref a), .unset]) (plainFor_of_name pn_rmdis3) (fun m => by first | (simp [entryFrame, mkF, argsToLocals, Value.category]; done) | rfl) (fun p e s m below meth c cx => ?_)
  refine g_aloadN cx d15_0 rfl rfl ?_
  refine g_arraylength cx d15_1 A_a.1 ?_
  refine g_istoreN cx d15_2 (Ls' := #[.val (.ref a), .val (.int (3 : Int32))]) rfl ?_
  refine g_iloadN cx d15_3 rfl ?_
  refine g_iconst cx d15_4 (v := (1 : Int32)) rfl ?_
  refine g_icmp_le cx d15_5 (fun q => absurd q (fun q => by revert q; decide)) (fun hc5 => ?_)
  refine g_aloadN cx d15_8 rfl rfl ?_
  refine g_iconst cx d15_9 (v := (0 : Int32)) rfl ?_
  refine g_laload cx d15_10 A_a.1 ⟨by decide, by decide⟩ (v := (.long y0)) rfl ?_
  refine g_aloadN cx d15_11 rfl rfl ?_
  refine g_iconst cx d15_12 (v := (1 : Int32)) rfl ?_
  refine g_laload cx d15_13 A_a.1 ⟨by decide, by decide⟩ (v := (.long y1)) rfl ?_
  refine g_lif_ne cx d15_14 d15_15 (fun hc15 => ?_) (fun hc15 => ?_)
  · refine g_iloadN cx d15_20 rfl ?_
    refine g_iconst cx d15_21 (v := (2 : Int32)) rfl ?_
    refine g_icmp_le cx d15_22 (fun q => absurd q (fun q => by revert q; decide)) (fun hc22 => ?_)
    refine g_aloadN cx d15_25 rfl rfl ?_
    refine g_iconst cx d15_26 (v := (0 : Int32)) rfl ?_
    refine g_laload cx d15_27 A_a.1 ⟨by decide, by decide⟩ (v := (.long y0)) rfl ?_
    refine g_aloadN cx d15_28 rfl rfl ?_
    refine g_iconst cx d15_29 (v := (2 : Int32)) rfl ?_
    refine g_laload cx d15_30 A_a.1 ⟨by decide, by decide⟩ (v := (.long y2)) rfl ?_
    refine g_lif_eq cx d15_31 d15_32 (fun hc32 => ?_) (fun hc32 => ?_)
    · refine g_iconst cx d15_45 (v := (0 : Int32)) rfl ?_
      refine g_retZ cx d15_46 rfl rfl (by decide) (by decide) ?_
      have shc15 : ¬ y1 = y0 := fun z => hc15 z.symm
      subst hc32
      exact ⟨by simp [own_nd, hc15, shc15], rfl⟩
    · refine g_aloadN cx d15_35 rfl rfl ?_
      refine g_iconst cx d15_36 (v := (1 : Int32)) rfl ?_
      refine g_laload cx d15_37 A_a.1 ⟨by decide, by decide⟩ (v := (.long y1)) rfl ?_
      refine g_aloadN cx d15_38 rfl rfl ?_
      refine g_iconst cx d15_39 (v := (2 : Int32)) rfl ?_
      refine g_laload cx d15_40 A_a.1 ⟨by decide, by decide⟩ (v := (.long y2)) rfl ?_
      refine g_lif_ne cx d15_41 d15_42 (fun hc42 => ?_) (fun hc42 => ?_)
      · refine g_iloadN cx d15_47 rfl ?_
        refine g_iconst cx d15_48 (v := (3 : Int32)) rfl ?_
        refine g_icmp_le cx d15_49 (fun hc49 => ?_) (fun q => absurd q (fun q => by revert q; decide))
        refine g_iconst cx d15_84 (v := (1 : Int32)) rfl ?_
        refine g_retZ cx d15_85 rfl rfl (by decide) (by decide) ?_
        have shc15 : ¬ y1 = y0 := fun z => hc15 z.symm
        have shc32 : ¬ y2 = y0 := fun z => hc32 z.symm
        have shc42 : ¬ y2 = y1 := fun z => hc42 z.symm
        exact ⟨by simp [own_nd, hc15, hc32, hc42, shc15, shc32, shc42], rfl⟩
      · refine g_iconst cx d15_45 (v := (0 : Int32)) rfl ?_
        refine g_retZ cx d15_46 rfl rfl (by decide) (by decide) ?_
        have shc15 : ¬ y1 = y0 := fun z => hc15 z.symm
        have shc32 : ¬ y2 = y0 := fun z => hc32 z.symm
        subst hc42
        exact ⟨by simp [own_nd, hc15, hc32, shc15, shc32], rfl⟩
  · refine g_iconst cx d15_18 (v := (0 : Int32)) rfl ?_
    refine g_retZ cx d15_19 rfl rfl (by decide) (by decide) ?_
    subst hc15
    exact ⟨by simp [own_nd], rfl⟩
theorem d13_47 : Dc method_3_code 47 (.aload_n 0) 1 48 := ⟨by decide +kernel, rfl⟩
theorem d13_48 : Dc method_3_code 48 (.iconst 3) 1 49 := ⟨by decide +kernel, rfl⟩
theorem d13_49 : Dc method_3_code 49 (.laload) 1 50 := ⟨by decide +kernel, rfl⟩
theorem d13_50 : Dc method_3_code 50 (.lload_n 1) 1 51 := ⟨by decide +kernel, rfl⟩
theorem d13_51 : Dc method_3_code 51 (.lcmp) 1 52 := ⟨by decide +kernel, rfl⟩
theorem d13_52 : Bi method_3_code 52 (Instr.ifCond .ne) 59 55 := ⟨7, by decide +kernel, by decide, by decide, rfl⟩
theorem pn_rmhas4 : plainName "com/example/gridsmith/gridsmith/LongSetToArrayPinLaw" = true := by first | (simp [plainName, overriddenIn]; done) | decide +kernel
set_option maxRecDepth 65536 in
set_option maxHeartbeats 40000000 in
theorem rmhas4 (l : Launch) (Z : State) (a0 : Array Value) (hw : ∀ d ∈ tables_1, d.before a0 Z = true) (a : Addr) (cA : ClassId) (y0 y1 y2 y3 : Int64) (x0 : Int64) (h0 : Heap) (A_a : Arx Z h0 a cA .long (4 : Int32) [(.long y0), (.long y1), (.long y2), (.long y3)] (.long (0 : Int64)) "[J") :
    Met l Z (⟨"com/example/gridsmith/gridsmith/LongSetToArrayPinLaw", "has", "([JJ)Z"⟩ : MethodName) method_3_code 3 (some .boolean) ({ frames := 0, cells := 0, slots := 0, locals := 0 } : Room) #[(.ref a), (.long x0)] h0 (fun v h' => v = some (.int (own_mem [y0, y1, y2, y3] x0)) ∧ h0 = h') := by
  refine met_of (Ls := #[.val (.ref a), .val (.long x0), .second]) (plainFor_of_name pn_rmhas4) (fun m => by first | (simp [entryFrame, mkF, argsToLocals, Value.category]; done) | rfl) (fun p e s m below meth c cx => ?_)
  refine g_aloadN cx d13_0 rfl rfl ?_
  refine g_arraylength cx d13_1 A_a.1 ?_
  refine g_if_le cx d13_2 (fun q => absurd q (fun q => by revert q; decide)) (fun hc2 => ?_)
  refine g_aloadN cx d13_5 rfl rfl ?_
  refine g_iconst cx d13_6 (v := (0 : Int32)) rfl ?_
  refine g_laload cx d13_7 A_a.1 ⟨by decide, by decide⟩ (v := (.long y0)) rfl ?_
  refine g_lloadN cx d13_8 rfl ?_
  refine g_lif_eq cx d13_9 d13_10 (fun hc10 => ?_) (fun hc10 => ?_)
  · refine g_iconst cx d13_55 (v := (1 : Int32)) rfl ?_
    refine g_goto cx d13_56 ?_
    refine g_retZ cx d13_60 rfl rfl (by decide) (by decide) ?_
    subst hc10
    exact ⟨by simp [own_mem], rfl⟩
  · refine g_aloadN cx d13_13 rfl rfl ?_
    refine g_arraylength cx d13_14 A_a.1 ?_
    refine g_iconst cx d13_15 (v := (1 : Int32)) rfl ?_
    refine g_icmp_le cx d13_16 (fun q => absurd q (fun q => by revert q; decide)) (fun hc16 => ?_)
    refine g_aloadN cx d13_19 rfl rfl ?_
    refine g_iconst cx d13_20 (v := (1 : Int32)) rfl ?_
    refine g_laload cx d13_21 A_a.1 ⟨by decide, by decide⟩ (v := (.long y1)) rfl ?_
    refine g_lloadN cx d13_22 rfl ?_
    refine g_lif_eq cx d13_23 d13_24 (fun hc24 => ?_) (fun hc24 => ?_)
    · refine g_iconst cx d13_55 (v := (1 : Int32)) rfl ?_
      refine g_goto cx d13_56 ?_
      refine g_retZ cx d13_60 rfl rfl (by decide) (by decide) ?_
      have shc10 : ¬ x0 = y0 := fun z => hc10 z.symm
      subst hc24
      exact ⟨by simp [own_mem, hc10, shc10], rfl⟩
    · refine g_aloadN cx d13_27 rfl rfl ?_
      refine g_arraylength cx d13_28 A_a.1 ?_
      refine g_iconst cx d13_29 (v := (2 : Int32)) rfl ?_
      refine g_icmp_le cx d13_30 (fun q => absurd q (fun q => by revert q; decide)) (fun hc30 => ?_)
      refine g_aloadN cx d13_33 rfl rfl ?_
      refine g_iconst cx d13_34 (v := (2 : Int32)) rfl ?_
      refine g_laload cx d13_35 A_a.1 ⟨by decide, by decide⟩ (v := (.long y2)) rfl ?_
      refine g_lloadN cx d13_36 rfl ?_
      refine g_lif_eq cx d13_37 d13_38 (fun hc38 => ?_) (fun hc38 => ?_)
      · refine g_iconst cx d13_55 (v := (1 : Int32)) rfl ?_
        refine g_goto cx d13_56 ?_
        refine g_retZ cx d13_60 rfl rfl (by decide) (by decide) ?_
        have shc10 : ¬ x0 = y0 := fun z => hc10 z.symm
        have shc24 : ¬ x0 = y1 := fun z => hc24 z.symm
        subst hc38
        exact ⟨by simp [own_mem, hc10, hc24, shc10, shc24], rfl⟩
      · refine g_aloadN cx d13_41 rfl rfl ?_
        refine g_arraylength cx d13_42 A_a.1 ?_
        refine g_iconst cx d13_43 (v := (3 : Int32)) rfl ?_
        refine g_icmp_le cx d13_44 (fun q => absurd q (fun q => by revert q; decide)) (fun hc44 => ?_)
        refine g_aloadN cx d13_47 rfl rfl ?_
        refine g_iconst cx d13_48 (v := (3 : Int32)) rfl ?_
        refine g_laload cx d13_49 A_a.1 ⟨by decide, by decide⟩ (v := (.long y3)) rfl ?_
        refine g_lloadN cx d13_50 rfl ?_
        refine g_lif_ne cx d13_51 d13_52 (fun hc52 => ?_) (fun hc52 => ?_)
        · refine g_iconst cx d13_59 (v := (0 : Int32)) rfl ?_
          refine g_retZ cx d13_60 rfl rfl (by decide) (by decide) ?_
          have shc10 : ¬ x0 = y0 := fun z => hc10 z.symm
          have shc24 : ¬ x0 = y1 := fun z => hc24 z.symm
          have shc38 : ¬ x0 = y2 := fun z => hc38 z.symm
          have shc52 : ¬ x0 = y3 := fun z => hc52 z.symm
          exact ⟨by simp [own_mem, hc10, hc24, hc38, hc52, shc10, shc24, shc38, shc52], rfl⟩
        · refine g_iconst cx d13_55 (v := (1 : Int32)) rfl ?_
          refine g_goto cx d13_56 ?_
          refine g_retZ cx d13_60 rfl rfl (by decide) (by decide) ?_
          have shc10 : ¬ x0 = y0 := fun z => hc10 z.symm
          have shc24 : ¬ x0 = y1 := fun z => hc24 z.symm
          have shc38 : ¬ x0 = y2 := fun z => hc38 z.symm
          subst hc52
          exact ⟨by simp [own_mem, hc10, hc24, hc38, shc10, shc24, shc38], rfl⟩
theorem d15_52 : Dc method_5_code 52 (.aload_n 0) 1 53 := ⟨by decide +kernel, rfl⟩
theorem d15_53 : Dc method_5_code 53 (.iconst 0) 1 54 := ⟨by decide +kernel, rfl⟩
theorem d15_54 : Dc method_5_code 54 (.laload) 1 55 := ⟨by decide +kernel, rfl⟩
theorem d15_55 : Dc method_5_code 55 (.aload_n 0) 1 56 := ⟨by decide +kernel, rfl⟩
theorem d15_56 : Dc method_5_code 56 (.iconst 3) 1 57 := ⟨by decide +kernel, rfl⟩
theorem d15_57 : Dc method_5_code 57 (.laload) 1 58 := ⟨by decide +kernel, rfl⟩
theorem d15_58 : Dc method_5_code 58 (.lcmp) 1 59 := ⟨by decide +kernel, rfl⟩
theorem d15_59 : Bi method_5_code 59 (Instr.ifCond .eq) 82 62 := ⟨23, by decide +kernel, by decide, by decide, rfl⟩
theorem d15_82 : Dc method_5_code 82 (.iconst 0) 1 83 := ⟨by decide +kernel, rfl⟩
theorem d15_83 : Dc method_5_code 83 (.ireturn) 1 84 := ⟨by decide +kernel, rfl⟩
theorem d15_62 : Dc method_5_code 62 (.aload_n 0) 1 63 := ⟨by decide +kernel, rfl⟩
theorem d15_63 : Dc method_5_code 63 (.iconst 1) 1 64 := ⟨by decide +kernel, rfl⟩
theorem d15_64 : Dc method_5_code 64 (.laload) 1 65 := ⟨by decide +kernel, rfl⟩
theorem d15_65 : Dc method_5_code 65 (.aload_n 0) 1 66 := ⟨by decide +kernel, rfl⟩
theorem d15_66 : Dc method_5_code 66 (.iconst 3) 1 67 := ⟨by decide +kernel, rfl⟩
theorem d15_67 : Dc method_5_code 67 (.laload) 1 68 := ⟨by decide +kernel, rfl⟩
theorem d15_68 : Dc method_5_code 68 (.lcmp) 1 69 := ⟨by decide +kernel, rfl⟩
theorem d15_69 : Bi method_5_code 69 (Instr.ifCond .eq) 82 72 := ⟨13, by decide +kernel, by decide, by decide, rfl⟩
theorem d15_72 : Dc method_5_code 72 (.aload_n 0) 1 73 := ⟨by decide +kernel, rfl⟩
theorem d15_73 : Dc method_5_code 73 (.iconst 2) 1 74 := ⟨by decide +kernel, rfl⟩
theorem d15_74 : Dc method_5_code 74 (.laload) 1 75 := ⟨by decide +kernel, rfl⟩
theorem d15_75 : Dc method_5_code 75 (.aload_n 0) 1 76 := ⟨by decide +kernel, rfl⟩
theorem d15_76 : Dc method_5_code 76 (.iconst 3) 1 77 := ⟨by decide +kernel, rfl⟩
theorem d15_77 : Dc method_5_code 77 (.laload) 1 78 := ⟨by decide +kernel, rfl⟩
theorem d15_78 : Dc method_5_code 78 (.lcmp) 1 79 := ⟨by decide +kernel, rfl⟩
theorem d15_79 : Bi method_5_code 79 (Instr.ifCond .ne) 84 82 := ⟨5, by decide +kernel, by decide, by decide, rfl⟩
theorem pn_rmdis4 : plainName "com/example/gridsmith/gridsmith/LongSetToArrayPinLaw" = true := by first | (simp [plainName, overriddenIn]; done) | decide +kernel
set_option maxRecDepth 65536 in
set_option maxHeartbeats 40000000 in
theorem rmdis4 (l : Launch) (Z : State) (a0 : Array Value) (hw : ∀ d ∈ tables_1, d.before a0 Z = true) (a : Addr) (cA : ClassId) (y0 y1 y2 y3 : Int64) (h0 : Heap) (A_a : Arx Z h0 a cA .long (4 : Int32) [(.long y0), (.long y1), (.long y2), (.long y3)] (.long (0 : Int64)) "[J") :
    Met l Z (⟨"com/example/gridsmith/gridsmith/LongSetToArrayPinLaw", "allDistinct", "([J)Z"⟩ : MethodName) method_5_code 2 (some .boolean) ({ frames := 0, cells := 0, slots := 0, locals := 0 } : Room) #[(.ref a)] h0 (fun v h' => v = some (.int (own_nd [y0, y1, y2, y3])) ∧ h0 = h') := by
  refine met_of (Ls := #[.val (.ref a), .unset]) (plainFor_of_name pn_rmdis4) (fun m => by first | (simp [entryFrame, mkF, argsToLocals, Value.category]; done) | rfl) (fun p e s m below meth c cx => ?_)
  refine g_aloadN cx d15_0 rfl rfl ?_
  refine g_arraylength cx d15_1 A_a.1 ?_
  refine g_istoreN cx d15_2 (Ls' := #[.val (.ref a), .val (.int (4 : Int32))]) rfl ?_
  refine g_iloadN cx d15_3 rfl ?_
  refine g_iconst cx d15_4 (v := (1 : Int32)) rfl ?_
  refine g_icmp_le cx d15_5 (fun q => absurd q (fun q => by revert q; decide)) (fun hc5 => ?_)
  refine g_aloadN cx d15_8 rfl rfl ?_
  refine g_iconst cx d15_9 (v := (0 : Int32)) rfl ?_
  refine g_laload cx d15_10 A_a.1 ⟨by decide, by decide⟩ (v := (.long y0)) rfl ?_
  refine g_aloadN cx d15_11 rfl rfl ?_
  refine g_iconst cx d15_12 (v := (1 : Int32)) rfl ?_
  refine g_laload cx d15_13 A_a.1 ⟨by decide, by decide⟩ (v := (.long y1)) rfl ?_
  refine g_lif_ne cx d15_14 d15_15 (fun hc15 => ?_) (fun hc15 => ?_)
  · refine g_iloadN cx d15_20 rfl ?_
    refine g_iconst cx d15_21 (v := (2 : Int32)) rfl ?_
    refine g_icmp_le cx d15_22 (fun q => absurd q (fun q => by revert q; decide)) (fun hc22 => ?_)
    refine g_aloadN cx d15_25 rfl rfl ?_
    refine g_iconst cx d15_26 (v := (0 : Int32)) rfl ?_
    refine g_laload cx d15_27 A_a.1 ⟨by decide, by decide⟩ (v := (.long y0)) rfl ?_
    refine g_aloadN cx d15_28 rfl rfl ?_
    refine g_iconst cx d15_29 (v := (2 : Int32)) rfl ?_
    refine g_laload cx d15_30 A_a.1 ⟨by decide, by decide⟩ (v := (.long y2)) rfl ?_
    refine g_lif_eq cx d15_31 d15_32 (fun hc32 => ?_) (fun hc32 => ?_)
    · refine g_iconst cx d15_45 (v := (0 : Int32)) rfl ?_
      refine g_retZ cx d15_46 rfl rfl (by decide) (by decide) ?_
      have shc15 : ¬ y1 = y0 := fun z => hc15 z.symm
      subst hc32
      exact ⟨by simp [own_nd, hc15, shc15], rfl⟩
    · refine g_aloadN cx d15_35 rfl rfl ?_
      refine g_iconst cx d15_36 (v := (1 : Int32)) rfl ?_
      refine g_laload cx d15_37 A_a.1 ⟨by decide, by decide⟩ (v := (.long y1)) rfl ?_
      refine g_aloadN cx d15_38 rfl rfl ?_
      refine g_iconst cx d15_39 (v := (2 : Int32)) rfl ?_
      refine g_laload cx d15_40 A_a.1 ⟨by decide, by decide⟩ (v := (.long y2)) rfl ?_
      refine g_lif_ne cx d15_41 d15_42 (fun hc42 => ?_) (fun hc42 => ?_)
      · refine g_iloadN cx d15_47 rfl ?_
        refine g_iconst cx d15_48 (v := (3 : Int32)) rfl ?_
        refine g_icmp_le cx d15_49 (fun q => absurd q (fun q => by revert q; decide)) (fun hc49 => ?_)
        refine g_aloadN cx d15_52 rfl rfl ?_
        refine g_iconst cx d15_53 (v := (0 : Int32)) rfl ?_
        refine g_laload cx d15_54 A_a.1 ⟨by decide, by decide⟩ (v := (.long y0)) rfl ?_
        refine g_aloadN cx d15_55 rfl rfl ?_
        refine g_iconst cx d15_56 (v := (3 : Int32)) rfl ?_
        refine g_laload cx d15_57 A_a.1 ⟨by decide, by decide⟩ (v := (.long y3)) rfl ?_
        refine g_lif_eq cx d15_58 d15_59 (fun hc59 => ?_) (fun hc59 => ?_)
        · refine g_iconst cx d15_82 (v := (0 : Int32)) rfl ?_
          refine g_retZ cx d15_83 rfl rfl (by decide) (by decide) ?_
          have shc15 : ¬ y1 = y0 := fun z => hc15 z.symm
          have shc32 : ¬ y2 = y0 := fun z => hc32 z.symm
          have shc42 : ¬ y2 = y1 := fun z => hc42 z.symm
          subst hc59
          exact ⟨by simp [own_nd, hc15, hc32, hc42, shc15, shc32, shc42], rfl⟩
        · refine g_aloadN cx d15_62 rfl rfl ?_
          refine g_iconst cx d15_63 (v := (1 : Int32)) rfl ?_
          refine g_laload cx d15_64 A_a.1 ⟨by decide, by decide⟩ (v := (.long y1)) rfl ?_
          refine g_aloadN cx d15_65 rfl rfl ?_
          refine g_iconst cx d15_66 (v := (3 : Int32)) rfl ?_
          refine g_laload cx d15_67 A_a.1 ⟨by decide, by decide⟩ (v := (.long y3)) rfl ?_
          refine g_lif_eq cx d15_68 d15_69 (fun hc69 => ?_) (fun hc69 => ?_)
          · refine g_iconst cx d15_82 (v := (0 : Int32)) rfl ?_
            refine g_retZ cx d15_83 rfl rfl (by decide) (by decide) ?_
            have shc15 : ¬ y1 = y0 := fun z => hc15 z.symm
            have shc32 : ¬ y2 = y0 := fun z => hc32 z.symm
            have shc42 : ¬ y2 = y1 := fun z => hc42 z.symm
            have shc59 : ¬ y3 = y0 := fun z => hc59 z.symm
            subst hc69
            exact ⟨by simp [own_nd, hc15, hc32, hc42, hc59, shc15, shc32, shc42, shc59], rfl⟩
          · refine g_aloadN cx d15_72 rfl rfl ?_
            refine g_iconst cx d15_73 (v := (2 : Int32)) rfl ?_
            refine g_laload cx d15_74 A_a.1 ⟨by decide, by decide⟩ (v := (.long y2)) rfl ?_
            refine g_aloadN cx d15_75 rfl rfl ?_
            refine g_iconst cx d15_76 (v := (3 : Int32)) rfl ?_
            refine g_laload cx d15_77 A_a.1 ⟨by decide, by decide⟩ (v := (.long y3)) rfl ?_
            refine g_lif_ne cx d15_78 d15_79 (fun hc79 => ?_) (fun hc79 => ?_)
            · refine g_iconst cx d15_84 (v := (1 : Int32)) rfl ?_
              refine g_retZ cx d15_85 rfl rfl (by decide) (by decide) ?_
              have shc15 : ¬ y1 = y0 := fun z => hc15 z.symm
              have shc32 : ¬ y2 = y0 := fun z => hc32 z.symm
              have shc42 : ¬ y2 = y1 := fun z => hc42 z.symm
              have shc59 : ¬ y3 = y0 := fun z => hc59 z.symm
              have shc69 : ¬ y3 = y1 := fun z => hc69 z.symm
              have shc79 : ¬ y3 = y2 := fun z => hc79 z.symm
              exact ⟨by simp [own_nd, hc15, hc32, hc42, hc59, hc69, hc79, shc15, shc32, shc42, shc59, shc69, shc79], rfl⟩
            · refine g_iconst cx d15_82 (v := (0 : Int32)) rfl ?_
              refine g_retZ cx d15_83 rfl rfl (by decide) (by decide) ?_
              have shc15 : ¬ y1 = y0 := fun z => hc15 z.symm
              have shc32 : ¬ y2 = y0 := fun z => hc32 z.symm
              have shc42 : ¬ y2 = y1 := fun z => hc42 z.symm
              have shc59 : ¬ y3 = y0 := fun z => hc59 z.symm
              have shc69 : ¬ y3 = y1 := fun z => hc69 z.symm
              subst hc79
              exact ⟨by simp [own_nd, hc15, hc32, hc42, hc59, hc69, shc15, shc32, shc42, shc59, shc69], rfl⟩
      · refine g_iconst cx d15_45 (v := (0 : Int32)) rfl ?_
        refine g_retZ cx d15_46 rfl rfl (by decide) (by decide) ?_
        have shc15 : ¬ y1 = y0 := fun z => hc15 z.symm
        have shc32 : ¬ y2 = y0 := fun z => hc32 z.symm
        subst hc42
        exact ⟨by simp [own_nd, hc15, hc32, shc15, shc32], rfl⟩
  · refine g_iconst cx d15_18 (v := (0 : Int32)) rfl ?_
    refine g_retZ cx d15_19 rfl rfl (by decide) (by decide) ?_
    subst hc15
    exact ⟨by simp [own_nd], rfl⟩
theorem d14_0 : Dc method_4_code 0 (.iload_n 1) 1 1 := ⟨by decide +kernel, rfl⟩
theorem d14_1 : Bi method_4_code 1 (Instr.ifCond .le) 12 4 := ⟨11, by decide +kernel, by decide, by decide, rfl⟩
theorem d14_12 : Dc method_4_code 12 (.iload_n 1) 1 13 := ⟨by decide +kernel, rfl⟩
theorem d14_13 : Dc method_4_code 13 (.iconst 1) 1 14 := ⟨by decide +kernel, rfl⟩
theorem d14_14 : Bi method_4_code 14 (Instr.if_icmp .le) 25 17 := ⟨11, by decide +kernel, by decide, by decide, rfl⟩
theorem d14_25 : Dc method_4_code 25 (.iload_n 1) 1 26 := ⟨by decide +kernel, rfl⟩
theorem d14_26 : Dc method_4_code 26 (.iconst 2) 1 27 := ⟨by decide +kernel, rfl⟩
theorem d14_27 : Bi method_4_code 27 (Instr.if_icmp .le) 38 30 := ⟨11, by decide +kernel, by decide, by decide, rfl⟩
theorem d14_38 : Dc method_4_code 38 (.iload_n 1) 1 39 := ⟨by decide +kernel, rfl⟩
theorem d14_39 : Dc method_4_code 39 (.iconst 3) 1 40 := ⟨by decide +kernel, rfl⟩
theorem d14_40 : Bi method_4_code 40 (Instr.if_icmp .le) 55 43 := ⟨15, by decide +kernel, by decide, by decide, rfl⟩
theorem d14_55 : Dc method_4_code 55 (.iconst 0) 1 56 := ⟨by decide +kernel, rfl⟩
theorem d14_56 : Dc method_4_code 56 (.ireturn) 1 57 := ⟨by decide +kernel, rfl⟩
theorem pn_rmamg0 : plainName "com/example/gridsmith/gridsmith/LongSetToArrayPinLaw" = true := by first | (simp [plainName, overriddenIn]; done) | decide +kernel
set_option maxRecDepth 65536 in
set_option maxHeartbeats 40000000 in
theorem rmamg0 (l : Launch) (Z : State) (a0 : Array Value) (hw : ∀ d ∈ tables_1, d.before a0 Z = true) (a : Addr) (cA : ClassId) (w0 w1 w2 w3 : Int64) (x0 : Int64) (h0 : Heap) (A_a : Arx Z h0 a cA .long (4 : Int32) [(.long w0), (.long w1), (.long w2), (.long w3)] (.long (0 : Int64)) "[J") :
    Met l Z (⟨"com/example/gridsmith/gridsmith/LongSetToArrayPinLaw", "among", "([JIJ)Z"⟩ : MethodName) method_4_code 4 (some .boolean) ({ frames := 0, cells := 0, slots := 0, locals := 0 } : Room) #[(.ref a), (.int (0 : Int32)), (.long x0)] h0 (fun v h' => v = some (.int (own_mem [] x0)) ∧ h0 = h') := by
  refine met_of (Ls := #[.val (.ref a), .val (.int (0 : Int32)), .val (.long x0), .second]) (plainFor_of_name pn_rmamg0) (fun m => by first | (simp [entryFrame, mkF, argsToLocals, Value.category]; done) | rfl) (fun p e s m below meth c cx => ?_)
  refine g_iloadN cx d14_0 rfl ?_
  refine g_if_le cx d14_1 (fun hc1 => ?_) (fun q => absurd q (fun q => by revert q; decide))
  refine g_iloadN cx d14_12 rfl ?_
  refine g_iconst cx d14_13 (v := (1 : Int32)) rfl ?_
  refine g_icmp_le cx d14_14 (fun hc14 => ?_) (fun q => absurd q (fun q => by revert q; decide))
  refine g_iloadN cx d14_25 rfl ?_
  refine g_iconst cx d14_26 (v := (2 : Int32)) rfl ?_
  refine g_icmp_le cx d14_27 (fun hc27 => ?_) (fun q => absurd q (fun q => by revert q; decide))
  refine g_iloadN cx d14_38 rfl ?_
  refine g_iconst cx d14_39 (v := (3 : Int32)) rfl ?_
  refine g_icmp_le cx d14_40 (fun hc40 => ?_) (fun q => absurd q (fun q => by revert q; decide))
  refine g_iconst cx d14_55 (v := (0 : Int32)) rfl ?_
  refine g_retZ cx d14_56 rfl rfl (by decide) (by decide) ?_
  exact ⟨by simp [own_mem], rfl⟩
theorem d14_4 : Dc method_4_code 4 (.aload_n 0) 1 5 := ⟨by decide +kernel, rfl⟩
theorem d14_5 : Dc method_4_code 5 (.iconst 0) 1 6 := ⟨by decide +kernel, rfl⟩
theorem d14_6 : Dc method_4_code 6 (.laload) 1 7 := ⟨by decide +kernel, rfl⟩
theorem d14_7 : Dc method_4_code 7 (.lload_n 2) 1 8 := ⟨by decide +kernel, rfl⟩
theorem d14_8 : Dc method_4_code 8 (.lcmp) 1 9 := ⟨by decide +kernel, rfl⟩
theorem d14_9 : Bi method_4_code 9 (Instr.ifCond .eq) 51 12 := ⟨42, by decide +kernel, by decide, by decide, rfl⟩
theorem d14_51 : Dc method_4_code 51 (.iconst 1) 1 52 := ⟨by decide +kernel, rfl⟩
theorem d14_52 : Bi method_4_code 52 (Instr.goto) 56 55 := ⟨4, by decide +kernel, by decide, by decide, rfl⟩
theorem pn_rmamg1 : plainName "com/example/gridsmith/gridsmith/LongSetToArrayPinLaw" = true := by first | (simp [plainName, overriddenIn]; done) | decide +kernel
set_option maxRecDepth 65536 in
set_option maxHeartbeats 40000000 in
theorem rmamg1 (l : Launch) (Z : State) (a0 : Array Value) (hw : ∀ d ∈ tables_1, d.before a0 Z = true) (a : Addr) (cA : ClassId) (w0 w1 w2 w3 : Int64) (x0 : Int64) (h0 : Heap) (A_a : Arx Z h0 a cA .long (4 : Int32) [(.long w0), (.long w1), (.long w2), (.long w3)] (.long (0 : Int64)) "[J") :
    Met l Z (⟨"com/example/gridsmith/gridsmith/LongSetToArrayPinLaw", "among", "([JIJ)Z"⟩ : MethodName) method_4_code 4 (some .boolean) ({ frames := 0, cells := 0, slots := 0, locals := 0 } : Room) #[(.ref a), (.int (1 : Int32)), (.long x0)] h0 (fun v h' => v = some (.int (own_mem [w0] x0)) ∧ h0 = h') := by
  refine met_of (Ls := #[.val (.ref a), .val (.int (1 : Int32)), .val (.long x0), .second]) (plainFor_of_name pn_rmamg1) (fun m => by first | (simp [entryFrame, mkF, argsToLocals, Value.category]; done) | rfl) (fun p e s m below meth c cx => ?_)
  refine g_iloadN cx d14_0 rfl ?_
  refine g_if_le cx d14_1 (fun q => absurd q (fun q => by revert q; decide)) (fun hc1 => ?_)
  refine g_aloadN cx d14_4 rfl rfl ?_
  refine g_iconst cx d14_5 (v := (0 : Int32)) rfl ?_
  refine g_laload cx d14_6 A_a.1 ⟨by decide, by decide⟩ (v := (.long w0)) rfl ?_
  refine g_lloadN cx d14_7 rfl ?_
  refine g_lif_eq cx d14_8 d14_9 (fun hc9 => ?_) (fun hc9 => ?_)
  · refine g_iconst cx d14_51 (v := (1 : Int32)) rfl ?_
    refine g_goto cx d14_52 ?_
    refine g_retZ cx d14_56 rfl rfl (by decide) (by decide) ?_
    subst hc9
    exact ⟨by simp [own_mem], rfl⟩
  · refine g_iloadN cx d14_12 rfl ?_
    refine g_iconst cx d14_13 (v := (1 : Int32)) rfl ?_
    refine g_icmp_le cx d14_14 (fun hc14 => ?_) (fun q => absurd q (fun q => by revert q; decide))
    refine g_iloadN cx d14_25 rfl ?_
    refine g_iconst cx d14_26 (v := (2 : Int32)) rfl ?_
    refine g_icmp_le cx d14_27 (fun hc27 => ?_) (fun q => absurd q (fun q => by revert q; decide))
    refine g_iloadN cx d14_38 rfl ?_
    refine g_iconst cx d14_39 (v := (3 : Int32)) rfl ?_
    refine g_icmp_le cx d14_40 (fun hc40 => ?_) (fun q => absurd q (fun q => by revert q; decide))
    refine g_iconst cx d14_55 (v := (0 : Int32)) rfl ?_
    refine g_retZ cx d14_56 rfl rfl (by decide) (by decide) ?_
    have shc9 : ¬ x0 = w0 := fun z => hc9 z.symm
    exact ⟨by simp [own_mem, hc9, shc9], rfl⟩
theorem d14_17 : Dc method_4_code 17 (.aload_n 0) 1 18 := ⟨by decide +kernel, rfl⟩
theorem d14_18 : Dc method_4_code 18 (.iconst 1) 1 19 := ⟨by decide +kernel, rfl⟩
theorem d14_19 : Dc method_4_code 19 (.laload) 1 20 := ⟨by decide +kernel, rfl⟩
theorem d14_20 : Dc method_4_code 20 (.lload_n 2) 1 21 := ⟨by decide +kernel, rfl⟩
theorem d14_21 : Dc method_4_code 21 (.lcmp) 1 22 := ⟨by decide +kernel, rfl⟩
theorem d14_22 : Bi method_4_code 22 (Instr.ifCond .eq) 51 25 := ⟨29, by decide +kernel, by decide, by decide, rfl⟩
theorem pn_rmamg2 : plainName "com/example/gridsmith/gridsmith/LongSetToArrayPinLaw" = true := by first | (simp [plainName, overriddenIn]; done) | decide +kernel
set_option maxRecDepth 65536 in
set_option maxHeartbeats 40000000 in
theorem rmamg2 (l : Launch) (Z : State) (a0 : Array Value) (hw : ∀ d ∈ tables_1, d.before a0 Z = true) (a : Addr) (cA : ClassId) (w0 w1 w2 w3 : Int64) (x0 : Int64) (h0 : Heap) (A_a : Arx Z h0 a cA .long (4 : Int32) [(.long w0), (.long w1), (.long w2), (.long w3)] (.long (0 : Int64)) "[J") :
    Met l Z (⟨"com/example/gridsmith/gridsmith/LongSetToArrayPinLaw", "among", "([JIJ)Z"⟩ : MethodName) method_4_code 4 (some .boolean) ({ frames := 0, cells := 0, slots := 0, locals := 0 } : Room) #[(.ref a), (.int (2 : Int32)), (.long x0)] h0 (fun v h' => v = some (.int (own_mem [w1, w0] x0)) ∧ h0 = h') := by
  refine met_of (Ls := #[.val (.ref a), .val (.int (2 : Int32)), .val (.long x0), .second]) (plainFor_of_name pn_rmamg2) (fun m => by first | (simp [entryFrame, mkF, argsToLocals, Value.category]; done) | rfl) (fun p e s m below meth c cx => ?_)
  refine g_iloadN cx d14_0 rfl ?_
  refine g_if_le cx d14_1 (fun q => absurd q (fun q => by revert q; decide)) (fun hc1 => ?_)
  refine g_aloadN cx d14_4 rfl rfl ?_
  refine g_iconst cx d14_5 (v := (0 : Int32)) rfl ?_
  refine g_laload cx d14_6 A_a.1 ⟨by decide, by decide⟩ (v := (.long w0)) rfl ?_
  refine g_lloadN cx d14_7 rfl ?_
  refine g_lif_eq cx d14_8 d14_9 (fun hc9 => ?_) (fun hc9 => ?_)
  · refine g_iconst cx d14_51 (v := (1 : Int32)) rfl ?_
    refine g_goto cx d14_52 ?_
    refine g_retZ cx d14_56 rfl rfl (by decide) (by decide) ?_
    subst hc9
    exact ⟨by simp [own_mem], rfl⟩
  · refine g_iloadN cx d14_12 rfl ?_
    refine g_iconst cx d14_13 (v := (1 : Int32)) rfl ?_
    refine g_icmp_le cx d14_14 (fun q => absurd q (fun q => by revert q; decide)) (fun hc14 => ?_)
    refine g_aloadN cx d14_17 rfl rfl ?_
    refine g_iconst cx d14_18 (v := (1 : Int32)) rfl ?_
    refine g_laload cx d14_19 A_a.1 ⟨by decide, by decide⟩ (v := (.long w1)) rfl ?_
    refine g_lloadN cx d14_20 rfl ?_
    refine g_lif_eq cx d14_21 d14_22 (fun hc22 => ?_) (fun hc22 => ?_)
    · refine g_iconst cx d14_51 (v := (1 : Int32)) rfl ?_
      refine g_goto cx d14_52 ?_
      refine g_retZ cx d14_56 rfl rfl (by decide) (by decide) ?_
      have shc9 : ¬ x0 = w0 := fun z => hc9 z.symm
      subst hc22
      exact ⟨by simp [own_mem, hc9, shc9], rfl⟩
    · refine g_iloadN cx d14_25 rfl ?_
      refine g_iconst cx d14_26 (v := (2 : Int32)) rfl ?_
      refine g_icmp_le cx d14_27 (fun hc27 => ?_) (fun q => absurd q (fun q => by revert q; decide))
      refine g_iloadN cx d14_38 rfl ?_
      refine g_iconst cx d14_39 (v := (3 : Int32)) rfl ?_
      refine g_icmp_le cx d14_40 (fun hc40 => ?_) (fun q => absurd q (fun q => by revert q; decide))
      refine g_iconst cx d14_55 (v := (0 : Int32)) rfl ?_
      refine g_retZ cx d14_56 rfl rfl (by decide) (by decide) ?_
      have shc9 : ¬ x0 = w0 := fun z => hc9 z.symm
      have shc22 : ¬ x0 = w1 := fun z => hc22 z.symm
      exact ⟨by simp [own_mem, hc9, hc22, shc9, shc22], rfl⟩
theorem d14_30 : Dc method_4_code 30 (.aload_n 0) 1 31 := ⟨by decide +kernel, rfl⟩
theorem d14_31 : Dc method_4_code 31 (.iconst 2) 1 32 := ⟨by decide +kernel, rfl⟩
theorem d14_32 : Dc method_4_code 32 (.laload) 1 33 := ⟨by decide +kernel, rfl⟩
theorem d14_33 : Dc method_4_code 33 (.lload_n 2) 1 34 := ⟨by decide +kernel, rfl⟩
theorem d14_34 : Dc method_4_code 34 (.lcmp) 1 35 := ⟨by decide +kernel, rfl⟩
theorem d14_35 : Bi method_4_code 35 (Instr.ifCond .eq) 51 38 := ⟨16, by decide +kernel, by decide, by decide, rfl⟩
theorem pn_rmamg3 : plainName "com/example/gridsmith/gridsmith/LongSetToArrayPinLaw" = true := by first | (simp [plainName, overriddenIn]; done) | decide +kernel
set_option maxRecDepth 65536 in
set_option maxHeartbeats 40000000 in
theorem rmamg3 (l : Launch) (Z : State) (a0 : Array Value) (hw : ∀ d ∈ tables_1, d.before a0 Z = true) (a : Addr) (cA : ClassId) (w0 w1 w2 w3 : Int64) (x0 : Int64) (h0 : Heap) (A_a : Arx Z h0 a cA .long (4 : Int32) [(.long w0), (.long w1), (.long w2), (.long w3)] (.long (0 : Int64)) "[J") :
    Met l Z (⟨"com/example/gridsmith/gridsmith/LongSetToArrayPinLaw", "among", "([JIJ)Z"⟩ : MethodName) method_4_code 4 (some .boolean) ({ frames := 0, cells := 0, slots := 0, locals := 0 } : Room) #[(.ref a), (.int (3 : Int32)), (.long x0)] h0 (fun v h' => v = some (.int (own_mem [w2, w1, w0] x0)) ∧ h0 = h') := by
  refine met_of (Ls := #[.val (.ref a), .val (.int (3 : Int32)), .val (.long x0), .second]) (plainFor_of_name pn_rmamg3) (fun m => by first | (simp [entryFrame, mkF, argsToLocals, Value.category]; done) | rfl) (fun p e s m below meth c cx => ?_)
  refine g_iloadN cx d14_0 rfl ?_
  refine g_if_le cx d14_1 (fun q => absurd q (fun q => by revert q; decide)) (fun hc1 => ?_)
  refine g_aloadN cx d14_4 rfl rfl ?_
  refine g_iconst cx d14_5 (v := (0 : Int32)) rfl ?_
  refine g_laload cx d14_6 A_a.1 ⟨by decide, by decide⟩ (v := (.long w0)) rfl ?_
  refine g_lloadN cx d14_7 rfl ?_
  refine g_lif_eq cx d14_8 d14_9 (fun hc9 => ?_) (fun hc9 => ?_)
  · refine g_iconst cx d14_51 (v := (1 : Int32)) rfl ?_
    refine g_goto cx d14_52 ?_
    refine g_retZ cx d14_56 rfl rfl (by decide) (by decide) ?_
    subst hc9
    exact ⟨by simp [own_mem], rfl⟩
  · refine g_iloadN cx d14_12 rfl ?_
    refine g_iconst cx d14_13 (v := (1 : Int32)) rfl ?_
    refine g_icmp_le cx d14_14 (fun q => absurd q (fun q => by revert q; decide)) (fun hc14 => ?_)
    refine g_aloadN cx d14_17 rfl rfl ?_
    refine g_iconst cx d14_18 (v := (1 : Int32)) rfl ?_
    refine g_laload cx d14_19 A_a.1 ⟨by decide, by decide⟩ (v := (.long w1)) rfl ?_
    refine g_lloadN cx d14_20 rfl ?_
    refine g_lif_eq cx d14_21 d14_22 (fun hc22 => ?_) (fun hc22 => ?_)
    · refine g_iconst cx d14_51 (v := (1 : Int32)) rfl ?_
      refine g_goto cx d14_52 ?_
      refine g_retZ cx d14_56 rfl rfl (by decide) (by decide) ?_
      have shc9 : ¬ x0 = w0 := fun z => hc9 z.symm
      subst hc22
      exact ⟨by simp [own_mem, hc9, shc9], rfl⟩
    · refine g_iloadN cx d14_25 rfl ?_
      refine g_iconst cx d14_26 (v := (2 : Int32)) rfl ?_
      refine g_icmp_le cx d14_27 (fun q => absurd q (fun q => by revert q; decide)) (fun hc27 => ?_)
      refine g_aloadN cx d14_30 rfl rfl ?_
      refine g_iconst cx d14_31 (v := (2 : Int32)) rfl ?_
      refine g_laload cx d14_32 A_a.1 ⟨by decide, by decide⟩ (v := (.long w2)) rfl ?_
      refine g_lloadN cx d14_33 rfl ?_
      refine g_lif_eq cx d14_34 d14_35 (fun hc35 => ?_) (fun hc35 => ?_)
      · refine g_iconst cx d14_51 (v := (1 : Int32)) rfl ?_
        refine g_goto cx d14_52 ?_
        refine g_retZ cx d14_56 rfl rfl (by decide) (by decide) ?_
        have shc9 : ¬ x0 = w0 := fun z => hc9 z.symm
        have shc22 : ¬ x0 = w1 := fun z => hc22 z.symm
        subst hc35
        exact ⟨by simp [own_mem, hc9, hc22, shc9, shc22], rfl⟩
      · refine g_iloadN cx d14_38 rfl ?_
        refine g_iconst cx d14_39 (v := (3 : Int32)) rfl ?_
        refine g_icmp_le cx d14_40 (fun hc40 => ?_) (fun q => absurd q (fun q => by revert q; decide))
        refine g_iconst cx d14_55 (v := (0 : Int32)) rfl ?_
        refine g_retZ cx d14_56 rfl rfl (by decide) (by decide) ?_
        have shc9 : ¬ x0 = w0 := fun z => hc9 z.symm
        have shc22 : ¬ x0 = w1 := fun z => hc22 z.symm
        have shc35 : ¬ x0 = w2 := fun z => hc35 z.symm
        exact ⟨by simp [own_mem, hc9, hc22, hc35, shc9, shc22, shc35], rfl⟩
theorem d14_43 : Dc method_4_code 43 (.aload_n 0) 1 44 := ⟨by decide +kernel, rfl⟩
theorem d14_44 : Dc method_4_code 44 (.iconst 3) 1 45 := ⟨by decide +kernel, rfl⟩
theorem d14_45 : Dc method_4_code 45 (.laload) 1 46 := ⟨by decide +kernel, rfl⟩
theorem d14_46 : Dc method_4_code 46 (.lload_n 2) 1 47 := ⟨by decide +kernel, rfl⟩
theorem d14_47 : Dc method_4_code 47 (.lcmp) 1 48 := ⟨by decide +kernel, rfl⟩
theorem d14_48 : Bi method_4_code 48 (Instr.ifCond .ne) 55 51 := ⟨7, by decide +kernel, by decide, by decide, rfl⟩
theorem pn_rmamg4 : plainName "com/example/gridsmith/gridsmith/LongSetToArrayPinLaw" = true := by first | (simp [plainName, overriddenIn]; done) | decide +kernel
set_option maxRecDepth 65536 in
set_option maxHeartbeats 40000000 in
theorem rmamg4 (l : Launch) (Z : State) (a0 : Array Value) (hw : ∀ d ∈ tables_1, d.before a0 Z = true) (a : Addr) (cA : ClassId) (w0 w1 w2 w3 : Int64) (x0 : Int64) (h0 : Heap) (A_a : Arx Z h0 a cA .long (4 : Int32) [(.long w0), (.long w1), (.long w2), (.long w3)] (.long (0 : Int64)) "[J") :
    Met l Z (⟨"com/example/gridsmith/gridsmith/LongSetToArrayPinLaw", "among", "([JIJ)Z"⟩ : MethodName) method_4_code 4 (some .boolean) ({ frames := 0, cells := 0, slots := 0, locals := 0 } : Room) #[(.ref a), (.int (4 : Int32)), (.long x0)] h0 (fun v h' => v = some (.int (own_mem [w3, w2, w1, w0] x0)) ∧ h0 = h') := by
  refine met_of (Ls := #[.val (.ref a), .val (.int (4 : Int32)), .val (.long x0), .second]) (plainFor_of_name pn_rmamg4) (fun m => by first | (simp [entryFrame, mkF, argsToLocals, Value.category]; done) | rfl) (fun p e s m below meth c cx => ?_)
  refine g_iloadN cx d14_0 rfl ?_
  refine g_if_le cx d14_1 (fun q => absurd q (fun q => by revert q; decide)) (fun hc1 => ?_)
  refine g_aloadN cx d14_4 rfl rfl ?_
  refine g_iconst cx d14_5 (v := (0 : Int32)) rfl ?_
  refine g_laload cx d14_6 A_a.1 ⟨by decide, by decide⟩ (v := (.long w0)) rfl ?_
  refine g_lloadN cx d14_7 rfl ?_
  refine g_lif_eq cx d14_8 d14_9 (fun hc9 => ?_) (fun hc9 => ?_)
  · refine g_iconst cx d14_51 (v := (1 : Int32)) rfl ?_
    refine g_goto cx d14_52 ?_
    refine g_retZ cx d14_56 rfl rfl (by decide) (by decide) ?_
    subst hc9
    exact ⟨by simp [own_mem], rfl⟩
  · refine g_iloadN cx d14_12 rfl ?_
    refine g_iconst cx d14_13 (v := (1 : Int32)) rfl ?_
    refine g_icmp_le cx d14_14 (fun q => absurd q (fun q => by revert q; decide)) (fun hc14 => ?_)
    refine g_aloadN cx d14_17 rfl rfl ?_
    refine g_iconst cx d14_18 (v := (1 : Int32)) rfl ?_
    refine g_laload cx d14_19 A_a.1 ⟨by decide, by decide⟩ (v := (.long w1)) rfl ?_
    refine g_lloadN cx d14_20 rfl ?_
    refine g_lif_eq cx d14_21 d14_22 (fun hc22 => ?_) (fun hc22 => ?_)
    · refine g_iconst cx d14_51 (v := (1 : Int32)) rfl ?_
      refine g_goto cx d14_52 ?_
      refine g_retZ cx d14_56 rfl rfl (by decide) (by decide) ?_
      have shc9 : ¬ x0 = w0 := fun z => hc9 z.symm
      subst hc22
      exact ⟨by simp [own_mem, hc9, shc9], rfl⟩
    · refine g_iloadN cx d14_25 rfl ?_
      refine g_iconst cx d14_26 (v := (2 : Int32)) rfl ?_
      refine g_icmp_le cx d14_27 (fun q => absurd q (fun q => by revert q; decide)) (fun hc27 => ?_)
      refine g_aloadN cx d14_30 rfl rfl ?_
      refine g_iconst cx d14_31 (v := (2 : Int32)) rfl ?_
      refine g_laload cx d14_32 A_a.1 ⟨by decide, by decide⟩ (v := (.long w2)) rfl ?_
      refine g_lloadN cx d14_33 rfl ?_
      refine g_lif_eq cx d14_34 d14_35 (fun hc35 => ?_) (fun hc35 => ?_)
      · refine g_iconst cx d14_51 (v := (1 : Int32)) rfl ?_
        refine g_goto cx d14_52 ?_
        refine g_retZ cx d14_56 rfl rfl (by decide) (by decide) ?_
        have shc9 : ¬ x0 = w0 := fun z => hc9 z.symm
        have shc22 : ¬ x0 = w1 := fun z => hc22 z.symm
        subst hc35
        exact ⟨by simp [own_mem, hc9, hc22, shc9, shc22], rfl⟩
      · refine g_iloadN cx d14_38 rfl ?_
        refine g_iconst cx d14_39 (v := (3 : Int32)) rfl ?_
        refine g_icmp_le cx d14_40 (fun q => absurd q (fun q => by revert q; decide)) (fun hc40 => ?_)
        refine g_aloadN cx d14_43 rfl rfl ?_
        refine g_iconst cx d14_44 (v := (3 : Int32)) rfl ?_
        refine g_laload cx d14_45 A_a.1 ⟨by decide, by decide⟩ (v := (.long w3)) rfl ?_
        refine g_lloadN cx d14_46 rfl ?_
        refine g_lif_ne cx d14_47 d14_48 (fun hc48 => ?_) (fun hc48 => ?_)
        · refine g_iconst cx d14_55 (v := (0 : Int32)) rfl ?_
          refine g_retZ cx d14_56 rfl rfl (by decide) (by decide) ?_
          have shc9 : ¬ x0 = w0 := fun z => hc9 z.symm
          have shc22 : ¬ x0 = w1 := fun z => hc22 z.symm
          have shc35 : ¬ x0 = w2 := fun z => hc35 z.symm
          have shc48 : ¬ x0 = w3 := fun z => hc48 z.symm
          exact ⟨by simp [own_mem, hc9, hc22, hc35, hc48, shc9, shc22, shc35, shc48], rfl⟩
        · refine g_iconst cx d14_51 (v := (1 : Int32)) rfl ?_
          refine g_goto cx d14_52 ?_
          refine g_retZ cx d14_56 rfl rfl (by decide) (by decide) ?_
          have shc9 : ¬ x0 = w0 := fun z => hc9 z.symm
          have shc22 : ¬ x0 = w1 := fun z => hc22 z.symm
          have shc35 : ¬ x0 = w2 := fun z => hc35 z.symm
          subst hc48
          exact ⟨by simp [own_mem, hc9, hc22, hc35, shc9, shc22, shc35], rfl⟩
theorem own_nE (u : Int64) : u &&& (9223372036854775807 : Int64) ≠ own_E := fun q => by
  have e : (u &&& (9223372036854775807 : Int64)).toInt = u.toInt % 9223372036854775808 := c_maskL u (9223372036854775807 : Int64) 63 (by decide) (by decide)
  rw [q] at e
  have z : own_E.toInt = -9223372036854775808 := rfl
  omega
theorem own_rwM {A B W : List Int64} {y : Int64} (e : A = B) (h : y ∈ A ↔ y ∈ W) : y ∈ B ↔ y ∈ W := e ▸ h
theorem own_rwN {A B : List Int64} (e : A = B) (h : A.Nodup) : B.Nodup := e ▸ h
theorem own_memF {A : List Int64} {y : Int64} (h : y ∈ A) (q : own_mem A y = (0 : Int32)) : False := by
  rw [own_mem, if_pos h] at q; exact absurd q (by decide)
theorem own_ndF {A : List Int64} (h : A.Nodup) (q : own_nd A = (0 : Int32)) : False := by
  rw [own_nd, if_pos h] at q; exact absurd q (by decide)
theorem d0_0 : Dc code 0 (.new 7) 3 3 := ⟨by decide +kernel, rfl⟩
theorem d0_3 : Dc code 3 (.dup) 1 4 := ⟨by decide +kernel, rfl⟩
theorem d0_4 : Dc code 4 (.iload_n 0) 1 5 := ⟨by decide +kernel, rfl⟩
theorem d0_5 : Dc code 5 (.bipush 63) 2 7 := ⟨by decide +kernel, rfl⟩
theorem d0_7 : Dc code 7 (.iand) 1 8 := ⟨by decide +kernel, rfl⟩
theorem pd_5 : parseMethodDescriptor "(I)V" = some ⟨[.int], none⟩ := by decide +kernel
theorem d0_8 : Dc code 8 (.invokespecial 9) 3 11 := ⟨by decide +kernel, rfl⟩
theorem d0_11 : Dc code 11 (.astore 10) 2 13 := ⟨by decide +kernel, rfl⟩
theorem d0_13 : Dc code 13 (.iload_n 1) 1 14 := ⟨by decide +kernel, rfl⟩
theorem d0_14 : Dc code 14 (.ldc 12) 2 16 := ⟨by decide +kernel, rfl⟩
theorem d0_16 : Dc code 16 (.iand) 1 17 := ⟨by decide +kernel, rfl⟩
theorem d0_17 : Dc code 17 (.iconst 5) 1 18 := ⟨by decide +kernel, rfl⟩
theorem d0_18 : Dc code 18 (.irem) 1 19 := ⟨by decide +kernel, rfl⟩
theorem d0_19 : Dc code 19 (.istore 11) 2 21 := ⟨by decide +kernel, rfl⟩
theorem d0_21 : Dc code 21 (.iconst 4) 1 22 := ⟨by decide +kernel, rfl⟩
theorem d0_22 : Dc code 22 (.newarray .long) 2 24 := ⟨by decide +kernel, rfl⟩
theorem d0_24 : Dc code 24 (.astore 12) 2 26 := ⟨by decide +kernel, rfl⟩
theorem d0_26 : Dc code 26 (.aload 12) 2 28 := ⟨by decide +kernel, rfl⟩
theorem d0_28 : Dc code 28 (.iconst 0) 1 29 := ⟨by decide +kernel, rfl⟩
theorem d0_29 : Dc code 29 (.lload_n 2) 1 30 := ⟨by decide +kernel, rfl⟩
theorem d0_30 : Dc code 30 (.ldc2_w 15) 3 33 := ⟨by decide +kernel, rfl⟩
theorem d0_33 : Dc code 33 (.land) 1 34 := ⟨by decide +kernel, rfl⟩
theorem d0_34 : Dc code 34 (.lastore) 1 35 := ⟨by decide +kernel, rfl⟩
theorem d0_35 : Dc code 35 (.aload 12) 2 37 := ⟨by decide +kernel, rfl⟩
theorem d0_37 : Dc code 37 (.iconst 1) 1 38 := ⟨by decide +kernel, rfl⟩
theorem d0_38 : Dc code 38 (.lload 4) 2 40 := ⟨by decide +kernel, rfl⟩
theorem d0_40 : Dc code 40 (.ldc2_w 15) 3 43 := ⟨by decide +kernel, rfl⟩
theorem d0_43 : Dc code 43 (.land) 1 44 := ⟨by decide +kernel, rfl⟩
theorem d0_44 : Dc code 44 (.lastore) 1 45 := ⟨by decide +kernel, rfl⟩
theorem d0_45 : Dc code 45 (.aload 12) 2 47 := ⟨by decide +kernel, rfl⟩
theorem d0_47 : Dc code 47 (.iconst 2) 1 48 := ⟨by decide +kernel, rfl⟩
theorem d0_48 : Dc code 48 (.lload 6) 2 50 := ⟨by decide +kernel, rfl⟩
theorem d0_50 : Dc code 50 (.ldc2_w 15) 3 53 := ⟨by decide +kernel, rfl⟩
theorem d0_53 : Dc code 53 (.land) 1 54 := ⟨by decide +kernel, rfl⟩
theorem d0_54 : Dc code 54 (.lastore) 1 55 := ⟨by decide +kernel, rfl⟩
theorem d0_55 : Dc code 55 (.aload 12) 2 57 := ⟨by decide +kernel, rfl⟩
theorem d0_57 : Dc code 57 (.iconst 3) 1 58 := ⟨by decide +kernel, rfl⟩
theorem d0_58 : Dc code 58 (.lload 8) 2 60 := ⟨by decide +kernel, rfl⟩
theorem d0_60 : Dc code 60 (.ldc2_w 15) 3 63 := ⟨by decide +kernel, rfl⟩
theorem d0_63 : Dc code 63 (.land) 1 64 := ⟨by decide +kernel, rfl⟩
theorem d0_64 : Dc code 64 (.lastore) 1 65 := ⟨by decide +kernel, rfl⟩
theorem d0_266 : Dc code 266 (.aload 10) 2 268 := ⟨by decide +kernel, rfl⟩
theorem pd_6 : parseMethodDescriptor "()[J" = some ⟨[], some (.array .long)⟩ := by decide +kernel
theorem d0_268 : Dc code 268 (.invokevirtual 21) 3 271 := ⟨by decide +kernel, rfl⟩
theorem d0_271 : Dc code 271 (.astore 14) 2 273 := ⟨by decide +kernel, rfl⟩
theorem d0_273 : Dc code 273 (.aload 14) 2 275 := ⟨by decide +kernel, rfl⟩
theorem d0_275 : Dc code 275 (.arraylength) 1 276 := ⟨by decide +kernel, rfl⟩
theorem d0_276 : Dc code 276 (.iload 13) 2 278 := ⟨by decide +kernel, rfl⟩
theorem d0_278 : Bi code 278 (Instr.if_icmp .eq) 283 281 := ⟨5, by decide +kernel, by decide, by decide, rfl⟩
theorem d0_283 : Dc code 283 (.aload 14) 2 285 := ⟨by decide +kernel, rfl⟩
theorem d0_285 : Dc code 285 (.arraylength) 1 286 := ⟨by decide +kernel, rfl⟩
theorem d0_286 : Dc code 286 (.aload 10) 2 288 := ⟨by decide +kernel, rfl⟩
theorem pd_7 : parseMethodDescriptor "()I" = some ⟨[], some .int⟩ := by decide +kernel
theorem d0_288 : Dc code 288 (.invokevirtual 25) 3 291 := ⟨by decide +kernel, rfl⟩
theorem d0_291 : Bi code 291 (Instr.if_icmp .eq) 296 294 := ⟨5, by decide +kernel, by decide, by decide, rfl⟩
theorem d0_296 : Dc code 296 (.iload 11) 2 298 := ⟨by decide +kernel, rfl⟩
theorem d0_298 : Bi code 298 (Instr.ifCond .le) 315 301 := ⟨17, by decide +kernel, by decide, by decide, rfl⟩
theorem d0_301 : Dc code 301 (.aload 14) 2 303 := ⟨by decide +kernel, rfl⟩
theorem d0_303 : Dc code 303 (.aload 12) 2 305 := ⟨by decide +kernel, rfl⟩
theorem d0_305 : Dc code 305 (.iconst 0) 1 306 := ⟨by decide +kernel, rfl⟩
theorem d0_306 : Dc code 306 (.laload) 1 307 := ⟨by decide +kernel, rfl⟩
theorem pd_8 : parseMethodDescriptor "([JJ)Z" = some ⟨[(.array .long), .long], some .boolean⟩ := by decide +kernel
theorem d0_307 : Dc code 307 (.invokestatic 29) 3 310 := ⟨by decide +kernel, rfl⟩
theorem d0_310 : Bi code 310 (Instr.ifCond .ne) 315 313 := ⟨5, by decide +kernel, by decide, by decide, rfl⟩
theorem d0_315 : Dc code 315 (.iload 11) 2 317 := ⟨by decide +kernel, rfl⟩
theorem d0_317 : Dc code 317 (.iconst 1) 1 318 := ⟨by decide +kernel, rfl⟩
theorem d0_318 : Bi code 318 (Instr.if_icmp .le) 335 321 := ⟨17, by decide +kernel, by decide, by decide, rfl⟩
theorem d0_321 : Dc code 321 (.aload 14) 2 323 := ⟨by decide +kernel, rfl⟩
theorem d0_323 : Dc code 323 (.aload 12) 2 325 := ⟨by decide +kernel, rfl⟩
theorem d0_325 : Dc code 325 (.iconst 1) 1 326 := ⟨by decide +kernel, rfl⟩
theorem d0_326 : Dc code 326 (.laload) 1 327 := ⟨by decide +kernel, rfl⟩
theorem d0_327 : Dc code 327 (.invokestatic 29) 3 330 := ⟨by decide +kernel, rfl⟩
theorem d0_330 : Bi code 330 (Instr.ifCond .ne) 335 333 := ⟨5, by decide +kernel, by decide, by decide, rfl⟩
theorem d0_335 : Dc code 335 (.iload 11) 2 337 := ⟨by decide +kernel, rfl⟩
theorem d0_337 : Dc code 337 (.iconst 2) 1 338 := ⟨by decide +kernel, rfl⟩
theorem d0_338 : Bi code 338 (Instr.if_icmp .le) 355 341 := ⟨17, by decide +kernel, by decide, by decide, rfl⟩
theorem d0_341 : Dc code 341 (.aload 14) 2 343 := ⟨by decide +kernel, rfl⟩
theorem d0_343 : Dc code 343 (.aload 12) 2 345 := ⟨by decide +kernel, rfl⟩
theorem d0_345 : Dc code 345 (.iconst 2) 1 346 := ⟨by decide +kernel, rfl⟩
theorem d0_346 : Dc code 346 (.laload) 1 347 := ⟨by decide +kernel, rfl⟩
theorem d0_347 : Dc code 347 (.invokestatic 29) 3 350 := ⟨by decide +kernel, rfl⟩
theorem d0_350 : Bi code 350 (Instr.ifCond .ne) 355 353 := ⟨5, by decide +kernel, by decide, by decide, rfl⟩
theorem d0_355 : Dc code 355 (.iload 11) 2 357 := ⟨by decide +kernel, rfl⟩
theorem d0_357 : Dc code 357 (.iconst 3) 1 358 := ⟨by decide +kernel, rfl⟩
theorem d0_358 : Bi code 358 (Instr.if_icmp .le) 375 361 := ⟨17, by decide +kernel, by decide, by decide, rfl⟩
theorem d0_361 : Dc code 361 (.aload 14) 2 363 := ⟨by decide +kernel, rfl⟩
theorem d0_363 : Dc code 363 (.aload 12) 2 365 := ⟨by decide +kernel, rfl⟩
theorem d0_365 : Dc code 365 (.iconst 3) 1 366 := ⟨by decide +kernel, rfl⟩
theorem d0_366 : Dc code 366 (.laload) 1 367 := ⟨by decide +kernel, rfl⟩
theorem d0_367 : Dc code 367 (.invokestatic 29) 3 370 := ⟨by decide +kernel, rfl⟩
theorem d0_370 : Bi code 370 (Instr.ifCond .ne) 375 373 := ⟨5, by decide +kernel, by decide, by decide, rfl⟩
theorem d0_375 : Dc code 375 (.aload 14) 2 377 := ⟨by decide +kernel, rfl⟩
theorem d0_377 : Dc code 377 (.arraylength) 1 378 := ⟨by decide +kernel, rfl⟩
theorem d0_378 : Bi code 378 (Instr.ifCond .le) 397 381 := ⟨19, by decide +kernel, by decide, by decide, rfl⟩
theorem d0_381 : Dc code 381 (.aload 12) 2 383 := ⟨by decide +kernel, rfl⟩
theorem d0_383 : Dc code 383 (.iload 11) 2 385 := ⟨by decide +kernel, rfl⟩
theorem d0_385 : Dc code 385 (.aload 14) 2 387 := ⟨by decide +kernel, rfl⟩
theorem d0_387 : Dc code 387 (.iconst 0) 1 388 := ⟨by decide +kernel, rfl⟩
theorem d0_388 : Dc code 388 (.laload) 1 389 := ⟨by decide +kernel, rfl⟩
theorem pd_9 : parseMethodDescriptor "([JIJ)Z" = some ⟨[(.array .long), .int, .long], some .boolean⟩ := by decide +kernel
theorem d0_389 : Dc code 389 (.invokestatic 35) 3 392 := ⟨by decide +kernel, rfl⟩
theorem d0_392 : Bi code 392 (Instr.ifCond .ne) 397 395 := ⟨5, by decide +kernel, by decide, by decide, rfl⟩
theorem d0_397 : Dc code 397 (.aload 14) 2 399 := ⟨by decide +kernel, rfl⟩
theorem d0_399 : Dc code 399 (.arraylength) 1 400 := ⟨by decide +kernel, rfl⟩
theorem d0_400 : Dc code 400 (.iconst 1) 1 401 := ⟨by decide +kernel, rfl⟩
theorem d0_401 : Bi code 401 (Instr.if_icmp .le) 420 404 := ⟨19, by decide +kernel, by decide, by decide, rfl⟩
theorem d0_420 : Dc code 420 (.aload 14) 2 422 := ⟨by decide +kernel, rfl⟩
theorem d0_422 : Dc code 422 (.arraylength) 1 423 := ⟨by decide +kernel, rfl⟩
theorem d0_423 : Dc code 423 (.iconst 2) 1 424 := ⟨by decide +kernel, rfl⟩
theorem d0_424 : Bi code 424 (Instr.if_icmp .le) 443 427 := ⟨19, by decide +kernel, by decide, by decide, rfl⟩
theorem d0_443 : Dc code 443 (.aload 14) 2 445 := ⟨by decide +kernel, rfl⟩
theorem d0_445 : Dc code 445 (.arraylength) 1 446 := ⟨by decide +kernel, rfl⟩
theorem d0_446 : Dc code 446 (.iconst 3) 1 447 := ⟨by decide +kernel, rfl⟩
theorem d0_447 : Bi code 447 (Instr.if_icmp .le) 466 450 := ⟨19, by decide +kernel, by decide, by decide, rfl⟩
theorem d0_466 : Dc code 466 (.aload 14) 2 468 := ⟨by decide +kernel, rfl⟩
theorem pd_10 : parseMethodDescriptor "([J)Z" = some ⟨[(.array .long)], some .boolean⟩ := by decide +kernel
theorem d0_468 : Dc code 468 (.invokestatic 39) 3 471 := ⟨by decide +kernel, rfl⟩
theorem d0_471 : Bi code 471 (Instr.ifCond .ne) 476 474 := ⟨5, by decide +kernel, by decide, by decide, rfl⟩
theorem d0_476 : Dc code 476 (.aload 10) 2 478 := ⟨by decide +kernel, rfl⟩
theorem d0_478 : Dc code 478 (.invokevirtual 21) 3 481 := ⟨by decide +kernel, rfl⟩
theorem d0_481 : Dc code 481 (.astore 15) 2 483 := ⟨by decide +kernel, rfl⟩
theorem d0_483 : Dc code 483 (.aload 15) 2 485 := ⟨by decide +kernel, rfl⟩
theorem d0_485 : Dc code 485 (.aload 14) 2 487 := ⟨by decide +kernel, rfl⟩
theorem d0_487 : Bi code 487 (Instr.if_acmp .eq) 503 490 := ⟨16, by decide +kernel, by decide, by decide, rfl⟩
theorem d0_490 : Dc code 490 (.aload 15) 2 492 := ⟨by decide +kernel, rfl⟩
theorem d0_492 : Dc code 492 (.arraylength) 1 493 := ⟨by decide +kernel, rfl⟩
theorem d0_493 : Dc code 493 (.aload 14) 2 495 := ⟨by decide +kernel, rfl⟩
theorem d0_495 : Dc code 495 (.arraylength) 1 496 := ⟨by decide +kernel, rfl⟩
theorem d0_496 : Bi code 496 (Instr.if_icmp .ne) 503 499 := ⟨7, by decide +kernel, by decide, by decide, rfl⟩
theorem d0_499 : Dc code 499 (.iconst 1) 1 500 := ⟨by decide +kernel, rfl⟩
theorem d0_500 : Bi code 500 (Instr.goto) 504 503 := ⟨4, by decide +kernel, by decide, by decide, rfl⟩
theorem d0_504 : Dc code 504 (.ireturn) 1 505 := ⟨by decide +kernel, rfl⟩
theorem d0_404 : Dc code 404 (.aload 12) 2 406 := ⟨by decide +kernel, rfl⟩
theorem d0_406 : Dc code 406 (.iload 11) 2 408 := ⟨by decide +kernel, rfl⟩
theorem d0_408 : Dc code 408 (.aload 14) 2 410 := ⟨by decide +kernel, rfl⟩
theorem d0_410 : Dc code 410 (.iconst 1) 1 411 := ⟨by decide +kernel, rfl⟩
theorem d0_411 : Dc code 411 (.laload) 1 412 := ⟨by decide +kernel, rfl⟩
theorem d0_412 : Dc code 412 (.invokestatic 35) 3 415 := ⟨by decide +kernel, rfl⟩
theorem d0_415 : Bi code 415 (Instr.ifCond .ne) 420 418 := ⟨5, by decide +kernel, by decide, by decide, rfl⟩
theorem d0_427 : Dc code 427 (.aload 12) 2 429 := ⟨by decide +kernel, rfl⟩
theorem d0_429 : Dc code 429 (.iload 11) 2 431 := ⟨by decide +kernel, rfl⟩
theorem d0_431 : Dc code 431 (.aload 14) 2 433 := ⟨by decide +kernel, rfl⟩
theorem d0_433 : Dc code 433 (.iconst 2) 1 434 := ⟨by decide +kernel, rfl⟩
theorem d0_434 : Dc code 434 (.laload) 1 435 := ⟨by decide +kernel, rfl⟩
theorem d0_435 : Dc code 435 (.invokestatic 35) 3 438 := ⟨by decide +kernel, rfl⟩
theorem d0_438 : Bi code 438 (Instr.ifCond .ne) 443 441 := ⟨5, by decide +kernel, by decide, by decide, rfl⟩
theorem d0_450 : Dc code 450 (.aload 12) 2 452 := ⟨by decide +kernel, rfl⟩
theorem d0_452 : Dc code 452 (.iload 11) 2 454 := ⟨by decide +kernel, rfl⟩
theorem d0_454 : Dc code 454 (.aload 14) 2 456 := ⟨by decide +kernel, rfl⟩
theorem d0_456 : Dc code 456 (.iconst 3) 1 457 := ⟨by decide +kernel, rfl⟩
theorem d0_457 : Dc code 457 (.laload) 1 458 := ⟨by decide +kernel, rfl⟩
theorem d0_458 : Dc code 458 (.invokestatic 35) 3 461 := ⟨by decide +kernel, rfl⟩
theorem d0_461 : Bi code 461 (Instr.ifCond .ne) 466 464 := ⟨5, by decide +kernel, by decide, by decide, rfl⟩
theorem d0_211 : Dc code 211 (.iload 11) 2 213 := ⟨by decide +kernel, rfl⟩
theorem d0_213 : Dc code 213 (.iconst 3) 1 214 := ⟨by decide +kernel, rfl⟩
theorem d0_214 : Bi code 214 (Instr.if_icmp .le) 266 217 := ⟨52, by decide +kernel, by decide, by decide, rfl⟩
theorem d0_217 : Dc code 217 (.aload 10) 2 219 := ⟨by decide +kernel, rfl⟩
theorem d0_219 : Dc code 219 (.aload 12) 2 221 := ⟨by decide +kernel, rfl⟩
theorem d0_221 : Dc code 221 (.iconst 3) 1 222 := ⟨by decide +kernel, rfl⟩
theorem d0_222 : Dc code 222 (.laload) 1 223 := ⟨by decide +kernel, rfl⟩
theorem pd_11 : parseMethodDescriptor "(J)Z" = some ⟨[.long], some .boolean⟩ := by decide +kernel
theorem d0_223 : Dc code 223 (.invokevirtual 17) 3 226 := ⟨by decide +kernel, rfl⟩
theorem d0_226 : Dc code 226 (.pop) 1 227 := ⟨by decide +kernel, rfl⟩
theorem d0_227 : Dc code 227 (.aload 12) 2 229 := ⟨by decide +kernel, rfl⟩
theorem d0_229 : Dc code 229 (.iconst 3) 1 230 := ⟨by decide +kernel, rfl⟩
theorem d0_230 : Dc code 230 (.laload) 1 231 := ⟨by decide +kernel, rfl⟩
theorem d0_231 : Dc code 231 (.aload 12) 2 233 := ⟨by decide +kernel, rfl⟩
theorem d0_233 : Dc code 233 (.iconst 0) 1 234 := ⟨by decide +kernel, rfl⟩
theorem d0_234 : Dc code 234 (.laload) 1 235 := ⟨by decide +kernel, rfl⟩
theorem d0_235 : Dc code 235 (.lcmp) 1 236 := ⟨by decide +kernel, rfl⟩
theorem d0_236 : Bi code 236 (Instr.ifCond .eq) 266 239 := ⟨30, by decide +kernel, by decide, by decide, rfl⟩
theorem d0_239 : Dc code 239 (.aload 12) 2 241 := ⟨by decide +kernel, rfl⟩
theorem d0_241 : Dc code 241 (.iconst 3) 1 242 := ⟨by decide +kernel, rfl⟩
theorem d0_242 : Dc code 242 (.laload) 1 243 := ⟨by decide +kernel, rfl⟩
theorem d0_243 : Dc code 243 (.aload 12) 2 245 := ⟨by decide +kernel, rfl⟩
theorem d0_245 : Dc code 245 (.iconst 1) 1 246 := ⟨by decide +kernel, rfl⟩
theorem d0_246 : Dc code 246 (.laload) 1 247 := ⟨by decide +kernel, rfl⟩
theorem d0_247 : Dc code 247 (.lcmp) 1 248 := ⟨by decide +kernel, rfl⟩
theorem d0_248 : Bi code 248 (Instr.ifCond .eq) 266 251 := ⟨18, by decide +kernel, by decide, by decide, rfl⟩
theorem d0_251 : Dc code 251 (.aload 12) 2 253 := ⟨by decide +kernel, rfl⟩
theorem d0_253 : Dc code 253 (.iconst 3) 1 254 := ⟨by decide +kernel, rfl⟩
theorem d0_254 : Dc code 254 (.laload) 1 255 := ⟨by decide +kernel, rfl⟩
theorem d0_255 : Dc code 255 (.aload 12) 2 257 := ⟨by decide +kernel, rfl⟩
theorem d0_257 : Dc code 257 (.iconst 2) 1 258 := ⟨by decide +kernel, rfl⟩
theorem d0_258 : Dc code 258 (.laload) 1 259 := ⟨by decide +kernel, rfl⟩
theorem d0_259 : Dc code 259 (.lcmp) 1 260 := ⟨by decide +kernel, rfl⟩
theorem d0_260 : Bi code 260 (Instr.ifCond .eq) 266 263 := ⟨6, by decide +kernel, by decide, by decide, rfl⟩
theorem d0_263 : Dc code 263 (.iinc 13 1) 3 266 := ⟨by decide +kernel, rfl⟩
theorem d0_168 : Dc code 168 (.iload 11) 2 170 := ⟨by decide +kernel, rfl⟩
theorem d0_170 : Dc code 170 (.iconst 2) 1 171 := ⟨by decide +kernel, rfl⟩
theorem d0_171 : Bi code 171 (Instr.if_icmp .le) 211 174 := ⟨40, by decide +kernel, by decide, by decide, rfl⟩
theorem d0_174 : Dc code 174 (.aload 10) 2 176 := ⟨by decide +kernel, rfl⟩
theorem d0_176 : Dc code 176 (.aload 12) 2 178 := ⟨by decide +kernel, rfl⟩
theorem d0_178 : Dc code 178 (.iconst 2) 1 179 := ⟨by decide +kernel, rfl⟩
theorem d0_179 : Dc code 179 (.laload) 1 180 := ⟨by decide +kernel, rfl⟩
theorem d0_180 : Dc code 180 (.invokevirtual 17) 3 183 := ⟨by decide +kernel, rfl⟩
theorem d0_183 : Dc code 183 (.pop) 1 184 := ⟨by decide +kernel, rfl⟩
theorem d0_184 : Dc code 184 (.aload 12) 2 186 := ⟨by decide +kernel, rfl⟩
theorem d0_186 : Dc code 186 (.iconst 2) 1 187 := ⟨by decide +kernel, rfl⟩
theorem d0_187 : Dc code 187 (.laload) 1 188 := ⟨by decide +kernel, rfl⟩
theorem d0_188 : Dc code 188 (.aload 12) 2 190 := ⟨by decide +kernel, rfl⟩
theorem d0_190 : Dc code 190 (.iconst 0) 1 191 := ⟨by decide +kernel, rfl⟩
theorem d0_191 : Dc code 191 (.laload) 1 192 := ⟨by decide +kernel, rfl⟩
theorem d0_192 : Dc code 192 (.lcmp) 1 193 := ⟨by decide +kernel, rfl⟩
theorem d0_193 : Bi code 193 (Instr.ifCond .eq) 211 196 := ⟨18, by decide +kernel, by decide, by decide, rfl⟩
theorem d0_196 : Dc code 196 (.aload 12) 2 198 := ⟨by decide +kernel, rfl⟩
theorem d0_198 : Dc code 198 (.iconst 2) 1 199 := ⟨by decide +kernel, rfl⟩
theorem d0_199 : Dc code 199 (.laload) 1 200 := ⟨by decide +kernel, rfl⟩
theorem d0_200 : Dc code 200 (.aload 12) 2 202 := ⟨by decide +kernel, rfl⟩
theorem d0_202 : Dc code 202 (.iconst 1) 1 203 := ⟨by decide +kernel, rfl⟩
theorem d0_203 : Dc code 203 (.laload) 1 204 := ⟨by decide +kernel, rfl⟩
theorem d0_204 : Dc code 204 (.lcmp) 1 205 := ⟨by decide +kernel, rfl⟩
theorem d0_205 : Bi code 205 (Instr.ifCond .eq) 211 208 := ⟨6, by decide +kernel, by decide, by decide, rfl⟩
theorem d0_208 : Dc code 208 (.iinc 13 1) 3 211 := ⟨by decide +kernel, rfl⟩
theorem d0_137 : Dc code 137 (.iload 11) 2 139 := ⟨by decide +kernel, rfl⟩
theorem d0_139 : Dc code 139 (.iconst 1) 1 140 := ⟨by decide +kernel, rfl⟩
theorem d0_140 : Bi code 140 (Instr.if_icmp .le) 168 143 := ⟨28, by decide +kernel, by decide, by decide, rfl⟩
theorem d0_143 : Dc code 143 (.aload 10) 2 145 := ⟨by decide +kernel, rfl⟩
theorem d0_145 : Dc code 145 (.aload 12) 2 147 := ⟨by decide +kernel, rfl⟩
theorem d0_147 : Dc code 147 (.iconst 1) 1 148 := ⟨by decide +kernel, rfl⟩
theorem d0_148 : Dc code 148 (.laload) 1 149 := ⟨by decide +kernel, rfl⟩
theorem d0_149 : Dc code 149 (.invokevirtual 17) 3 152 := ⟨by decide +kernel, rfl⟩
theorem d0_152 : Dc code 152 (.pop) 1 153 := ⟨by decide +kernel, rfl⟩
theorem d0_153 : Dc code 153 (.aload 12) 2 155 := ⟨by decide +kernel, rfl⟩
theorem d0_155 : Dc code 155 (.iconst 1) 1 156 := ⟨by decide +kernel, rfl⟩
theorem d0_156 : Dc code 156 (.laload) 1 157 := ⟨by decide +kernel, rfl⟩
theorem d0_157 : Dc code 157 (.aload 12) 2 159 := ⟨by decide +kernel, rfl⟩
theorem d0_159 : Dc code 159 (.iconst 0) 1 160 := ⟨by decide +kernel, rfl⟩
theorem d0_160 : Dc code 160 (.laload) 1 161 := ⟨by decide +kernel, rfl⟩
theorem d0_161 : Dc code 161 (.lcmp) 1 162 := ⟨by decide +kernel, rfl⟩
theorem d0_162 : Bi code 162 (Instr.ifCond .eq) 168 165 := ⟨6, by decide +kernel, by decide, by decide, rfl⟩
theorem d0_165 : Dc code 165 (.iinc 13 1) 3 168 := ⟨by decide +kernel, rfl⟩
theorem d0_116 : Dc code 116 (.iconst 0) 1 117 := ⟨by decide +kernel, rfl⟩
theorem d0_117 : Dc code 117 (.istore 13) 2 119 := ⟨by decide +kernel, rfl⟩
theorem d0_119 : Dc code 119 (.iload 11) 2 121 := ⟨by decide +kernel, rfl⟩
theorem d0_121 : Bi code 121 (Instr.ifCond .le) 137 124 := ⟨16, by decide +kernel, by decide, by decide, rfl⟩
theorem d0_124 : Dc code 124 (.aload 10) 2 126 := ⟨by decide +kernel, rfl⟩
theorem d0_126 : Dc code 126 (.aload 12) 2 128 := ⟨by decide +kernel, rfl⟩
theorem d0_128 : Dc code 128 (.iconst 0) 1 129 := ⟨by decide +kernel, rfl⟩
theorem d0_129 : Dc code 129 (.laload) 1 130 := ⟨by decide +kernel, rfl⟩
theorem d0_130 : Dc code 130 (.invokevirtual 17) 3 133 := ⟨by decide +kernel, rfl⟩
theorem d0_133 : Dc code 133 (.pop) 1 134 := ⟨by decide +kernel, rfl⟩
theorem d0_134 : Dc code 134 (.iinc 13 1) 3 137 := ⟨by decide +kernel, rfl⟩
theorem d0_65 : Dc code 65 (.iload_n 1) 1 66 := ⟨by decide +kernel, rfl⟩
theorem d0_66 : Dc code 66 (.bipush 8) 2 68 := ⟨by decide +kernel, rfl⟩
theorem d0_68 : Dc code 68 (.iushr) 1 69 := ⟨by decide +kernel, rfl⟩
theorem d0_69 : Dc code 69 (.iconst 1) 1 70 := ⟨by decide +kernel, rfl⟩
theorem d0_70 : Dc code 70 (.iand) 1 71 := ⟨by decide +kernel, rfl⟩
theorem d0_71 : Bi code 71 (Instr.ifCond .eq) 82 74 := ⟨11, by decide +kernel, by decide, by decide, rfl⟩
theorem d0_82 : Dc code 82 (.iload_n 1) 1 83 := ⟨by decide +kernel, rfl⟩
theorem d0_83 : Dc code 83 (.bipush 9) 2 85 := ⟨by decide +kernel, rfl⟩
theorem d0_85 : Dc code 85 (.iushr) 1 86 := ⟨by decide +kernel, rfl⟩
theorem d0_86 : Dc code 86 (.iconst 1) 1 87 := ⟨by decide +kernel, rfl⟩
theorem d0_87 : Dc code 87 (.iand) 1 88 := ⟨by decide +kernel, rfl⟩
theorem d0_88 : Bi code 88 (Instr.ifCond .eq) 99 91 := ⟨11, by decide +kernel, by decide, by decide, rfl⟩
theorem d0_99 : Dc code 99 (.iload_n 1) 1 100 := ⟨by decide +kernel, rfl⟩
theorem d0_100 : Dc code 100 (.bipush 10) 2 102 := ⟨by decide +kernel, rfl⟩
theorem d0_102 : Dc code 102 (.iushr) 1 103 := ⟨by decide +kernel, rfl⟩
theorem d0_103 : Dc code 103 (.iconst 1) 1 104 := ⟨by decide +kernel, rfl⟩
theorem d0_104 : Dc code 104 (.iand) 1 105 := ⟨by decide +kernel, rfl⟩
theorem d0_105 : Bi code 105 (Instr.ifCond .eq) 116 108 := ⟨11, by decide +kernel, by decide, by decide, rfl⟩
theorem d0_108 : Dc code 108 (.aload 12) 2 110 := ⟨by decide +kernel, rfl⟩
theorem d0_110 : Dc code 110 (.iconst 2) 1 111 := ⟨by decide +kernel, rfl⟩
theorem d0_111 : Dc code 111 (.aload 12) 2 113 := ⟨by decide +kernel, rfl⟩
theorem d0_113 : Dc code 113 (.iconst 0) 1 114 := ⟨by decide +kernel, rfl⟩
theorem d0_114 : Dc code 114 (.laload) 1 115 := ⟨by decide +kernel, rfl⟩
theorem d0_115 : Dc code 115 (.lastore) 1 116 := ⟨by decide +kernel, rfl⟩
theorem d0_91 : Dc code 91 (.aload 12) 2 93 := ⟨by decide +kernel, rfl⟩
theorem d0_93 : Dc code 93 (.iconst 3) 1 94 := ⟨by decide +kernel, rfl⟩
theorem d0_94 : Dc code 94 (.aload 12) 2 96 := ⟨by decide +kernel, rfl⟩
theorem d0_96 : Dc code 96 (.iconst 2) 1 97 := ⟨by decide +kernel, rfl⟩
theorem d0_97 : Dc code 97 (.laload) 1 98 := ⟨by decide +kernel, rfl⟩
theorem d0_98 : Dc code 98 (.lastore) 1 99 := ⟨by decide +kernel, rfl⟩
theorem d0_74 : Dc code 74 (.aload 12) 2 76 := ⟨by decide +kernel, rfl⟩
theorem d0_76 : Dc code 76 (.iconst 1) 1 77 := ⟨by decide +kernel, rfl⟩
theorem d0_77 : Dc code 77 (.aload 12) 2 79 := ⟨by decide +kernel, rfl⟩
theorem d0_79 : Dc code 79 (.iconst 0) 1 80 := ⟨by decide +kernel, rfl⟩
theorem d0_80 : Dc code 80 (.laload) 1 81 := ⟨by decide +kernel, rfl⟩
theorem d0_81 : Dc code 81 (.lastore) 1 82 := ⟨by decide +kernel, rfl⟩
theorem pn_rm0 : plainName "com/example/gridsmith/gridsmith/LongSetToArrayPinLaw" = true := by first | (simp [plainName, overriddenIn]; done) | decide +kernel
set_option maxRecDepth 65536 in
set_option maxHeartbeats 40000000 in
theorem rm0 (l : Launch) (Z : State) (a0 : Array Value) (hw : ∀ d ∈ tables_1, d.before a0 Z = true) (ie ifl : Int32) (ja jb jc jd : Int64) (h0 : Heap) (OL : Old Z Z.heap.size h0) :
    Met l Z x code maxLocals ret room_1 #[(.int ie), (.int ifl), (.long ja), (.long jb), (.long jc), (.long jd)] h0 (fun v _ => v = some (.int 1)) := by
  refine met_of (Ls := #[.val (.int ie), .val (.int ifl), .val (.long ja), .second, .val (.long jb), .second, .val (.long jc), .second, .val (.long jd), .second, .unset, .unset, .unset, .unset, .unset, .unset]) (plainFor_of_name pn_rm0) (fun m => by first | (simp [entryFrame, mkF, argsToLocals, Value.category, maxLocals]; done) | rfl) (fun p e s m below meth c cx => ?_)
  refine g_new cx d0_0 (hw _ (List.mem_of_getElem? (i := 0) rfl)) (hw _ (List.mem_of_getElem? (i := 1) rfl)) (hw _ (List.mem_of_getElem? (i := 2) rfl)) (k' := 1) (n' := 2) rfl rfl (by decide) (by decide) (fun h1 b2 gb3 E4 X5 D6 => ?_)
  have g_b2 : Z.heap.size ≤ b2 := by rw [gb3]; exact OL.2.1
  have OL := OL.ext E4
  have O_b2 := ObS.new hw X5 D6
  refine g_dup cx d0_3 rfl ?_
  refine g_iloadN cx d0_4 rfl ?_
  refine g_bipush cx d0_5 (v := (63 : Int32)) rfl ?_
  refine g_iand cx d0_7 ?_
  refine g_special cx (y := (⟨"com/example/gridsmith/gridsmith/LongSet", "<init>", "(I)V"⟩ : MethodName)) (a := b2) d0_8 rfl rfl (hw _ (List.mem_of_getElem? (i := 3) rfl)) (hw _ (List.mem_of_getElem? (i := 4) rfl)) (hw _ (List.mem_of_getElem? (i := 2) rfl)) (hw _ (List.mem_of_getElem? (i := 5) rfl)) (by decide) (bytes := prog_22_method_2_code) (maxL' := 2) (M := (rmini l Z a0 hw ie b2 _ O_b2 g_b2 OL)) rfl (lenOf pd_5 rfl) (by decide) (W := 1) (Nat.le_of_eq rfl) (by decide) (k' := 2) (n' := 130) rfl rfl (by decide) (by decide) (argsL := [(.int (ie &&& (63 : Int32)))]) (rest := [(.ref b2)]) rfl (fun v8 h7 q9 => ?_)
  obtain ⟨t, cT, z, rfl, hz, KI, st_t, OB, A_t⟩ := q9
  have ne_b2_t : b2 ≠ t := Nat.ne_of_lt (Nat.lt_of_lt_of_le O_b2.lt st_t)
  have g_t : Z.heap.size ≤ t := Nat.le_trans OL.2.1 st_t
  have OL := OL.keep KI (allS g_b2 all0)
  have O_b2 := OB
  refine G.cast (st' := [(.ref b2)]) ?_ rfl
  refine g_astore cx d0_11 rfl (Ls' := #[.val (.int ie), .val (.int ifl), .val (.long ja), .second, .val (.long jb), .second, .val (.long jc), .second, .val (.long jd), .second, .val (.ref b2), .unset, .unset, .unset, .unset, .unset]) rfl ?_
  refine g_iloadN cx d0_13 rfl ?_
  refine g_ldcI cx d0_14 (hw _ (List.mem_of_getElem? (i := 33) rfl)) ?_
  refine g_iand cx d0_16 ?_
  refine g_iconst cx d0_17 (v := (5 : Int32)) rfl ?_
  refine g_irem cx d0_18 (by decide) ?_
  refine g_istore cx d0_19 (Ls' := #[.val (.int ie), .val (.int ifl), .val (.long ja), .second, .val (.long jb), .second, .val (.long jc), .second, .val (.long jd), .second, .val (.ref b2), .val (.int ((ifl &&& (2147483647 : Int32)) % (5 : Int32))), .unset, .unset, .unset, .unset]) rfl ?_
  refine g_iconst cx d0_21 (v := (4 : Int32)) rfl ?_
  refine g_newarray cx (ad := "[J") (by decide) d0_22 (hw _ (List.mem_of_getElem? (i := 25) rfl)) (by decide) (cap := 4) (by decide) (by decide) (k' := 3) (n' := 134) rfl rfl (by decide) (by decide) (fun h10 b11 cA12 gb13 E14 X15 => ?_)
  have ne_b2_b11 : b2 ≠ b11 := Nat.ne_of_lt (by rw [gb13]; exact O_b2.lt)
  have ne_t_b11 : t ≠ b11 := Nat.ne_of_lt (by rw [gb13]; exact A_t.lt)
  have g_b11 : Z.heap.size ≤ b11 := by rw [gb13]; exact OL.2.1
  have O_b2 := O_b2.ext E14
  have A_t := A_t.ext E14
  have OL := OL.ext E14
  have A_b11 : Arx Z h10 b11 cA12 .long (4 : Int32) [(.long (0 : Int64)), (.long (0 : Int64)), (.long (0 : Int64)), (.long (0 : Int64))] (.long (0 : Int64)) "[J" := X15.pad (pad_rep [] (.long (0 : Int64)) 4)
  refine g_astore cx d0_24 rfl (Ls' := #[.val (.int ie), .val (.int ifl), .val (.long ja), .second, .val (.long jb), .second, .val (.long jc), .second, .val (.long jd), .second, .val (.ref b2), .val (.int ((ifl &&& (2147483647 : Int32)) % (5 : Int32))), .val (.ref b11), .unset, .unset, .unset]) rfl ?_
  refine g_aload cx d0_26 rfl rfl ?_
  refine g_iconst cx d0_28 (v := (0 : Int32)) rfl ?_
  refine g_lloadN cx d0_29 rfl ?_
  refine g_ldcJ cx d0_30 (hw _ (List.mem_of_getElem? (i := 34) rfl)) ?_
  refine g_land cx d0_33 ?_
  refine g_lastore cx d0_34 A_b11 ⟨by decide, by decide⟩ (Nat.le_of_ble_eq_true rfl) g_b11 (fun h16 W17 AA18 => ?_)
  have O_b2 := O_b2.oth W17 ne_b2_b11
  have A_t := A_t.other W17 ne_t_b11
  have A_b11 : Arx Z h16 b11 cA12 .long (4 : Int32) [(.long (ja &&& (9223372036854775807 : Int64))), (.long (0 : Int64)), (.long (0 : Int64)), (.long (0 : Int64))] (.long (0 : Int64)) "[J" := AA18
  have OL := OL.wr W17 g_b11
  refine g_aload cx d0_35 rfl rfl ?_
  refine g_iconst cx d0_37 (v := (1 : Int32)) rfl ?_
  refine g_lload cx d0_38 rfl ?_
  refine g_ldcJ cx d0_40 (hw _ (List.mem_of_getElem? (i := 34) rfl)) ?_
  refine g_land cx d0_43 ?_
  refine g_lastore cx d0_44 A_b11 ⟨by decide, by decide⟩ (Nat.le_of_ble_eq_true rfl) g_b11 (fun h19 W20 AA21 => ?_)
  have O_b2 := O_b2.oth W20 ne_b2_b11
  have A_t := A_t.other W20 ne_t_b11
  have A_b11 : Arx Z h19 b11 cA12 .long (4 : Int32) [(.long (ja &&& (9223372036854775807 : Int64))), (.long (jb &&& (9223372036854775807 : Int64))), (.long (0 : Int64)), (.long (0 : Int64))] (.long (0 : Int64)) "[J" := AA21
  have OL := OL.wr W20 g_b11
  refine g_aload cx d0_45 rfl rfl ?_
  refine g_iconst cx d0_47 (v := (2 : Int32)) rfl ?_
  refine g_lload cx d0_48 rfl ?_
  refine g_ldcJ cx d0_50 (hw _ (List.mem_of_getElem? (i := 34) rfl)) ?_
  refine g_land cx d0_53 ?_
  refine g_lastore cx d0_54 A_b11 ⟨by decide, by decide⟩ (Nat.le_of_ble_eq_true rfl) g_b11 (fun h22 W23 AA24 => ?_)
  have O_b2 := O_b2.oth W23 ne_b2_b11
  have A_t := A_t.other W23 ne_t_b11
  have A_b11 : Arx Z h22 b11 cA12 .long (4 : Int32) [(.long (ja &&& (9223372036854775807 : Int64))), (.long (jb &&& (9223372036854775807 : Int64))), (.long (jc &&& (9223372036854775807 : Int64))), (.long (0 : Int64))] (.long (0 : Int64)) "[J" := AA24
  have OL := OL.wr W23 g_b11
  refine g_aload cx d0_55 rfl rfl ?_
  refine g_iconst cx d0_57 (v := (3 : Int32)) rfl ?_
  refine g_lload cx d0_58 rfl ?_
  refine g_ldcJ cx d0_60 (hw _ (List.mem_of_getElem? (i := 34) rfl)) ?_
  refine g_land cx d0_63 ?_
  refine g_lastore cx d0_64 A_b11 ⟨by decide, by decide⟩ (Nat.le_of_ble_eq_true rfl) g_b11 (fun h25 W26 AA27 => ?_)
  have O_b2 := O_b2.oth W26 ne_b2_b11
  have A_t := A_t.other W26 ne_t_b11
  have A_b11 : Arx Z h25 b11 cA12 .long (4 : Int32) [(.long (ja &&& (9223372036854775807 : Int64))), (.long (jb &&& (9223372036854775807 : Int64))), (.long (jc &&& (9223372036854775807 : Int64))), (.long (jd &&& (9223372036854775807 : Int64)))] (.long (0 : Int64)) "[J" := AA27
  have OL := OL.wr W26 g_b11
  have J0 : ∀ (w0 w1 w2 w3 : Int64) (h : Heap) (f : Nat → Int64) (sz : Int32), w0 ≠ own_E → w1 ≠ own_E → w2 ≠ own_E → w3 ≠ own_E → Old Z Z.heap.size h → ObS Z h b2 (.ref t) (.int sz) → Arx Z h t cT .long z (own_lr z.toNatClampNeg f) (.long 0) "[J" → Arx Z h b11 cA12 .long (4 : Int32) [(.long w0), (.long w1), (.long w2), (.long w3)] (.long (0 : Int64)) "[J" → own_pr z.toNatClampNeg (own_hn z) f → own_ij z.toNatClampNeg f → sz.toInt = ((own_ls f z.toNatClampNeg).length : Int) → (own_ls f z.toNatClampNeg).length ≤ 0 → (∀ x, x ∈ own_ls f z.toNatClampNeg ↔ x ∈ ([] : List Int64)) → G p l e room_1 s m #[.int ie, .int ifl, .long ja, .long jb, .long jc, .long jd] below meth c Z.heap.size (fun v _ => v = some (.int 1)) h 3 134 116 #[.val (.int ie), .val (.int ifl), .val (.long ja), .second, .val (.long jb), .second, .val (.long jc), .second, .val (.long jd), .second, .val (.ref b2), .val (.int ((ifl &&& (2147483647 : Int32)) % (5 : Int32))), .val (.ref b11), .unset, .unset, .unset] [] := by
    intro w0 w1 w2 w3 h f sz y0 y1 y2 y3 OL O_b2 A_t A_b11 HP1 HP2 hsz hle hM
    have hd : (0 : Int32).toInt = ((own_ls f z.toNatClampNeg).length : Int) := by have e0 : (0 : Int32).toInt = 0 := rfl; omega
    have J4 : ∀ (h : Heap) (f : Nat → Int64) (sz dd : Int32), Old Z Z.heap.size h → ObS Z h b2 (.ref t) (.int sz) → Arx Z h t cT .long z (own_lr z.toNatClampNeg f) (.long 0) "[J" → Arx Z h b11 cA12 .long (4 : Int32) [(.long w0), (.long w1), (.long w2), (.long w3)] (.long (0 : Int64)) "[J" → own_pr z.toNatClampNeg (own_hn z) f → own_ij z.toNatClampNeg f → sz.toInt = ((own_ls f z.toNatClampNeg).length : Int) → dd.toInt = ((own_ls f z.toNatClampNeg).length : Int) → (own_ls f z.toNatClampNeg).length ≤ 4 → (∀ x, x ∈ own_ls f z.toNatClampNeg ↔ x ∈ ([w3, w2, w1, w0] : List Int64)) → ((3 : Int32)) < ((ifl &&& (2147483647 : Int32)) % (5 : Int32)) → G p l e room_1 s m #[.int ie, .int ifl, .long ja, .long jb, .long jc, .long jd] below meth c Z.heap.size (fun v _ => v = some (.int 1)) h 3 134 266 #[.val (.int ie), .val (.int ifl), .val (.long ja), .second, .val (.long jb), .second, .val (.long jc), .second, .val (.long jd), .second, .val (.ref b2), .val (.int ((ifl &&& (2147483647 : Int32)) % (5 : Int32))), .val (.ref b11), .val (.int dd), .unset, .unset] [] := by
      intro h f sz dd OL O_b2 A_t A_b11 HP1 HP2 hsz hd hle hM hnk
      have Dhs5001 : ((ifl &&& (2147483647 : Int32)) % (5 : Int32)) = (4 : Int32) := by
        have i_hnk : ((3 : Int32)).toInt < (((ifl &&& (2147483647 : Int32)) % (5 : Int32))).toInt := Int32.lt_iff_toInt_lt.mp hnk
        have r3 := rng32 ifl
        have e2 : ((ifl &&& (2147483647 : Int32))).toInt = (ifl).toInt % 2147483648 := c_mask ifl (2147483647 : Int32) 31 (by decide) (by decide)
        have e1 : (0 ≤ ((ifl &&& (2147483647 : Int32))).toInt → (((ifl &&& (2147483647 : Int32)) % (5 : Int32))).toInt = ((ifl &&& (2147483647 : Int32))).toInt % 5) ∧ (((ifl &&& (2147483647 : Int32))).toInt < 0 → (((ifl &&& (2147483647 : Int32)) % (5 : Int32))).toInt = -((-((ifl &&& (2147483647 : Int32))).toInt) % 5)) := c_irem (ifl &&& (2147483647 : Int32)) (5 : Int32) 5 rfl
        have e4 : (4 : Int32).toInt = 4 := rfl
        have e5 : (3 : Int32).toInt = 3 := rfl
        simp only [← Int32.toInt_inj]
        omega
      have hs5001 := Dhs5001
      rw [hs5001]
      refine g_aload cx d0_266 rfl rfl ?_
      refine g_virtual cx (y := (⟨"com/example/gridsmith/gridsmith/LongSet", "toArray", "()[J"⟩ : MethodName)) (z := (⟨"com/example/gridsmith/gridsmith/LongSet", "toArray", "()[J"⟩ : MethodName)) (a := b2) d0_268 (hw _ (List.mem_of_getElem? (i := 49) rfl)) (hw _ (List.mem_of_getElem? (i := 50) rfl)) (hw _ (List.mem_of_getElem? (i := 2) rfl)) (hw _ (List.mem_of_getElem? (i := 53) rfl)) (hw _ (List.mem_of_getElem? (i := 52) rfl)) (hw _ (List.mem_of_getElem? (i := 51) rfl)) rfl (by decide) O_b2.1 (bytes := prog_22_method_7_code) (maxL' := 8) (M := (rmta l Z a0 hw (own_ls f z.toNatClampNeg).length b2 t z hz f cT sz _ O_b2 A_t hsz rfl (Nat.le_trans hle (by decide)) ne_b2_t OL)) rfl (lenOf pd_6 rfl) (by decide) (W := 0) (Nat.le_of_eq rfl) (by decide) (k' := 4) (n' := 138) rfl rfl (by decide) (by decide) (argsL := []) (rest := []) rfl (fun v5006 h5005 q5007 => ?_)
      obtain ⟨o5002, cO5003, rfl, K5004, st_o5002, A_o5002⟩ := q5007
      have g_o5002 : Z.heap.size ≤ o5002 := Nat.le_trans OL.2.1 st_o5002
      have ne_b2_o5002 : b2 ≠ o5002 := Nat.ne_of_lt (Nat.lt_of_lt_of_le O_b2.lt st_o5002)
      have ne_t_o5002 : t ≠ o5002 := Nat.ne_of_lt (Nat.lt_of_lt_of_le A_t.lt st_o5002)
      have ne_b11_o5002 : b11 ≠ o5002 := Nat.ne_of_lt (Nat.lt_of_lt_of_le A_b11.lt st_o5002)
      have O_b2 := O_b2.keep K5004 nin0
      have A_t := A_t.keep K5004 nin0
      have A_b11 := A_b11.keep K5004 nin0
      have OL := OL.keep K5004 all0
      refine G.cast (st' := [(.ref o5002)]) ?_ rfl
      have hnd := own_nodup z.toNatClampNeg HP2
      rcases own_shape (Nat.le_trans hle (by decide : 4 ≤ 4)) with hA | ⟨u0, hA⟩ | ⟨u0, u1, hA⟩ | ⟨u0, u1, u2, hA⟩ | ⟨u0, u1, u2, u3, hA⟩
      · exact absurd ((hM w0).mpr (by simp)) (by rw [hA]; simp)
      · have szq : sz = (1 : Int32) := Int32.toInt_inj.mp (by rw [hsz, hA]; rfl)
        subst szq
        have ddq : dd = (1 : Int32) := Int32.toInt_inj.mp (by rw [hd, hA]; rfl)
        subst ddq
        have hMA : ∀ x, x ∈ ([u0] : List Int64) ↔ x ∈ ([w3, w2, w1, w0] : List Int64) := fun x => own_rwM hA (hM x)
        have hND : ([u0] : List Int64).Nodup := own_rwN hA hnd
        rw [hA] at A_o5002
        simp only [List.map_cons, List.map_nil] at A_o5002
        refine g_astore cx d0_271 rfl (Ls' := #[.val (.int ie), .val (.int ifl), .val (.long ja), .second, .val (.long jb), .second, .val (.long jc), .second, .val (.long jd), .second, .val (.ref b2), .val (.int (4 : Int32)), .val (.ref b11), .val (.int (1 : Int32)), .val (.ref o5002), .unset]) rfl ?_
        refine g_aload cx d0_273 rfl rfl ?_
        refine g_arraylength cx d0_275 A_o5002.1 ?_
        refine g_iload cx d0_276 rfl ?_
        refine g_icmp_eq cx d0_278 (fun hc278 => ?_) (fun q => absurd q (fun q => by revert q; decide))
        refine g_aload cx d0_283 rfl rfl ?_
        refine g_arraylength cx d0_285 A_o5002.1 ?_
        refine g_aload cx d0_286 rfl rfl ?_
        refine g_virtual cx (y := (⟨"com/example/gridsmith/gridsmith/LongSet", "size", "()I"⟩ : MethodName)) (z := (⟨"com/example/gridsmith/gridsmith/LongSet", "size", "()I"⟩ : MethodName)) (a := b2) d0_288 (hw _ (List.mem_of_getElem? (i := 54) rfl)) (hw _ (List.mem_of_getElem? (i := 55) rfl)) (hw _ (List.mem_of_getElem? (i := 2) rfl)) (hw _ (List.mem_of_getElem? (i := 58) rfl)) (hw _ (List.mem_of_getElem? (i := 57) rfl)) (hw _ (List.mem_of_getElem? (i := 56) rfl)) rfl (by decide) O_b2.1 (bytes := prog_22_method_5_code) (maxL' := 1) (M := (rmsg l Z a0 hw b2 t (1 : Int32) _ O_b2)) rfl (lenOf pd_7 rfl) (by decide) (W := 1) (Nat.le_of_eq rfl) (by decide) (k' := 4) (n' := 138) rfl rfl (by decide) (by decide) (argsL := []) (rest := [(.int (1 : Int32))]) rfl (fun v5009 h5008 q5010 => ?_)
        obtain ⟨rfl, rfl⟩ := q5010
        refine G.cast (st' := [(.int (1 : Int32)), (.int (1 : Int32))]) ?_ rfl
        refine g_icmp_eq cx d0_291 (fun hc291 => ?_) (fun q => absurd q (fun q => by revert q; decide))
        refine g_iload cx d0_296 rfl ?_
        refine g_if_le cx d0_298 (fun q => absurd q (fun q => by revert q; decide)) (fun hc298 => ?_)
        refine g_aload cx d0_301 rfl rfl ?_
        refine g_aload cx d0_303 rfl rfl ?_
        refine g_iconst cx d0_305 (v := (0 : Int32)) rfl ?_
        refine g_laload cx d0_306 A_b11.1 ⟨by decide, by decide⟩ (v := (.long w0)) rfl ?_
        refine g_static cx (y := (⟨"com/example/gridsmith/gridsmith/LongSetToArrayPinLaw", "has", "([JJ)Z"⟩ : MethodName)) d0_307 (hw _ (List.mem_of_getElem? (i := 59) rfl)) (hw _ (List.mem_of_getElem? (i := 60) rfl)) (hw _ (List.mem_of_getElem? (i := 61) rfl)) (hw _ (List.mem_of_getElem? (i := 62) rfl)) (by decide) (bytes := method_3_code) (maxL' := 3) (M := (rmhas1 l Z a0 hw o5002 cO5003 u0 w0 _ A_o5002)) rfl (lenOf pd_8 rfl) (by decide) (W := 0) (Nat.le_of_eq rfl) (by decide) (k' := 4) (n' := 138) rfl rfl (by decide) (by decide) (argsL := [(.ref o5002), (.long w0)]) (rest := []) rfl (fun v5012 h5011 q5013 => ?_)
        obtain ⟨rfl, rfl⟩ := q5013
        refine G.cast (st' := [(.int (own_mem [u0] w0))]) ?_ rfl
        refine g_if_ne cx d0_310 (fun hc310 => ?_) (fun q => absurd q (fun q => own_memF ((hMA _).mpr (by simp)) q))
        refine g_iload cx d0_315 rfl ?_
        refine g_iconst cx d0_317 (v := (1 : Int32)) rfl ?_
        refine g_icmp_le cx d0_318 (fun q => absurd q (fun q => by revert q; decide)) (fun hc318 => ?_)
        refine g_aload cx d0_321 rfl rfl ?_
        refine g_aload cx d0_323 rfl rfl ?_
        refine g_iconst cx d0_325 (v := (1 : Int32)) rfl ?_
        refine g_laload cx d0_326 A_b11.1 ⟨by decide, by decide⟩ (v := (.long w1)) rfl ?_
        refine g_static cx (y := (⟨"com/example/gridsmith/gridsmith/LongSetToArrayPinLaw", "has", "([JJ)Z"⟩ : MethodName)) d0_327 (hw _ (List.mem_of_getElem? (i := 59) rfl)) (hw _ (List.mem_of_getElem? (i := 60) rfl)) (hw _ (List.mem_of_getElem? (i := 61) rfl)) (hw _ (List.mem_of_getElem? (i := 62) rfl)) (by decide) (bytes := method_3_code) (maxL' := 3) (M := (rmhas1 l Z a0 hw o5002 cO5003 u0 w1 _ A_o5002)) rfl (lenOf pd_8 rfl) (by decide) (W := 0) (Nat.le_of_eq rfl) (by decide) (k' := 4) (n' := 138) rfl rfl (by decide) (by decide) (argsL := [(.ref o5002), (.long w1)]) (rest := []) rfl (fun v5015 h5014 q5016 => ?_)
        obtain ⟨rfl, rfl⟩ := q5016
        refine G.cast (st' := [(.int (own_mem [u0] w1))]) ?_ rfl
        refine g_if_ne cx d0_330 (fun hc330 => ?_) (fun q => absurd q (fun q => own_memF ((hMA _).mpr (by simp)) q))
        refine g_iload cx d0_335 rfl ?_
        refine g_iconst cx d0_337 (v := (2 : Int32)) rfl ?_
        refine g_icmp_le cx d0_338 (fun q => absurd q (fun q => by revert q; decide)) (fun hc338 => ?_)
        refine g_aload cx d0_341 rfl rfl ?_
        refine g_aload cx d0_343 rfl rfl ?_
        refine g_iconst cx d0_345 (v := (2 : Int32)) rfl ?_
        refine g_laload cx d0_346 A_b11.1 ⟨by decide, by decide⟩ (v := (.long w2)) rfl ?_
        refine g_static cx (y := (⟨"com/example/gridsmith/gridsmith/LongSetToArrayPinLaw", "has", "([JJ)Z"⟩ : MethodName)) d0_347 (hw _ (List.mem_of_getElem? (i := 59) rfl)) (hw _ (List.mem_of_getElem? (i := 60) rfl)) (hw _ (List.mem_of_getElem? (i := 61) rfl)) (hw _ (List.mem_of_getElem? (i := 62) rfl)) (by decide) (bytes := method_3_code) (maxL' := 3) (M := (rmhas1 l Z a0 hw o5002 cO5003 u0 w2 _ A_o5002)) rfl (lenOf pd_8 rfl) (by decide) (W := 0) (Nat.le_of_eq rfl) (by decide) (k' := 4) (n' := 138) rfl rfl (by decide) (by decide) (argsL := [(.ref o5002), (.long w2)]) (rest := []) rfl (fun v5018 h5017 q5019 => ?_)
        obtain ⟨rfl, rfl⟩ := q5019
        refine G.cast (st' := [(.int (own_mem [u0] w2))]) ?_ rfl
        refine g_if_ne cx d0_350 (fun hc350 => ?_) (fun q => absurd q (fun q => own_memF ((hMA _).mpr (by simp)) q))
        refine g_iload cx d0_355 rfl ?_
        refine g_iconst cx d0_357 (v := (3 : Int32)) rfl ?_
        refine g_icmp_le cx d0_358 (fun q => absurd q (fun q => by revert q; decide)) (fun hc358 => ?_)
        refine g_aload cx d0_361 rfl rfl ?_
        refine g_aload cx d0_363 rfl rfl ?_
        refine g_iconst cx d0_365 (v := (3 : Int32)) rfl ?_
        refine g_laload cx d0_366 A_b11.1 ⟨by decide, by decide⟩ (v := (.long w3)) rfl ?_
        refine g_static cx (y := (⟨"com/example/gridsmith/gridsmith/LongSetToArrayPinLaw", "has", "([JJ)Z"⟩ : MethodName)) d0_367 (hw _ (List.mem_of_getElem? (i := 59) rfl)) (hw _ (List.mem_of_getElem? (i := 60) rfl)) (hw _ (List.mem_of_getElem? (i := 61) rfl)) (hw _ (List.mem_of_getElem? (i := 62) rfl)) (by decide) (bytes := method_3_code) (maxL' := 3) (M := (rmhas1 l Z a0 hw o5002 cO5003 u0 w3 _ A_o5002)) rfl (lenOf pd_8 rfl) (by decide) (W := 0) (Nat.le_of_eq rfl) (by decide) (k' := 4) (n' := 138) rfl rfl (by decide) (by decide) (argsL := [(.ref o5002), (.long w3)]) (rest := []) rfl (fun v5021 h5020 q5022 => ?_)
        obtain ⟨rfl, rfl⟩ := q5022
        refine G.cast (st' := [(.int (own_mem [u0] w3))]) ?_ rfl
        refine g_if_ne cx d0_370 (fun hc370 => ?_) (fun q => absurd q (fun q => own_memF ((hMA _).mpr (by simp)) q))
        refine g_aload cx d0_375 rfl rfl ?_
        refine g_arraylength cx d0_377 A_o5002.1 ?_
        refine g_if_le cx d0_378 (fun q => absurd q (fun q => by revert q; decide)) (fun hc378 => ?_)
        refine g_aload cx d0_381 rfl rfl ?_
        refine g_iload cx d0_383 rfl ?_
        refine g_aload cx d0_385 rfl rfl ?_
        refine g_iconst cx d0_387 (v := (0 : Int32)) rfl ?_
        refine g_laload cx d0_388 A_o5002.1 ⟨by decide, by decide⟩ (v := (.long u0)) rfl ?_
        refine g_static cx (y := (⟨"com/example/gridsmith/gridsmith/LongSetToArrayPinLaw", "among", "([JIJ)Z"⟩ : MethodName)) d0_389 (hw _ (List.mem_of_getElem? (i := 63) rfl)) (hw _ (List.mem_of_getElem? (i := 64) rfl)) (hw _ (List.mem_of_getElem? (i := 61) rfl)) (hw _ (List.mem_of_getElem? (i := 65) rfl)) (by decide) (bytes := method_4_code) (maxL' := 4) (M := (rmamg4 l Z a0 hw b11 cA12 w0 w1 w2 w3 u0 _ A_b11)) rfl (lenOf pd_9 rfl) (by decide) (W := 0) (Nat.le_of_eq rfl) (by decide) (k' := 4) (n' := 138) rfl rfl (by decide) (by decide) (argsL := [(.ref b11), (.int (4 : Int32)), (.long u0)]) (rest := []) rfl (fun v5024 h5023 q5025 => ?_)
        obtain ⟨rfl, rfl⟩ := q5025
        refine G.cast (st' := [(.int (own_mem [w3, w2, w1, w0] u0))]) ?_ rfl
        refine g_if_ne cx d0_392 (fun hc392 => ?_) (fun q => absurd q (fun q => own_memF ((hMA _).mp (by simp)) q))
        refine g_aload cx d0_397 rfl rfl ?_
        refine g_arraylength cx d0_399 A_o5002.1 ?_
        refine g_iconst cx d0_400 (v := (1 : Int32)) rfl ?_
        refine g_icmp_le cx d0_401 (fun hc401 => ?_) (fun q => absurd q (fun q => by revert q; decide))
        refine g_aload cx d0_420 rfl rfl ?_
        refine g_arraylength cx d0_422 A_o5002.1 ?_
        refine g_iconst cx d0_423 (v := (2 : Int32)) rfl ?_
        refine g_icmp_le cx d0_424 (fun hc424 => ?_) (fun q => absurd q (fun q => by revert q; decide))
        refine g_aload cx d0_443 rfl rfl ?_
        refine g_arraylength cx d0_445 A_o5002.1 ?_
        refine g_iconst cx d0_446 (v := (3 : Int32)) rfl ?_
        refine g_icmp_le cx d0_447 (fun hc447 => ?_) (fun q => absurd q (fun q => by revert q; decide))
        refine g_aload cx d0_466 rfl rfl ?_
        refine g_static cx (y := (⟨"com/example/gridsmith/gridsmith/LongSetToArrayPinLaw", "allDistinct", "([J)Z"⟩ : MethodName)) d0_468 (hw _ (List.mem_of_getElem? (i := 66) rfl)) (hw _ (List.mem_of_getElem? (i := 67) rfl)) (hw _ (List.mem_of_getElem? (i := 61) rfl)) (hw _ (List.mem_of_getElem? (i := 68) rfl)) (by decide) (bytes := method_5_code) (maxL' := 2) (M := (rmdis1 l Z a0 hw o5002 cO5003 u0 _ A_o5002)) rfl (lenOf pd_10 rfl) (by decide) (W := 0) (Nat.le_of_eq rfl) (by decide) (k' := 4) (n' := 138) rfl rfl (by decide) (by decide) (argsL := [(.ref o5002)]) (rest := []) rfl (fun v5027 h5026 q5028 => ?_)
        obtain ⟨rfl, rfl⟩ := q5028
        refine G.cast (st' := [(.int (own_nd [u0]))]) ?_ rfl
        refine g_if_ne cx d0_471 (fun hc471 => ?_) (fun q => absurd q (fun q => own_ndF hND q))
        refine g_aload cx d0_476 rfl rfl ?_
        refine g_virtual cx (y := (⟨"com/example/gridsmith/gridsmith/LongSet", "toArray", "()[J"⟩ : MethodName)) (z := (⟨"com/example/gridsmith/gridsmith/LongSet", "toArray", "()[J"⟩ : MethodName)) (a := b2) d0_478 (hw _ (List.mem_of_getElem? (i := 49) rfl)) (hw _ (List.mem_of_getElem? (i := 50) rfl)) (hw _ (List.mem_of_getElem? (i := 2) rfl)) (hw _ (List.mem_of_getElem? (i := 53) rfl)) (hw _ (List.mem_of_getElem? (i := 52) rfl)) (hw _ (List.mem_of_getElem? (i := 51) rfl)) rfl (by decide) O_b2.1 (bytes := prog_22_method_7_code) (maxL' := 8) (M := (rmta l Z a0 hw (own_ls f z.toNatClampNeg).length b2 t z hz f cT (1 : Int32) _ O_b2 A_t hsz rfl (Nat.le_trans hle (by decide)) ne_b2_t OL)) rfl (lenOf pd_6 rfl) (by decide) (W := 0) (Nat.le_of_eq rfl) (by decide) (k' := 5) (n' := 142) rfl rfl (by decide) (by decide) (argsL := []) (rest := []) rfl (fun v5033 h5032 q5034 => ?_)
        obtain ⟨o5029, cO5030, rfl, K5031, st_o5029, A_o5029⟩ := q5034
        have g_o5029 : Z.heap.size ≤ o5029 := Nat.le_trans OL.2.1 st_o5029
        have ne_b2_o5029 : b2 ≠ o5029 := Nat.ne_of_lt (Nat.lt_of_lt_of_le O_b2.lt st_o5029)
        have ne_t_o5029 : t ≠ o5029 := Nat.ne_of_lt (Nat.lt_of_lt_of_le A_t.lt st_o5029)
        have ne_b11_o5029 : b11 ≠ o5029 := Nat.ne_of_lt (Nat.lt_of_lt_of_le A_b11.lt st_o5029)
        have ne_o5002_o5029 : o5002 ≠ o5029 := Nat.ne_of_lt (Nat.lt_of_lt_of_le A_o5002.lt st_o5029)
        have O_b2 := O_b2.keep K5031 nin0
        have A_t := A_t.keep K5031 nin0
        have A_b11 := A_b11.keep K5031 nin0
        have A_o5002 := A_o5002.keep K5031 nin0
        have OL := OL.keep K5031 all0
        refine G.cast (st' := [(.ref o5029)]) ?_ rfl
        refine g_astore cx d0_481 rfl (Ls' := #[.val (.int ie), .val (.int ifl), .val (.long ja), .second, .val (.long jb), .second, .val (.long jc), .second, .val (.long jd), .second, .val (.ref b2), .val (.int (4 : Int32)), .val (.ref b11), .val (.int (1 : Int32)), .val (.ref o5002), .val (.ref o5029)]) rfl ?_
        refine g_aload cx d0_483 rfl rfl ?_
        refine g_aload cx d0_485 rfl rfl ?_
        refine g_acmp_eq cx rfl rfl d0_487 (fun q => absurd q (fun q => ne_o5002_o5029.symm (by cases q; rfl))) (fun hc487 => ?_)
        refine g_aload cx d0_490 rfl rfl ?_
        refine g_arraylength cx d0_492 A_o5029.1 ?_
        refine g_aload cx d0_493 rfl rfl ?_
        refine g_arraylength cx d0_495 A_o5002.1 ?_
        refine g_icmp_ne cx d0_496 (fun q => absurd q (fun q => by revert q; decide)) (fun hc496 => ?_)
        refine g_iconst cx d0_499 (v := (1 : Int32)) rfl ?_
        refine g_goto cx d0_500 ?_
        refine g_retZ cx d0_504 rfl rfl (by decide) (by decide) ?_
        rfl
      · have szq : sz = (2 : Int32) := Int32.toInt_inj.mp (by rw [hsz, hA]; rfl)
        subst szq
        have ddq : dd = (2 : Int32) := Int32.toInt_inj.mp (by rw [hd, hA]; rfl)
        subst ddq
        have hMA : ∀ x, x ∈ ([u0, u1] : List Int64) ↔ x ∈ ([w3, w2, w1, w0] : List Int64) := fun x => own_rwM hA (hM x)
        have hND : ([u0, u1] : List Int64).Nodup := own_rwN hA hnd
        rw [hA] at A_o5002
        simp only [List.map_cons, List.map_nil] at A_o5002
        refine g_astore cx d0_271 rfl (Ls' := #[.val (.int ie), .val (.int ifl), .val (.long ja), .second, .val (.long jb), .second, .val (.long jc), .second, .val (.long jd), .second, .val (.ref b2), .val (.int (4 : Int32)), .val (.ref b11), .val (.int (2 : Int32)), .val (.ref o5002), .unset]) rfl ?_
        refine g_aload cx d0_273 rfl rfl ?_
        refine g_arraylength cx d0_275 A_o5002.1 ?_
        refine g_iload cx d0_276 rfl ?_
        refine g_icmp_eq cx d0_278 (fun hc278 => ?_) (fun q => absurd q (fun q => by revert q; decide))
        refine g_aload cx d0_283 rfl rfl ?_
        refine g_arraylength cx d0_285 A_o5002.1 ?_
        refine g_aload cx d0_286 rfl rfl ?_
        refine g_virtual cx (y := (⟨"com/example/gridsmith/gridsmith/LongSet", "size", "()I"⟩ : MethodName)) (z := (⟨"com/example/gridsmith/gridsmith/LongSet", "size", "()I"⟩ : MethodName)) (a := b2) d0_288 (hw _ (List.mem_of_getElem? (i := 54) rfl)) (hw _ (List.mem_of_getElem? (i := 55) rfl)) (hw _ (List.mem_of_getElem? (i := 2) rfl)) (hw _ (List.mem_of_getElem? (i := 58) rfl)) (hw _ (List.mem_of_getElem? (i := 57) rfl)) (hw _ (List.mem_of_getElem? (i := 56) rfl)) rfl (by decide) O_b2.1 (bytes := prog_22_method_5_code) (maxL' := 1) (M := (rmsg l Z a0 hw b2 t (2 : Int32) _ O_b2)) rfl (lenOf pd_7 rfl) (by decide) (W := 1) (Nat.le_of_eq rfl) (by decide) (k' := 4) (n' := 138) rfl rfl (by decide) (by decide) (argsL := []) (rest := [(.int (2 : Int32))]) rfl (fun v5036 h5035 q5037 => ?_)
        obtain ⟨rfl, rfl⟩ := q5037
        refine G.cast (st' := [(.int (2 : Int32)), (.int (2 : Int32))]) ?_ rfl
        refine g_icmp_eq cx d0_291 (fun hc291 => ?_) (fun q => absurd q (fun q => by revert q; decide))
        refine g_iload cx d0_296 rfl ?_
        refine g_if_le cx d0_298 (fun q => absurd q (fun q => by revert q; decide)) (fun hc298 => ?_)
        refine g_aload cx d0_301 rfl rfl ?_
        refine g_aload cx d0_303 rfl rfl ?_
        refine g_iconst cx d0_305 (v := (0 : Int32)) rfl ?_
        refine g_laload cx d0_306 A_b11.1 ⟨by decide, by decide⟩ (v := (.long w0)) rfl ?_
        refine g_static cx (y := (⟨"com/example/gridsmith/gridsmith/LongSetToArrayPinLaw", "has", "([JJ)Z"⟩ : MethodName)) d0_307 (hw _ (List.mem_of_getElem? (i := 59) rfl)) (hw _ (List.mem_of_getElem? (i := 60) rfl)) (hw _ (List.mem_of_getElem? (i := 61) rfl)) (hw _ (List.mem_of_getElem? (i := 62) rfl)) (by decide) (bytes := method_3_code) (maxL' := 3) (M := (rmhas2 l Z a0 hw o5002 cO5003 u0 u1 w0 _ A_o5002)) rfl (lenOf pd_8 rfl) (by decide) (W := 0) (Nat.le_of_eq rfl) (by decide) (k' := 4) (n' := 138) rfl rfl (by decide) (by decide) (argsL := [(.ref o5002), (.long w0)]) (rest := []) rfl (fun v5039 h5038 q5040 => ?_)
        obtain ⟨rfl, rfl⟩ := q5040
        refine G.cast (st' := [(.int (own_mem [u0, u1] w0))]) ?_ rfl
        refine g_if_ne cx d0_310 (fun hc310 => ?_) (fun q => absurd q (fun q => own_memF ((hMA _).mpr (by simp)) q))
        refine g_iload cx d0_315 rfl ?_
        refine g_iconst cx d0_317 (v := (1 : Int32)) rfl ?_
        refine g_icmp_le cx d0_318 (fun q => absurd q (fun q => by revert q; decide)) (fun hc318 => ?_)
        refine g_aload cx d0_321 rfl rfl ?_
        refine g_aload cx d0_323 rfl rfl ?_
        refine g_iconst cx d0_325 (v := (1 : Int32)) rfl ?_
        refine g_laload cx d0_326 A_b11.1 ⟨by decide, by decide⟩ (v := (.long w1)) rfl ?_
        refine g_static cx (y := (⟨"com/example/gridsmith/gridsmith/LongSetToArrayPinLaw", "has", "([JJ)Z"⟩ : MethodName)) d0_327 (hw _ (List.mem_of_getElem? (i := 59) rfl)) (hw _ (List.mem_of_getElem? (i := 60) rfl)) (hw _ (List.mem_of_getElem? (i := 61) rfl)) (hw _ (List.mem_of_getElem? (i := 62) rfl)) (by decide) (bytes := method_3_code) (maxL' := 3) (M := (rmhas2 l Z a0 hw o5002 cO5003 u0 u1 w1 _ A_o5002)) rfl (lenOf pd_8 rfl) (by decide) (W := 0) (Nat.le_of_eq rfl) (by decide) (k' := 4) (n' := 138) rfl rfl (by decide) (by decide) (argsL := [(.ref o5002), (.long w1)]) (rest := []) rfl (fun v5042 h5041 q5043 => ?_)
        obtain ⟨rfl, rfl⟩ := q5043
        refine G.cast (st' := [(.int (own_mem [u0, u1] w1))]) ?_ rfl
        refine g_if_ne cx d0_330 (fun hc330 => ?_) (fun q => absurd q (fun q => own_memF ((hMA _).mpr (by simp)) q))
        refine g_iload cx d0_335 rfl ?_
        refine g_iconst cx d0_337 (v := (2 : Int32)) rfl ?_
        refine g_icmp_le cx d0_338 (fun q => absurd q (fun q => by revert q; decide)) (fun hc338 => ?_)
        refine g_aload cx d0_341 rfl rfl ?_
        refine g_aload cx d0_343 rfl rfl ?_
        refine g_iconst cx d0_345 (v := (2 : Int32)) rfl ?_
        refine g_laload cx d0_346 A_b11.1 ⟨by decide, by decide⟩ (v := (.long w2)) rfl ?_
        refine g_static cx (y := (⟨"com/example/gridsmith/gridsmith/LongSetToArrayPinLaw", "has", "([JJ)Z"⟩ : MethodName)) d0_347 (hw _ (List.mem_of_getElem? (i := 59) rfl)) (hw _ (List.mem_of_getElem? (i := 60) rfl)) (hw _ (List.mem_of_getElem? (i := 61) rfl)) (hw _ (List.mem_of_getElem? (i := 62) rfl)) (by decide) (bytes := method_3_code) (maxL' := 3) (M := (rmhas2 l Z a0 hw o5002 cO5003 u0 u1 w2 _ A_o5002)) rfl (lenOf pd_8 rfl) (by decide) (W := 0) (Nat.le_of_eq rfl) (by decide) (k' := 4) (n' := 138) rfl rfl (by decide) (by decide) (argsL := [(.ref o5002), (.long w2)]) (rest := []) rfl (fun v5045 h5044 q5046 => ?_)
        obtain ⟨rfl, rfl⟩ := q5046
        refine G.cast (st' := [(.int (own_mem [u0, u1] w2))]) ?_ rfl
        refine g_if_ne cx d0_350 (fun hc350 => ?_) (fun q => absurd q (fun q => own_memF ((hMA _).mpr (by simp)) q))
        refine g_iload cx d0_355 rfl ?_
        refine g_iconst cx d0_357 (v := (3 : Int32)) rfl ?_
        refine g_icmp_le cx d0_358 (fun q => absurd q (fun q => by revert q; decide)) (fun hc358 => ?_)
        refine g_aload cx d0_361 rfl rfl ?_
        refine g_aload cx d0_363 rfl rfl ?_
        refine g_iconst cx d0_365 (v := (3 : Int32)) rfl ?_
        refine g_laload cx d0_366 A_b11.1 ⟨by decide, by decide⟩ (v := (.long w3)) rfl ?_
        refine g_static cx (y := (⟨"com/example/gridsmith/gridsmith/LongSetToArrayPinLaw", "has", "([JJ)Z"⟩ : MethodName)) d0_367 (hw _ (List.mem_of_getElem? (i := 59) rfl)) (hw _ (List.mem_of_getElem? (i := 60) rfl)) (hw _ (List.mem_of_getElem? (i := 61) rfl)) (hw _ (List.mem_of_getElem? (i := 62) rfl)) (by decide) (bytes := method_3_code) (maxL' := 3) (M := (rmhas2 l Z a0 hw o5002 cO5003 u0 u1 w3 _ A_o5002)) rfl (lenOf pd_8 rfl) (by decide) (W := 0) (Nat.le_of_eq rfl) (by decide) (k' := 4) (n' := 138) rfl rfl (by decide) (by decide) (argsL := [(.ref o5002), (.long w3)]) (rest := []) rfl (fun v5048 h5047 q5049 => ?_)
        obtain ⟨rfl, rfl⟩ := q5049
        refine G.cast (st' := [(.int (own_mem [u0, u1] w3))]) ?_ rfl
        refine g_if_ne cx d0_370 (fun hc370 => ?_) (fun q => absurd q (fun q => own_memF ((hMA _).mpr (by simp)) q))
        refine g_aload cx d0_375 rfl rfl ?_
        refine g_arraylength cx d0_377 A_o5002.1 ?_
        refine g_if_le cx d0_378 (fun q => absurd q (fun q => by revert q; decide)) (fun hc378 => ?_)
        refine g_aload cx d0_381 rfl rfl ?_
        refine g_iload cx d0_383 rfl ?_
        refine g_aload cx d0_385 rfl rfl ?_
        refine g_iconst cx d0_387 (v := (0 : Int32)) rfl ?_
        refine g_laload cx d0_388 A_o5002.1 ⟨by decide, by decide⟩ (v := (.long u0)) rfl ?_
        refine g_static cx (y := (⟨"com/example/gridsmith/gridsmith/LongSetToArrayPinLaw", "among", "([JIJ)Z"⟩ : MethodName)) d0_389 (hw _ (List.mem_of_getElem? (i := 63) rfl)) (hw _ (List.mem_of_getElem? (i := 64) rfl)) (hw _ (List.mem_of_getElem? (i := 61) rfl)) (hw _ (List.mem_of_getElem? (i := 65) rfl)) (by decide) (bytes := method_4_code) (maxL' := 4) (M := (rmamg4 l Z a0 hw b11 cA12 w0 w1 w2 w3 u0 _ A_b11)) rfl (lenOf pd_9 rfl) (by decide) (W := 0) (Nat.le_of_eq rfl) (by decide) (k' := 4) (n' := 138) rfl rfl (by decide) (by decide) (argsL := [(.ref b11), (.int (4 : Int32)), (.long u0)]) (rest := []) rfl (fun v5051 h5050 q5052 => ?_)
        obtain ⟨rfl, rfl⟩ := q5052
        refine G.cast (st' := [(.int (own_mem [w3, w2, w1, w0] u0))]) ?_ rfl
        refine g_if_ne cx d0_392 (fun hc392 => ?_) (fun q => absurd q (fun q => own_memF ((hMA _).mp (by simp)) q))
        refine g_aload cx d0_397 rfl rfl ?_
        refine g_arraylength cx d0_399 A_o5002.1 ?_
        refine g_iconst cx d0_400 (v := (1 : Int32)) rfl ?_
        refine g_icmp_le cx d0_401 (fun q => absurd q (fun q => by revert q; decide)) (fun hc401 => ?_)
        refine g_aload cx d0_404 rfl rfl ?_
        refine g_iload cx d0_406 rfl ?_
        refine g_aload cx d0_408 rfl rfl ?_
        refine g_iconst cx d0_410 (v := (1 : Int32)) rfl ?_
        refine g_laload cx d0_411 A_o5002.1 ⟨by decide, by decide⟩ (v := (.long u1)) rfl ?_
        refine g_static cx (y := (⟨"com/example/gridsmith/gridsmith/LongSetToArrayPinLaw", "among", "([JIJ)Z"⟩ : MethodName)) d0_412 (hw _ (List.mem_of_getElem? (i := 63) rfl)) (hw _ (List.mem_of_getElem? (i := 64) rfl)) (hw _ (List.mem_of_getElem? (i := 61) rfl)) (hw _ (List.mem_of_getElem? (i := 65) rfl)) (by decide) (bytes := method_4_code) (maxL' := 4) (M := (rmamg4 l Z a0 hw b11 cA12 w0 w1 w2 w3 u1 _ A_b11)) rfl (lenOf pd_9 rfl) (by decide) (W := 0) (Nat.le_of_eq rfl) (by decide) (k' := 4) (n' := 138) rfl rfl (by decide) (by decide) (argsL := [(.ref b11), (.int (4 : Int32)), (.long u1)]) (rest := []) rfl (fun v5054 h5053 q5055 => ?_)
        obtain ⟨rfl, rfl⟩ := q5055
        refine G.cast (st' := [(.int (own_mem [w3, w2, w1, w0] u1))]) ?_ rfl
        refine g_if_ne cx d0_415 (fun hc415 => ?_) (fun q => absurd q (fun q => own_memF ((hMA _).mp (by simp)) q))
        refine g_aload cx d0_420 rfl rfl ?_
        refine g_arraylength cx d0_422 A_o5002.1 ?_
        refine g_iconst cx d0_423 (v := (2 : Int32)) rfl ?_
        refine g_icmp_le cx d0_424 (fun hc424 => ?_) (fun q => absurd q (fun q => by revert q; decide))
        refine g_aload cx d0_443 rfl rfl ?_
        refine g_arraylength cx d0_445 A_o5002.1 ?_
        refine g_iconst cx d0_446 (v := (3 : Int32)) rfl ?_
        refine g_icmp_le cx d0_447 (fun hc447 => ?_) (fun q => absurd q (fun q => by revert q; decide))
        refine g_aload cx d0_466 rfl rfl ?_
        refine g_static cx (y := (⟨"com/example/gridsmith/gridsmith/LongSetToArrayPinLaw", "allDistinct", "([J)Z"⟩ : MethodName)) d0_468 (hw _ (List.mem_of_getElem? (i := 66) rfl)) (hw _ (List.mem_of_getElem? (i := 67) rfl)) (hw _ (List.mem_of_getElem? (i := 61) rfl)) (hw _ (List.mem_of_getElem? (i := 68) rfl)) (by decide) (bytes := method_5_code) (maxL' := 2) (M := (rmdis2 l Z a0 hw o5002 cO5003 u0 u1 _ A_o5002)) rfl (lenOf pd_10 rfl) (by decide) (W := 0) (Nat.le_of_eq rfl) (by decide) (k' := 4) (n' := 138) rfl rfl (by decide) (by decide) (argsL := [(.ref o5002)]) (rest := []) rfl (fun v5057 h5056 q5058 => ?_)
        obtain ⟨rfl, rfl⟩ := q5058
        refine G.cast (st' := [(.int (own_nd [u0, u1]))]) ?_ rfl
        refine g_if_ne cx d0_471 (fun hc471 => ?_) (fun q => absurd q (fun q => own_ndF hND q))
        refine g_aload cx d0_476 rfl rfl ?_
        refine g_virtual cx (y := (⟨"com/example/gridsmith/gridsmith/LongSet", "toArray", "()[J"⟩ : MethodName)) (z := (⟨"com/example/gridsmith/gridsmith/LongSet", "toArray", "()[J"⟩ : MethodName)) (a := b2) d0_478 (hw _ (List.mem_of_getElem? (i := 49) rfl)) (hw _ (List.mem_of_getElem? (i := 50) rfl)) (hw _ (List.mem_of_getElem? (i := 2) rfl)) (hw _ (List.mem_of_getElem? (i := 53) rfl)) (hw _ (List.mem_of_getElem? (i := 52) rfl)) (hw _ (List.mem_of_getElem? (i := 51) rfl)) rfl (by decide) O_b2.1 (bytes := prog_22_method_7_code) (maxL' := 8) (M := (rmta l Z a0 hw (own_ls f z.toNatClampNeg).length b2 t z hz f cT (2 : Int32) _ O_b2 A_t hsz rfl (Nat.le_trans hle (by decide)) ne_b2_t OL)) rfl (lenOf pd_6 rfl) (by decide) (W := 0) (Nat.le_of_eq rfl) (by decide) (k' := 5) (n' := 142) rfl rfl (by decide) (by decide) (argsL := []) (rest := []) rfl (fun v5063 h5062 q5064 => ?_)
        obtain ⟨o5059, cO5060, rfl, K5061, st_o5059, A_o5059⟩ := q5064
        have g_o5059 : Z.heap.size ≤ o5059 := Nat.le_trans OL.2.1 st_o5059
        have ne_b2_o5059 : b2 ≠ o5059 := Nat.ne_of_lt (Nat.lt_of_lt_of_le O_b2.lt st_o5059)
        have ne_t_o5059 : t ≠ o5059 := Nat.ne_of_lt (Nat.lt_of_lt_of_le A_t.lt st_o5059)
        have ne_b11_o5059 : b11 ≠ o5059 := Nat.ne_of_lt (Nat.lt_of_lt_of_le A_b11.lt st_o5059)
        have ne_o5002_o5059 : o5002 ≠ o5059 := Nat.ne_of_lt (Nat.lt_of_lt_of_le A_o5002.lt st_o5059)
        have O_b2 := O_b2.keep K5061 nin0
        have A_t := A_t.keep K5061 nin0
        have A_b11 := A_b11.keep K5061 nin0
        have A_o5002 := A_o5002.keep K5061 nin0
        have OL := OL.keep K5061 all0
        refine G.cast (st' := [(.ref o5059)]) ?_ rfl
        refine g_astore cx d0_481 rfl (Ls' := #[.val (.int ie), .val (.int ifl), .val (.long ja), .second, .val (.long jb), .second, .val (.long jc), .second, .val (.long jd), .second, .val (.ref b2), .val (.int (4 : Int32)), .val (.ref b11), .val (.int (2 : Int32)), .val (.ref o5002), .val (.ref o5059)]) rfl ?_
        refine g_aload cx d0_483 rfl rfl ?_
        refine g_aload cx d0_485 rfl rfl ?_
        refine g_acmp_eq cx rfl rfl d0_487 (fun q => absurd q (fun q => ne_o5002_o5059.symm (by cases q; rfl))) (fun hc487 => ?_)
        refine g_aload cx d0_490 rfl rfl ?_
        refine g_arraylength cx d0_492 A_o5059.1 ?_
        refine g_aload cx d0_493 rfl rfl ?_
        refine g_arraylength cx d0_495 A_o5002.1 ?_
        refine g_icmp_ne cx d0_496 (fun q => absurd q (fun q => by revert q; decide)) (fun hc496 => ?_)
        refine g_iconst cx d0_499 (v := (1 : Int32)) rfl ?_
        refine g_goto cx d0_500 ?_
        refine g_retZ cx d0_504 rfl rfl (by decide) (by decide) ?_
        rfl
      · have szq : sz = (3 : Int32) := Int32.toInt_inj.mp (by rw [hsz, hA]; rfl)
        subst szq
        have ddq : dd = (3 : Int32) := Int32.toInt_inj.mp (by rw [hd, hA]; rfl)
        subst ddq
        have hMA : ∀ x, x ∈ ([u0, u1, u2] : List Int64) ↔ x ∈ ([w3, w2, w1, w0] : List Int64) := fun x => own_rwM hA (hM x)
        have hND : ([u0, u1, u2] : List Int64).Nodup := own_rwN hA hnd
        rw [hA] at A_o5002
        simp only [List.map_cons, List.map_nil] at A_o5002
        refine g_astore cx d0_271 rfl (Ls' := #[.val (.int ie), .val (.int ifl), .val (.long ja), .second, .val (.long jb), .second, .val (.long jc), .second, .val (.long jd), .second, .val (.ref b2), .val (.int (4 : Int32)), .val (.ref b11), .val (.int (3 : Int32)), .val (.ref o5002), .unset]) rfl ?_
        refine g_aload cx d0_273 rfl rfl ?_
        refine g_arraylength cx d0_275 A_o5002.1 ?_
        refine g_iload cx d0_276 rfl ?_
        refine g_icmp_eq cx d0_278 (fun hc278 => ?_) (fun q => absurd q (fun q => by revert q; decide))
        refine g_aload cx d0_283 rfl rfl ?_
        refine g_arraylength cx d0_285 A_o5002.1 ?_
        refine g_aload cx d0_286 rfl rfl ?_
        refine g_virtual cx (y := (⟨"com/example/gridsmith/gridsmith/LongSet", "size", "()I"⟩ : MethodName)) (z := (⟨"com/example/gridsmith/gridsmith/LongSet", "size", "()I"⟩ : MethodName)) (a := b2) d0_288 (hw _ (List.mem_of_getElem? (i := 54) rfl)) (hw _ (List.mem_of_getElem? (i := 55) rfl)) (hw _ (List.mem_of_getElem? (i := 2) rfl)) (hw _ (List.mem_of_getElem? (i := 58) rfl)) (hw _ (List.mem_of_getElem? (i := 57) rfl)) (hw _ (List.mem_of_getElem? (i := 56) rfl)) rfl (by decide) O_b2.1 (bytes := prog_22_method_5_code) (maxL' := 1) (M := (rmsg l Z a0 hw b2 t (3 : Int32) _ O_b2)) rfl (lenOf pd_7 rfl) (by decide) (W := 1) (Nat.le_of_eq rfl) (by decide) (k' := 4) (n' := 138) rfl rfl (by decide) (by decide) (argsL := []) (rest := [(.int (3 : Int32))]) rfl (fun v5066 h5065 q5067 => ?_)
        obtain ⟨rfl, rfl⟩ := q5067
        refine G.cast (st' := [(.int (3 : Int32)), (.int (3 : Int32))]) ?_ rfl
        refine g_icmp_eq cx d0_291 (fun hc291 => ?_) (fun q => absurd q (fun q => by revert q; decide))
        refine g_iload cx d0_296 rfl ?_
        refine g_if_le cx d0_298 (fun q => absurd q (fun q => by revert q; decide)) (fun hc298 => ?_)
        refine g_aload cx d0_301 rfl rfl ?_
        refine g_aload cx d0_303 rfl rfl ?_
        refine g_iconst cx d0_305 (v := (0 : Int32)) rfl ?_
        refine g_laload cx d0_306 A_b11.1 ⟨by decide, by decide⟩ (v := (.long w0)) rfl ?_
        refine g_static cx (y := (⟨"com/example/gridsmith/gridsmith/LongSetToArrayPinLaw", "has", "([JJ)Z"⟩ : MethodName)) d0_307 (hw _ (List.mem_of_getElem? (i := 59) rfl)) (hw _ (List.mem_of_getElem? (i := 60) rfl)) (hw _ (List.mem_of_getElem? (i := 61) rfl)) (hw _ (List.mem_of_getElem? (i := 62) rfl)) (by decide) (bytes := method_3_code) (maxL' := 3) (M := (rmhas3 l Z a0 hw o5002 cO5003 u0 u1 u2 w0 _ A_o5002)) rfl (lenOf pd_8 rfl) (by decide) (W := 0) (Nat.le_of_eq rfl) (by decide) (k' := 4) (n' := 138) rfl rfl (by decide) (by decide) (argsL := [(.ref o5002), (.long w0)]) (rest := []) rfl (fun v5069 h5068 q5070 => ?_)
        obtain ⟨rfl, rfl⟩ := q5070
        refine G.cast (st' := [(.int (own_mem [u0, u1, u2] w0))]) ?_ rfl
        refine g_if_ne cx d0_310 (fun hc310 => ?_) (fun q => absurd q (fun q => own_memF ((hMA _).mpr (by simp)) q))
        refine g_iload cx d0_315 rfl ?_
        refine g_iconst cx d0_317 (v := (1 : Int32)) rfl ?_
        refine g_icmp_le cx d0_318 (fun q => absurd q (fun q => by revert q; decide)) (fun hc318 => ?_)
        refine g_aload cx d0_321 rfl rfl ?_
        refine g_aload cx d0_323 rfl rfl ?_
        refine g_iconst cx d0_325 (v := (1 : Int32)) rfl ?_
        refine g_laload cx d0_326 A_b11.1 ⟨by decide, by decide⟩ (v := (.long w1)) rfl ?_
        refine g_static cx (y := (⟨"com/example/gridsmith/gridsmith/LongSetToArrayPinLaw", "has", "([JJ)Z"⟩ : MethodName)) d0_327 (hw _ (List.mem_of_getElem? (i := 59) rfl)) (hw _ (List.mem_of_getElem? (i := 60) rfl)) (hw _ (List.mem_of_getElem? (i := 61) rfl)) (hw _ (List.mem_of_getElem? (i := 62) rfl)) (by decide) (bytes := method_3_code) (maxL' := 3) (M := (rmhas3 l Z a0 hw o5002 cO5003 u0 u1 u2 w1 _ A_o5002)) rfl (lenOf pd_8 rfl) (by decide) (W := 0) (Nat.le_of_eq rfl) (by decide) (k' := 4) (n' := 138) rfl rfl (by decide) (by decide) (argsL := [(.ref o5002), (.long w1)]) (rest := []) rfl (fun v5072 h5071 q5073 => ?_)
        obtain ⟨rfl, rfl⟩ := q5073
        refine G.cast (st' := [(.int (own_mem [u0, u1, u2] w1))]) ?_ rfl
        refine g_if_ne cx d0_330 (fun hc330 => ?_) (fun q => absurd q (fun q => own_memF ((hMA _).mpr (by simp)) q))
        refine g_iload cx d0_335 rfl ?_
        refine g_iconst cx d0_337 (v := (2 : Int32)) rfl ?_
        refine g_icmp_le cx d0_338 (fun q => absurd q (fun q => by revert q; decide)) (fun hc338 => ?_)
        refine g_aload cx d0_341 rfl rfl ?_
        refine g_aload cx d0_343 rfl rfl ?_
        refine g_iconst cx d0_345 (v := (2 : Int32)) rfl ?_
        refine g_laload cx d0_346 A_b11.1 ⟨by decide, by decide⟩ (v := (.long w2)) rfl ?_
        refine g_static cx (y := (⟨"com/example/gridsmith/gridsmith/LongSetToArrayPinLaw", "has", "([JJ)Z"⟩ : MethodName)) d0_347 (hw _ (List.mem_of_getElem? (i := 59) rfl)) (hw _ (List.mem_of_getElem? (i := 60) rfl)) (hw _ (List.mem_of_getElem? (i := 61) rfl)) (hw _ (List.mem_of_getElem? (i := 62) rfl)) (by decide) (bytes := method_3_code) (maxL' := 3) (M := (rmhas3 l Z a0 hw o5002 cO5003 u0 u1 u2 w2 _ A_o5002)) rfl (lenOf pd_8 rfl) (by decide) (W := 0) (Nat.le_of_eq rfl) (by decide) (k' := 4) (n' := 138) rfl rfl (by decide) (by decide) (argsL := [(.ref o5002), (.long w2)]) (rest := []) rfl (fun v5075 h5074 q5076 => ?_)
        obtain ⟨rfl, rfl⟩ := q5076
        refine G.cast (st' := [(.int (own_mem [u0, u1, u2] w2))]) ?_ rfl
        refine g_if_ne cx d0_350 (fun hc350 => ?_) (fun q => absurd q (fun q => own_memF ((hMA _).mpr (by simp)) q))
        refine g_iload cx d0_355 rfl ?_
        refine g_iconst cx d0_357 (v := (3 : Int32)) rfl ?_
        refine g_icmp_le cx d0_358 (fun q => absurd q (fun q => by revert q; decide)) (fun hc358 => ?_)
        refine g_aload cx d0_361 rfl rfl ?_
        refine g_aload cx d0_363 rfl rfl ?_
        refine g_iconst cx d0_365 (v := (3 : Int32)) rfl ?_
        refine g_laload cx d0_366 A_b11.1 ⟨by decide, by decide⟩ (v := (.long w3)) rfl ?_
        refine g_static cx (y := (⟨"com/example/gridsmith/gridsmith/LongSetToArrayPinLaw", "has", "([JJ)Z"⟩ : MethodName)) d0_367 (hw _ (List.mem_of_getElem? (i := 59) rfl)) (hw _ (List.mem_of_getElem? (i := 60) rfl)) (hw _ (List.mem_of_getElem? (i := 61) rfl)) (hw _ (List.mem_of_getElem? (i := 62) rfl)) (by decide) (bytes := method_3_code) (maxL' := 3) (M := (rmhas3 l Z a0 hw o5002 cO5003 u0 u1 u2 w3 _ A_o5002)) rfl (lenOf pd_8 rfl) (by decide) (W := 0) (Nat.le_of_eq rfl) (by decide) (k' := 4) (n' := 138) rfl rfl (by decide) (by decide) (argsL := [(.ref o5002), (.long w3)]) (rest := []) rfl (fun v5078 h5077 q5079 => ?_)
        obtain ⟨rfl, rfl⟩ := q5079
        refine G.cast (st' := [(.int (own_mem [u0, u1, u2] w3))]) ?_ rfl
        refine g_if_ne cx d0_370 (fun hc370 => ?_) (fun q => absurd q (fun q => own_memF ((hMA _).mpr (by simp)) q))
        refine g_aload cx d0_375 rfl rfl ?_
        refine g_arraylength cx d0_377 A_o5002.1 ?_
        refine g_if_le cx d0_378 (fun q => absurd q (fun q => by revert q; decide)) (fun hc378 => ?_)
        refine g_aload cx d0_381 rfl rfl ?_
        refine g_iload cx d0_383 rfl ?_
        refine g_aload cx d0_385 rfl rfl ?_
        refine g_iconst cx d0_387 (v := (0 : Int32)) rfl ?_
        refine g_laload cx d0_388 A_o5002.1 ⟨by decide, by decide⟩ (v := (.long u0)) rfl ?_
        refine g_static cx (y := (⟨"com/example/gridsmith/gridsmith/LongSetToArrayPinLaw", "among", "([JIJ)Z"⟩ : MethodName)) d0_389 (hw _ (List.mem_of_getElem? (i := 63) rfl)) (hw _ (List.mem_of_getElem? (i := 64) rfl)) (hw _ (List.mem_of_getElem? (i := 61) rfl)) (hw _ (List.mem_of_getElem? (i := 65) rfl)) (by decide) (bytes := method_4_code) (maxL' := 4) (M := (rmamg4 l Z a0 hw b11 cA12 w0 w1 w2 w3 u0 _ A_b11)) rfl (lenOf pd_9 rfl) (by decide) (W := 0) (Nat.le_of_eq rfl) (by decide) (k' := 4) (n' := 138) rfl rfl (by decide) (by decide) (argsL := [(.ref b11), (.int (4 : Int32)), (.long u0)]) (rest := []) rfl (fun v5081 h5080 q5082 => ?_)
        obtain ⟨rfl, rfl⟩ := q5082
        refine G.cast (st' := [(.int (own_mem [w3, w2, w1, w0] u0))]) ?_ rfl
        refine g_if_ne cx d0_392 (fun hc392 => ?_) (fun q => absurd q (fun q => own_memF ((hMA _).mp (by simp)) q))
        refine g_aload cx d0_397 rfl rfl ?_
        refine g_arraylength cx d0_399 A_o5002.1 ?_
        refine g_iconst cx d0_400 (v := (1 : Int32)) rfl ?_
        refine g_icmp_le cx d0_401 (fun q => absurd q (fun q => by revert q; decide)) (fun hc401 => ?_)
        refine g_aload cx d0_404 rfl rfl ?_
        refine g_iload cx d0_406 rfl ?_
        refine g_aload cx d0_408 rfl rfl ?_
        refine g_iconst cx d0_410 (v := (1 : Int32)) rfl ?_
        refine g_laload cx d0_411 A_o5002.1 ⟨by decide, by decide⟩ (v := (.long u1)) rfl ?_
        refine g_static cx (y := (⟨"com/example/gridsmith/gridsmith/LongSetToArrayPinLaw", "among", "([JIJ)Z"⟩ : MethodName)) d0_412 (hw _ (List.mem_of_getElem? (i := 63) rfl)) (hw _ (List.mem_of_getElem? (i := 64) rfl)) (hw _ (List.mem_of_getElem? (i := 61) rfl)) (hw _ (List.mem_of_getElem? (i := 65) rfl)) (by decide) (bytes := method_4_code) (maxL' := 4) (M := (rmamg4 l Z a0 hw b11 cA12 w0 w1 w2 w3 u1 _ A_b11)) rfl (lenOf pd_9 rfl) (by decide) (W := 0) (Nat.le_of_eq rfl) (by decide) (k' := 4) (n' := 138) rfl rfl (by decide) (by decide) (argsL := [(.ref b11), (.int (4 : Int32)), (.long u1)]) (rest := []) rfl (fun v5084 h5083 q5085 => ?_)
        obtain ⟨rfl, rfl⟩ := q5085
        refine G.cast (st' := [(.int (own_mem [w3, w2, w1, w0] u1))]) ?_ rfl
        refine g_if_ne cx d0_415 (fun hc415 => ?_) (fun q => absurd q (fun q => own_memF ((hMA _).mp (by simp)) q))
        refine g_aload cx d0_420 rfl rfl ?_
        refine g_arraylength cx d0_422 A_o5002.1 ?_
        refine g_iconst cx d0_423 (v := (2 : Int32)) rfl ?_
        refine g_icmp_le cx d0_424 (fun q => absurd q (fun q => by revert q; decide)) (fun hc424 => ?_)
        refine g_aload cx d0_427 rfl rfl ?_
        refine g_iload cx d0_429 rfl ?_
        refine g_aload cx d0_431 rfl rfl ?_
        refine g_iconst cx d0_433 (v := (2 : Int32)) rfl ?_
        refine g_laload cx d0_434 A_o5002.1 ⟨by decide, by decide⟩ (v := (.long u2)) rfl ?_
        refine g_static cx (y := (⟨"com/example/gridsmith/gridsmith/LongSetToArrayPinLaw", "among", "([JIJ)Z"⟩ : MethodName)) d0_435 (hw _ (List.mem_of_getElem? (i := 63) rfl)) (hw _ (List.mem_of_getElem? (i := 64) rfl)) (hw _ (List.mem_of_getElem? (i := 61) rfl)) (hw _ (List.mem_of_getElem? (i := 65) rfl)) (by decide) (bytes := method_4_code) (maxL' := 4) (M := (rmamg4 l Z a0 hw b11 cA12 w0 w1 w2 w3 u2 _ A_b11)) rfl (lenOf pd_9 rfl) (by decide) (W := 0) (Nat.le_of_eq rfl) (by decide) (k' := 4) (n' := 138) rfl rfl (by decide) (by decide) (argsL := [(.ref b11), (.int (4 : Int32)), (.long u2)]) (rest := []) rfl (fun v5087 h5086 q5088 => ?_)
        obtain ⟨rfl, rfl⟩ := q5088
        refine G.cast (st' := [(.int (own_mem [w3, w2, w1, w0] u2))]) ?_ rfl
        refine g_if_ne cx d0_438 (fun hc438 => ?_) (fun q => absurd q (fun q => own_memF ((hMA _).mp (by simp)) q))
        refine g_aload cx d0_443 rfl rfl ?_
        refine g_arraylength cx d0_445 A_o5002.1 ?_
        refine g_iconst cx d0_446 (v := (3 : Int32)) rfl ?_
        refine g_icmp_le cx d0_447 (fun hc447 => ?_) (fun q => absurd q (fun q => by revert q; decide))
        refine g_aload cx d0_466 rfl rfl ?_
        refine g_static cx (y := (⟨"com/example/gridsmith/gridsmith/LongSetToArrayPinLaw", "allDistinct", "([J)Z"⟩ : MethodName)) d0_468 (hw _ (List.mem_of_getElem? (i := 66) rfl)) (hw _ (List.mem_of_getElem? (i := 67) rfl)) (hw _ (List.mem_of_getElem? (i := 61) rfl)) (hw _ (List.mem_of_getElem? (i := 68) rfl)) (by decide) (bytes := method_5_code) (maxL' := 2) (M := (rmdis3 l Z a0 hw o5002 cO5003 u0 u1 u2 _ A_o5002)) rfl (lenOf pd_10 rfl) (by decide) (W := 0) (Nat.le_of_eq rfl) (by decide) (k' := 4) (n' := 138) rfl rfl (by decide) (by decide) (argsL := [(.ref o5002)]) (rest := []) rfl (fun v5090 h5089 q5091 => ?_)
        obtain ⟨rfl, rfl⟩ := q5091
        refine G.cast (st' := [(.int (own_nd [u0, u1, u2]))]) ?_ rfl
        refine g_if_ne cx d0_471 (fun hc471 => ?_) (fun q => absurd q (fun q => own_ndF hND q))
        refine g_aload cx d0_476 rfl rfl ?_
        refine g_virtual cx (y := (⟨"com/example/gridsmith/gridsmith/LongSet", "toArray", "()[J"⟩ : MethodName)) (z := (⟨"com/example/gridsmith/gridsmith/LongSet", "toArray", "()[J"⟩ : MethodName)) (a := b2) d0_478 (hw _ (List.mem_of_getElem? (i := 49) rfl)) (hw _ (List.mem_of_getElem? (i := 50) rfl)) (hw _ (List.mem_of_getElem? (i := 2) rfl)) (hw _ (List.mem_of_getElem? (i := 53) rfl)) (hw _ (List.mem_of_getElem? (i := 52) rfl)) (hw _ (List.mem_of_getElem? (i := 51) rfl)) rfl (by decide) O_b2.1 (bytes := prog_22_method_7_code) (maxL' := 8) (M := (rmta l Z a0 hw (own_ls f z.toNatClampNeg).length b2 t z hz f cT (3 : Int32) _ O_b2 A_t hsz rfl (Nat.le_trans hle (by decide)) ne_b2_t OL)) rfl (lenOf pd_6 rfl) (by decide) (W := 0) (Nat.le_of_eq rfl) (by decide) (k' := 5) (n' := 142) rfl rfl (by decide) (by decide) (argsL := []) (rest := []) rfl (fun v5096 h5095 q5097 => ?_)
        obtain ⟨o5092, cO5093, rfl, K5094, st_o5092, A_o5092⟩ := q5097
        have g_o5092 : Z.heap.size ≤ o5092 := Nat.le_trans OL.2.1 st_o5092
        have ne_b2_o5092 : b2 ≠ o5092 := Nat.ne_of_lt (Nat.lt_of_lt_of_le O_b2.lt st_o5092)
        have ne_t_o5092 : t ≠ o5092 := Nat.ne_of_lt (Nat.lt_of_lt_of_le A_t.lt st_o5092)
        have ne_b11_o5092 : b11 ≠ o5092 := Nat.ne_of_lt (Nat.lt_of_lt_of_le A_b11.lt st_o5092)
        have ne_o5002_o5092 : o5002 ≠ o5092 := Nat.ne_of_lt (Nat.lt_of_lt_of_le A_o5002.lt st_o5092)
        have O_b2 := O_b2.keep K5094 nin0
        have A_t := A_t.keep K5094 nin0
        have A_b11 := A_b11.keep K5094 nin0
        have A_o5002 := A_o5002.keep K5094 nin0
        have OL := OL.keep K5094 all0
        refine G.cast (st' := [(.ref o5092)]) ?_ rfl
        refine g_astore cx d0_481 rfl (Ls' := #[.val (.int ie), .val (.int ifl), .val (.long ja), .second, .val (.long jb), .second, .val (.long jc), .second, .val (.long jd), .second, .val (.ref b2), .val (.int (4 : Int32)), .val (.ref b11), .val (.int (3 : Int32)), .val (.ref o5002), .val (.ref o5092)]) rfl ?_
        refine g_aload cx d0_483 rfl rfl ?_
        refine g_aload cx d0_485 rfl rfl ?_
        refine g_acmp_eq cx rfl rfl d0_487 (fun q => absurd q (fun q => ne_o5002_o5092.symm (by cases q; rfl))) (fun hc487 => ?_)
        refine g_aload cx d0_490 rfl rfl ?_
        refine g_arraylength cx d0_492 A_o5092.1 ?_
        refine g_aload cx d0_493 rfl rfl ?_
        refine g_arraylength cx d0_495 A_o5002.1 ?_
        refine g_icmp_ne cx d0_496 (fun q => absurd q (fun q => by revert q; decide)) (fun hc496 => ?_)
        refine g_iconst cx d0_499 (v := (1 : Int32)) rfl ?_
        refine g_goto cx d0_500 ?_
        refine g_retZ cx d0_504 rfl rfl (by decide) (by decide) ?_
        rfl
      · have szq : sz = (4 : Int32) := Int32.toInt_inj.mp (by rw [hsz, hA]; rfl)
        subst szq
        have ddq : dd = (4 : Int32) := Int32.toInt_inj.mp (by rw [hd, hA]; rfl)
        subst ddq
        have hMA : ∀ x, x ∈ ([u0, u1, u2, u3] : List Int64) ↔ x ∈ ([w3, w2, w1, w0] : List Int64) := fun x => own_rwM hA (hM x)
        have hND : ([u0, u1, u2, u3] : List Int64).Nodup := own_rwN hA hnd
        rw [hA] at A_o5002
        simp only [List.map_cons, List.map_nil] at A_o5002
        refine g_astore cx d0_271 rfl (Ls' := #[.val (.int ie), .val (.int ifl), .val (.long ja), .second, .val (.long jb), .second, .val (.long jc), .second, .val (.long jd), .second, .val (.ref b2), .val (.int (4 : Int32)), .val (.ref b11), .val (.int (4 : Int32)), .val (.ref o5002), .unset]) rfl ?_
        refine g_aload cx d0_273 rfl rfl ?_
        refine g_arraylength cx d0_275 A_o5002.1 ?_
        refine g_iload cx d0_276 rfl ?_
        refine g_icmp_eq cx d0_278 (fun hc278 => ?_) (fun q => absurd q (fun q => by revert q; decide))
        refine g_aload cx d0_283 rfl rfl ?_
        refine g_arraylength cx d0_285 A_o5002.1 ?_
        refine g_aload cx d0_286 rfl rfl ?_
        refine g_virtual cx (y := (⟨"com/example/gridsmith/gridsmith/LongSet", "size", "()I"⟩ : MethodName)) (z := (⟨"com/example/gridsmith/gridsmith/LongSet", "size", "()I"⟩ : MethodName)) (a := b2) d0_288 (hw _ (List.mem_of_getElem? (i := 54) rfl)) (hw _ (List.mem_of_getElem? (i := 55) rfl)) (hw _ (List.mem_of_getElem? (i := 2) rfl)) (hw _ (List.mem_of_getElem? (i := 58) rfl)) (hw _ (List.mem_of_getElem? (i := 57) rfl)) (hw _ (List.mem_of_getElem? (i := 56) rfl)) rfl (by decide) O_b2.1 (bytes := prog_22_method_5_code) (maxL' := 1) (M := (rmsg l Z a0 hw b2 t (4 : Int32) _ O_b2)) rfl (lenOf pd_7 rfl) (by decide) (W := 1) (Nat.le_of_eq rfl) (by decide) (k' := 4) (n' := 138) rfl rfl (by decide) (by decide) (argsL := []) (rest := [(.int (4 : Int32))]) rfl (fun v5099 h5098 q5100 => ?_)
        obtain ⟨rfl, rfl⟩ := q5100
        refine G.cast (st' := [(.int (4 : Int32)), (.int (4 : Int32))]) ?_ rfl
        refine g_icmp_eq cx d0_291 (fun hc291 => ?_) (fun q => absurd q (fun q => by revert q; decide))
        refine g_iload cx d0_296 rfl ?_
        refine g_if_le cx d0_298 (fun q => absurd q (fun q => by revert q; decide)) (fun hc298 => ?_)
        refine g_aload cx d0_301 rfl rfl ?_
        refine g_aload cx d0_303 rfl rfl ?_
        refine g_iconst cx d0_305 (v := (0 : Int32)) rfl ?_
        refine g_laload cx d0_306 A_b11.1 ⟨by decide, by decide⟩ (v := (.long w0)) rfl ?_
        refine g_static cx (y := (⟨"com/example/gridsmith/gridsmith/LongSetToArrayPinLaw", "has", "([JJ)Z"⟩ : MethodName)) d0_307 (hw _ (List.mem_of_getElem? (i := 59) rfl)) (hw _ (List.mem_of_getElem? (i := 60) rfl)) (hw _ (List.mem_of_getElem? (i := 61) rfl)) (hw _ (List.mem_of_getElem? (i := 62) rfl)) (by decide) (bytes := method_3_code) (maxL' := 3) (M := (rmhas4 l Z a0 hw o5002 cO5003 u0 u1 u2 u3 w0 _ A_o5002)) rfl (lenOf pd_8 rfl) (by decide) (W := 0) (Nat.le_of_eq rfl) (by decide) (k' := 4) (n' := 138) rfl rfl (by decide) (by decide) (argsL := [(.ref o5002), (.long w0)]) (rest := []) rfl (fun v5102 h5101 q5103 => ?_)
        obtain ⟨rfl, rfl⟩ := q5103
        refine G.cast (st' := [(.int (own_mem [u0, u1, u2, u3] w0))]) ?_ rfl
        refine g_if_ne cx d0_310 (fun hc310 => ?_) (fun q => absurd q (fun q => own_memF ((hMA _).mpr (by simp)) q))
        refine g_iload cx d0_315 rfl ?_
        refine g_iconst cx d0_317 (v := (1 : Int32)) rfl ?_
        refine g_icmp_le cx d0_318 (fun q => absurd q (fun q => by revert q; decide)) (fun hc318 => ?_)
        refine g_aload cx d0_321 rfl rfl ?_
        refine g_aload cx d0_323 rfl rfl ?_
        refine g_iconst cx d0_325 (v := (1 : Int32)) rfl ?_
        refine g_laload cx d0_326 A_b11.1 ⟨by decide, by decide⟩ (v := (.long w1)) rfl ?_
        refine g_static cx (y := (⟨"com/example/gridsmith/gridsmith/LongSetToArrayPinLaw", "has", "([JJ)Z"⟩ : MethodName)) d0_327 (hw _ (List.mem_of_getElem? (i := 59) rfl)) (hw _ (List.mem_of_getElem? (i := 60) rfl)) (hw _ (List.mem_of_getElem? (i := 61) rfl)) (hw _ (List.mem_of_getElem? (i := 62) rfl)) (by decide) (bytes := method_3_code) (maxL' := 3) (M := (rmhas4 l Z a0 hw o5002 cO5003 u0 u1 u2 u3 w1 _ A_o5002)) rfl (lenOf pd_8 rfl) (by decide) (W := 0) (Nat.le_of_eq rfl) (by decide) (k' := 4) (n' := 138) rfl rfl (by decide) (by decide) (argsL := [(.ref o5002), (.long w1)]) (rest := []) rfl (fun v5105 h5104 q5106 => ?_)
        obtain ⟨rfl, rfl⟩ := q5106
        refine G.cast (st' := [(.int (own_mem [u0, u1, u2, u3] w1))]) ?_ rfl
        refine g_if_ne cx d0_330 (fun hc330 => ?_) (fun q => absurd q (fun q => own_memF ((hMA _).mpr (by simp)) q))
        refine g_iload cx d0_335 rfl ?_
        refine g_iconst cx d0_337 (v := (2 : Int32)) rfl ?_
        refine g_icmp_le cx d0_338 (fun q => absurd q (fun q => by revert q; decide)) (fun hc338 => ?_)
        refine g_aload cx d0_341 rfl rfl ?_
        refine g_aload cx d0_343 rfl rfl ?_
        refine g_iconst cx d0_345 (v := (2 : Int32)) rfl ?_
        refine g_laload cx d0_346 A_b11.1 ⟨by decide, by decide⟩ (v := (.long w2)) rfl ?_
        refine g_static cx (y := (⟨"com/example/gridsmith/gridsmith/LongSetToArrayPinLaw", "has", "([JJ)Z"⟩ : MethodName)) d0_347 (hw _ (List.mem_of_getElem? (i := 59) rfl)) (hw _ (List.mem_of_getElem? (i := 60) rfl)) (hw _ (List.mem_of_getElem? (i := 61) rfl)) (hw _ (List.mem_of_getElem? (i := 62) rfl)) (by decide) (bytes := method_3_code) (maxL' := 3) (M := (rmhas4 l Z a0 hw o5002 cO5003 u0 u1 u2 u3 w2 _ A_o5002)) rfl (lenOf pd_8 rfl) (by decide) (W := 0) (Nat.le_of_eq rfl) (by decide) (k' := 4) (n' := 138) rfl rfl (by decide) (by decide) (argsL := [(.ref o5002), (.long w2)]) (rest := []) rfl (fun v5108 h5107 q5109 => ?_)
        obtain ⟨rfl, rfl⟩ := q5109
        refine G.cast (st' := [(.int (own_mem [u0, u1, u2, u3] w2))]) ?_ rfl
        refine g_if_ne cx d0_350 (fun hc350 => ?_) (fun q => absurd q (fun q => own_memF ((hMA _).mpr (by simp)) q))
        refine g_iload cx d0_355 rfl ?_
        refine g_iconst cx d0_357 (v := (3 : Int32)) rfl ?_
        refine g_icmp_le cx d0_358 (fun q => absurd q (fun q => by revert q; decide)) (fun hc358 => ?_)
        refine g_aload cx d0_361 rfl rfl ?_
        refine g_aload cx d0_363 rfl rfl ?_
        refine g_iconst cx d0_365 (v := (3 : Int32)) rfl ?_
        refine g_laload cx d0_366 A_b11.1 ⟨by decide, by decide⟩ (v := (.long w3)) rfl ?_
        refine g_static cx (y := (⟨"com/example/gridsmith/gridsmith/LongSetToArrayPinLaw", "has", "([JJ)Z"⟩ : MethodName)) d0_367 (hw _ (List.mem_of_getElem? (i := 59) rfl)) (hw _ (List.mem_of_getElem? (i := 60) rfl)) (hw _ (List.mem_of_getElem? (i := 61) rfl)) (hw _ (List.mem_of_getElem? (i := 62) rfl)) (by decide) (bytes := method_3_code) (maxL' := 3) (M := (rmhas4 l Z a0 hw o5002 cO5003 u0 u1 u2 u3 w3 _ A_o5002)) rfl (lenOf pd_8 rfl) (by decide) (W := 0) (Nat.le_of_eq rfl) (by decide) (k' := 4) (n' := 138) rfl rfl (by decide) (by decide) (argsL := [(.ref o5002), (.long w3)]) (rest := []) rfl (fun v5111 h5110 q5112 => ?_)
        obtain ⟨rfl, rfl⟩ := q5112
        refine G.cast (st' := [(.int (own_mem [u0, u1, u2, u3] w3))]) ?_ rfl
        refine g_if_ne cx d0_370 (fun hc370 => ?_) (fun q => absurd q (fun q => own_memF ((hMA _).mpr (by simp)) q))
        refine g_aload cx d0_375 rfl rfl ?_
        refine g_arraylength cx d0_377 A_o5002.1 ?_
        refine g_if_le cx d0_378 (fun q => absurd q (fun q => by revert q; decide)) (fun hc378 => ?_)
        refine g_aload cx d0_381 rfl rfl ?_
        refine g_iload cx d0_383 rfl ?_
        refine g_aload cx d0_385 rfl rfl ?_
        refine g_iconst cx d0_387 (v := (0 : Int32)) rfl ?_
        refine g_laload cx d0_388 A_o5002.1 ⟨by decide, by decide⟩ (v := (.long u0)) rfl ?_
        refine g_static cx (y := (⟨"com/example/gridsmith/gridsmith/LongSetToArrayPinLaw", "among", "([JIJ)Z"⟩ : MethodName)) d0_389 (hw _ (List.mem_of_getElem? (i := 63) rfl)) (hw _ (List.mem_of_getElem? (i := 64) rfl)) (hw _ (List.mem_of_getElem? (i := 61) rfl)) (hw _ (List.mem_of_getElem? (i := 65) rfl)) (by decide) (bytes := method_4_code) (maxL' := 4) (M := (rmamg4 l Z a0 hw b11 cA12 w0 w1 w2 w3 u0 _ A_b11)) rfl (lenOf pd_9 rfl) (by decide) (W := 0) (Nat.le_of_eq rfl) (by decide) (k' := 4) (n' := 138) rfl rfl (by decide) (by decide) (argsL := [(.ref b11), (.int (4 : Int32)), (.long u0)]) (rest := []) rfl (fun v5114 h5113 q5115 => ?_)
        obtain ⟨rfl, rfl⟩ := q5115
        refine G.cast (st' := [(.int (own_mem [w3, w2, w1, w0] u0))]) ?_ rfl
        refine g_if_ne cx d0_392 (fun hc392 => ?_) (fun q => absurd q (fun q => own_memF ((hMA _).mp (by simp)) q))
        refine g_aload cx d0_397 rfl rfl ?_
        refine g_arraylength cx d0_399 A_o5002.1 ?_
        refine g_iconst cx d0_400 (v := (1 : Int32)) rfl ?_
        refine g_icmp_le cx d0_401 (fun q => absurd q (fun q => by revert q; decide)) (fun hc401 => ?_)
        refine g_aload cx d0_404 rfl rfl ?_
        refine g_iload cx d0_406 rfl ?_
        refine g_aload cx d0_408 rfl rfl ?_
        refine g_iconst cx d0_410 (v := (1 : Int32)) rfl ?_
        refine g_laload cx d0_411 A_o5002.1 ⟨by decide, by decide⟩ (v := (.long u1)) rfl ?_
        refine g_static cx (y := (⟨"com/example/gridsmith/gridsmith/LongSetToArrayPinLaw", "among", "([JIJ)Z"⟩ : MethodName)) d0_412 (hw _ (List.mem_of_getElem? (i := 63) rfl)) (hw _ (List.mem_of_getElem? (i := 64) rfl)) (hw _ (List.mem_of_getElem? (i := 61) rfl)) (hw _ (List.mem_of_getElem? (i := 65) rfl)) (by decide) (bytes := method_4_code) (maxL' := 4) (M := (rmamg4 l Z a0 hw b11 cA12 w0 w1 w2 w3 u1 _ A_b11)) rfl (lenOf pd_9 rfl) (by decide) (W := 0) (Nat.le_of_eq rfl) (by decide) (k' := 4) (n' := 138) rfl rfl (by decide) (by decide) (argsL := [(.ref b11), (.int (4 : Int32)), (.long u1)]) (rest := []) rfl (fun v5117 h5116 q5118 => ?_)
        obtain ⟨rfl, rfl⟩ := q5118
        refine G.cast (st' := [(.int (own_mem [w3, w2, w1, w0] u1))]) ?_ rfl
        refine g_if_ne cx d0_415 (fun hc415 => ?_) (fun q => absurd q (fun q => own_memF ((hMA _).mp (by simp)) q))
        refine g_aload cx d0_420 rfl rfl ?_
        refine g_arraylength cx d0_422 A_o5002.1 ?_
        refine g_iconst cx d0_423 (v := (2 : Int32)) rfl ?_
        refine g_icmp_le cx d0_424 (fun q => absurd q (fun q => by revert q; decide)) (fun hc424 => ?_)
        refine g_aload cx d0_427 rfl rfl ?_
        refine g_iload cx d0_429 rfl ?_
        refine g_aload cx d0_431 rfl rfl ?_
        refine g_iconst cx d0_433 (v := (2 : Int32)) rfl ?_
        refine g_laload cx d0_434 A_o5002.1 ⟨by decide, by decide⟩ (v := (.long u2)) rfl ?_
        refine g_static cx (y := (⟨"com/example/gridsmith/gridsmith/LongSetToArrayPinLaw", "among", "([JIJ)Z"⟩ : MethodName)) d0_435 (hw _ (List.mem_of_getElem? (i := 63) rfl)) (hw _ (List.mem_of_getElem? (i := 64) rfl)) (hw _ (List.mem_of_getElem? (i := 61) rfl)) (hw _ (List.mem_of_getElem? (i := 65) rfl)) (by decide) (bytes := method_4_code) (maxL' := 4) (M := (rmamg4 l Z a0 hw b11 cA12 w0 w1 w2 w3 u2 _ A_b11)) rfl (lenOf pd_9 rfl) (by decide) (W := 0) (Nat.le_of_eq rfl) (by decide) (k' := 4) (n' := 138) rfl rfl (by decide) (by decide) (argsL := [(.ref b11), (.int (4 : Int32)), (.long u2)]) (rest := []) rfl (fun v5120 h5119 q5121 => ?_)
        obtain ⟨rfl, rfl⟩ := q5121
        refine G.cast (st' := [(.int (own_mem [w3, w2, w1, w0] u2))]) ?_ rfl
        refine g_if_ne cx d0_438 (fun hc438 => ?_) (fun q => absurd q (fun q => own_memF ((hMA _).mp (by simp)) q))
        refine g_aload cx d0_443 rfl rfl ?_
        refine g_arraylength cx d0_445 A_o5002.1 ?_
        refine g_iconst cx d0_446 (v := (3 : Int32)) rfl ?_
        refine g_icmp_le cx d0_447 (fun q => absurd q (fun q => by revert q; decide)) (fun hc447 => ?_)
        refine g_aload cx d0_450 rfl rfl ?_
        refine g_iload cx d0_452 rfl ?_
        refine g_aload cx d0_454 rfl rfl ?_
        refine g_iconst cx d0_456 (v := (3 : Int32)) rfl ?_
        refine g_laload cx d0_457 A_o5002.1 ⟨by decide, by decide⟩ (v := (.long u3)) rfl ?_
        refine g_static cx (y := (⟨"com/example/gridsmith/gridsmith/LongSetToArrayPinLaw", "among", "([JIJ)Z"⟩ : MethodName)) d0_458 (hw _ (List.mem_of_getElem? (i := 63) rfl)) (hw _ (List.mem_of_getElem? (i := 64) rfl)) (hw _ (List.mem_of_getElem? (i := 61) rfl)) (hw _ (List.mem_of_getElem? (i := 65) rfl)) (by decide) (bytes := method_4_code) (maxL' := 4) (M := (rmamg4 l Z a0 hw b11 cA12 w0 w1 w2 w3 u3 _ A_b11)) rfl (lenOf pd_9 rfl) (by decide) (W := 0) (Nat.le_of_eq rfl) (by decide) (k' := 4) (n' := 138) rfl rfl (by decide) (by decide) (argsL := [(.ref b11), (.int (4 : Int32)), (.long u3)]) (rest := []) rfl (fun v5123 h5122 q5124 => ?_)
        obtain ⟨rfl, rfl⟩ := q5124
        refine G.cast (st' := [(.int (own_mem [w3, w2, w1, w0] u3))]) ?_ rfl
        refine g_if_ne cx d0_461 (fun hc461 => ?_) (fun q => absurd q (fun q => own_memF ((hMA _).mp (by simp)) q))
        refine g_aload cx d0_466 rfl rfl ?_
        refine g_static cx (y := (⟨"com/example/gridsmith/gridsmith/LongSetToArrayPinLaw", "allDistinct", "([J)Z"⟩ : MethodName)) d0_468 (hw _ (List.mem_of_getElem? (i := 66) rfl)) (hw _ (List.mem_of_getElem? (i := 67) rfl)) (hw _ (List.mem_of_getElem? (i := 61) rfl)) (hw _ (List.mem_of_getElem? (i := 68) rfl)) (by decide) (bytes := method_5_code) (maxL' := 2) (M := (rmdis4 l Z a0 hw o5002 cO5003 u0 u1 u2 u3 _ A_o5002)) rfl (lenOf pd_10 rfl) (by decide) (W := 0) (Nat.le_of_eq rfl) (by decide) (k' := 4) (n' := 138) rfl rfl (by decide) (by decide) (argsL := [(.ref o5002)]) (rest := []) rfl (fun v5126 h5125 q5127 => ?_)
        obtain ⟨rfl, rfl⟩ := q5127
        refine G.cast (st' := [(.int (own_nd [u0, u1, u2, u3]))]) ?_ rfl
        refine g_if_ne cx d0_471 (fun hc471 => ?_) (fun q => absurd q (fun q => own_ndF hND q))
        refine g_aload cx d0_476 rfl rfl ?_
        refine g_virtual cx (y := (⟨"com/example/gridsmith/gridsmith/LongSet", "toArray", "()[J"⟩ : MethodName)) (z := (⟨"com/example/gridsmith/gridsmith/LongSet", "toArray", "()[J"⟩ : MethodName)) (a := b2) d0_478 (hw _ (List.mem_of_getElem? (i := 49) rfl)) (hw _ (List.mem_of_getElem? (i := 50) rfl)) (hw _ (List.mem_of_getElem? (i := 2) rfl)) (hw _ (List.mem_of_getElem? (i := 53) rfl)) (hw _ (List.mem_of_getElem? (i := 52) rfl)) (hw _ (List.mem_of_getElem? (i := 51) rfl)) rfl (by decide) O_b2.1 (bytes := prog_22_method_7_code) (maxL' := 8) (M := (rmta l Z a0 hw (own_ls f z.toNatClampNeg).length b2 t z hz f cT (4 : Int32) _ O_b2 A_t hsz rfl (Nat.le_trans hle (by decide)) ne_b2_t OL)) rfl (lenOf pd_6 rfl) (by decide) (W := 0) (Nat.le_of_eq rfl) (by decide) (k' := 5) (n' := 142) rfl rfl (by decide) (by decide) (argsL := []) (rest := []) rfl (fun v5132 h5131 q5133 => ?_)
        obtain ⟨o5128, cO5129, rfl, K5130, st_o5128, A_o5128⟩ := q5133
        have g_o5128 : Z.heap.size ≤ o5128 := Nat.le_trans OL.2.1 st_o5128
        have ne_b2_o5128 : b2 ≠ o5128 := Nat.ne_of_lt (Nat.lt_of_lt_of_le O_b2.lt st_o5128)
        have ne_t_o5128 : t ≠ o5128 := Nat.ne_of_lt (Nat.lt_of_lt_of_le A_t.lt st_o5128)
        have ne_b11_o5128 : b11 ≠ o5128 := Nat.ne_of_lt (Nat.lt_of_lt_of_le A_b11.lt st_o5128)
        have ne_o5002_o5128 : o5002 ≠ o5128 := Nat.ne_of_lt (Nat.lt_of_lt_of_le A_o5002.lt st_o5128)
        have O_b2 := O_b2.keep K5130 nin0
        have A_t := A_t.keep K5130 nin0
        have A_b11 := A_b11.keep K5130 nin0
        have A_o5002 := A_o5002.keep K5130 nin0
        have OL := OL.keep K5130 all0
        refine G.cast (st' := [(.ref o5128)]) ?_ rfl
        refine g_astore cx d0_481 rfl (Ls' := #[.val (.int ie), .val (.int ifl), .val (.long ja), .second, .val (.long jb), .second, .val (.long jc), .second, .val (.long jd), .second, .val (.ref b2), .val (.int (4 : Int32)), .val (.ref b11), .val (.int (4 : Int32)), .val (.ref o5002), .val (.ref o5128)]) rfl ?_
        refine g_aload cx d0_483 rfl rfl ?_
        refine g_aload cx d0_485 rfl rfl ?_
        refine g_acmp_eq cx rfl rfl d0_487 (fun q => absurd q (fun q => ne_o5002_o5128.symm (by cases q; rfl))) (fun hc487 => ?_)
        refine g_aload cx d0_490 rfl rfl ?_
        refine g_arraylength cx d0_492 A_o5128.1 ?_
        refine g_aload cx d0_493 rfl rfl ?_
        refine g_arraylength cx d0_495 A_o5002.1 ?_
        refine g_icmp_ne cx d0_496 (fun q => absurd q (fun q => by revert q; decide)) (fun hc496 => ?_)
        refine g_iconst cx d0_499 (v := (1 : Int32)) rfl ?_
        refine g_goto cx d0_500 ?_
        refine g_retZ cx d0_504 rfl rfl (by decide) (by decide) ?_
        rfl
    have J3 : ∀ (h : Heap) (f : Nat → Int64) (sz dd : Int32), Old Z Z.heap.size h → ObS Z h b2 (.ref t) (.int sz) → Arx Z h t cT .long z (own_lr z.toNatClampNeg f) (.long 0) "[J" → Arx Z h b11 cA12 .long (4 : Int32) [(.long w0), (.long w1), (.long w2), (.long w3)] (.long (0 : Int64)) "[J" → own_pr z.toNatClampNeg (own_hn z) f → own_ij z.toNatClampNeg f → sz.toInt = ((own_ls f z.toNatClampNeg).length : Int) → dd.toInt = ((own_ls f z.toNatClampNeg).length : Int) → (own_ls f z.toNatClampNeg).length ≤ 3 → (∀ x, x ∈ own_ls f z.toNatClampNeg ↔ x ∈ ([w2, w1, w0] : List Int64)) → ((2 : Int32)) < ((ifl &&& (2147483647 : Int32)) % (5 : Int32)) → G p l e room_1 s m #[.int ie, .int ifl, .long ja, .long jb, .long jc, .long jd] below meth c Z.heap.size (fun v _ => v = some (.int 1)) h 3 134 211 #[.val (.int ie), .val (.int ifl), .val (.long ja), .second, .val (.long jb), .second, .val (.long jc), .second, .val (.long jd), .second, .val (.ref b2), .val (.int ((ifl &&& (2147483647 : Int32)) % (5 : Int32))), .val (.ref b11), .val (.int dd), .unset, .unset] [] := by
      intro h f sz dd OL O_b2 A_t A_b11 HP1 HP2 hsz hd hle hM hnk
      refine g_iload cx d0_211 rfl ?_
      refine g_iconst cx d0_213 (v := (3 : Int32)) rfl ?_
      refine g_icmp_le cx d0_214 (fun hc214 => ?_) (fun hc214 => ?_)
      · have Dhs4001 : ((ifl &&& (2147483647 : Int32)) % (5 : Int32)) = (3 : Int32) := by
          have i_hnk : ((2 : Int32)).toInt < (((ifl &&& (2147483647 : Int32)) % (5 : Int32))).toInt := Int32.lt_iff_toInt_lt.mp hnk
          have i_hc214 : ¬ ((3 : Int32)).toInt < (((ifl &&& (2147483647 : Int32)) % (5 : Int32))).toInt := fun z => hc214 (Int32.lt_iff_toInt_lt.mpr z)
          have r3 := rng32 ifl
          have e2 : ((ifl &&& (2147483647 : Int32))).toInt = (ifl).toInt % 2147483648 := c_mask ifl (2147483647 : Int32) 31 (by decide) (by decide)
          have e1 : (0 ≤ ((ifl &&& (2147483647 : Int32))).toInt → (((ifl &&& (2147483647 : Int32)) % (5 : Int32))).toInt = ((ifl &&& (2147483647 : Int32))).toInt % 5) ∧ (((ifl &&& (2147483647 : Int32))).toInt < 0 → (((ifl &&& (2147483647 : Int32)) % (5 : Int32))).toInt = -((-((ifl &&& (2147483647 : Int32))).toInt) % 5)) := c_irem (ifl &&& (2147483647 : Int32)) (5 : Int32) 5 rfl
          have e4 : (3 : Int32).toInt = 3 := rfl
          have e5 : (2 : Int32).toInt = 2 := rfl
          simp only [← Int32.toInt_inj]
          omega
        have hs4001 := Dhs4001
        rw [hs4001]
        refine g_aload cx d0_266 rfl rfl ?_
        refine g_virtual cx (y := (⟨"com/example/gridsmith/gridsmith/LongSet", "toArray", "()[J"⟩ : MethodName)) (z := (⟨"com/example/gridsmith/gridsmith/LongSet", "toArray", "()[J"⟩ : MethodName)) (a := b2) d0_268 (hw _ (List.mem_of_getElem? (i := 49) rfl)) (hw _ (List.mem_of_getElem? (i := 50) rfl)) (hw _ (List.mem_of_getElem? (i := 2) rfl)) (hw _ (List.mem_of_getElem? (i := 53) rfl)) (hw _ (List.mem_of_getElem? (i := 52) rfl)) (hw _ (List.mem_of_getElem? (i := 51) rfl)) rfl (by decide) O_b2.1 (bytes := prog_22_method_7_code) (maxL' := 8) (M := (rmta l Z a0 hw (own_ls f z.toNatClampNeg).length b2 t z hz f cT sz _ O_b2 A_t hsz rfl (Nat.le_trans hle (by decide)) ne_b2_t OL)) rfl (lenOf pd_6 rfl) (by decide) (W := 0) (Nat.le_of_eq rfl) (by decide) (k' := 4) (n' := 138) rfl rfl (by decide) (by decide) (argsL := []) (rest := []) rfl (fun v4006 h4005 q4007 => ?_)
        obtain ⟨o4002, cO4003, rfl, K4004, st_o4002, A_o4002⟩ := q4007
        have g_o4002 : Z.heap.size ≤ o4002 := Nat.le_trans OL.2.1 st_o4002
        have ne_b2_o4002 : b2 ≠ o4002 := Nat.ne_of_lt (Nat.lt_of_lt_of_le O_b2.lt st_o4002)
        have ne_t_o4002 : t ≠ o4002 := Nat.ne_of_lt (Nat.lt_of_lt_of_le A_t.lt st_o4002)
        have ne_b11_o4002 : b11 ≠ o4002 := Nat.ne_of_lt (Nat.lt_of_lt_of_le A_b11.lt st_o4002)
        have O_b2 := O_b2.keep K4004 nin0
        have A_t := A_t.keep K4004 nin0
        have A_b11 := A_b11.keep K4004 nin0
        have OL := OL.keep K4004 all0
        refine G.cast (st' := [(.ref o4002)]) ?_ rfl
        have hnd := own_nodup z.toNatClampNeg HP2
        rcases own_shape (Nat.le_trans hle (by decide : 3 ≤ 4)) with hA | ⟨u0, hA⟩ | ⟨u0, u1, hA⟩ | ⟨u0, u1, u2, hA⟩ | ⟨u0, u1, u2, u3, hA⟩
        · exact absurd ((hM w0).mpr (by simp)) (by rw [hA]; simp)
        · have szq : sz = (1 : Int32) := Int32.toInt_inj.mp (by rw [hsz, hA]; rfl)
          subst szq
          have ddq : dd = (1 : Int32) := Int32.toInt_inj.mp (by rw [hd, hA]; rfl)
          subst ddq
          have hMA : ∀ x, x ∈ ([u0] : List Int64) ↔ x ∈ ([w2, w1, w0] : List Int64) := fun x => own_rwM hA (hM x)
          have hND : ([u0] : List Int64).Nodup := own_rwN hA hnd
          rw [hA] at A_o4002
          simp only [List.map_cons, List.map_nil] at A_o4002
          refine g_astore cx d0_271 rfl (Ls' := #[.val (.int ie), .val (.int ifl), .val (.long ja), .second, .val (.long jb), .second, .val (.long jc), .second, .val (.long jd), .second, .val (.ref b2), .val (.int (3 : Int32)), .val (.ref b11), .val (.int (1 : Int32)), .val (.ref o4002), .unset]) rfl ?_
          refine g_aload cx d0_273 rfl rfl ?_
          refine g_arraylength cx d0_275 A_o4002.1 ?_
          refine g_iload cx d0_276 rfl ?_
          refine g_icmp_eq cx d0_278 (fun hc278 => ?_) (fun q => absurd q (fun q => by revert q; decide))
          refine g_aload cx d0_283 rfl rfl ?_
          refine g_arraylength cx d0_285 A_o4002.1 ?_
          refine g_aload cx d0_286 rfl rfl ?_
          refine g_virtual cx (y := (⟨"com/example/gridsmith/gridsmith/LongSet", "size", "()I"⟩ : MethodName)) (z := (⟨"com/example/gridsmith/gridsmith/LongSet", "size", "()I"⟩ : MethodName)) (a := b2) d0_288 (hw _ (List.mem_of_getElem? (i := 54) rfl)) (hw _ (List.mem_of_getElem? (i := 55) rfl)) (hw _ (List.mem_of_getElem? (i := 2) rfl)) (hw _ (List.mem_of_getElem? (i := 58) rfl)) (hw _ (List.mem_of_getElem? (i := 57) rfl)) (hw _ (List.mem_of_getElem? (i := 56) rfl)) rfl (by decide) O_b2.1 (bytes := prog_22_method_5_code) (maxL' := 1) (M := (rmsg l Z a0 hw b2 t (1 : Int32) _ O_b2)) rfl (lenOf pd_7 rfl) (by decide) (W := 1) (Nat.le_of_eq rfl) (by decide) (k' := 4) (n' := 138) rfl rfl (by decide) (by decide) (argsL := []) (rest := [(.int (1 : Int32))]) rfl (fun v4009 h4008 q4010 => ?_)
          obtain ⟨rfl, rfl⟩ := q4010
          refine G.cast (st' := [(.int (1 : Int32)), (.int (1 : Int32))]) ?_ rfl
          refine g_icmp_eq cx d0_291 (fun hc291 => ?_) (fun q => absurd q (fun q => by revert q; decide))
          refine g_iload cx d0_296 rfl ?_
          refine g_if_le cx d0_298 (fun q => absurd q (fun q => by revert q; decide)) (fun hc298 => ?_)
          refine g_aload cx d0_301 rfl rfl ?_
          refine g_aload cx d0_303 rfl rfl ?_
          refine g_iconst cx d0_305 (v := (0 : Int32)) rfl ?_
          refine g_laload cx d0_306 A_b11.1 ⟨by decide, by decide⟩ (v := (.long w0)) rfl ?_
          refine g_static cx (y := (⟨"com/example/gridsmith/gridsmith/LongSetToArrayPinLaw", "has", "([JJ)Z"⟩ : MethodName)) d0_307 (hw _ (List.mem_of_getElem? (i := 59) rfl)) (hw _ (List.mem_of_getElem? (i := 60) rfl)) (hw _ (List.mem_of_getElem? (i := 61) rfl)) (hw _ (List.mem_of_getElem? (i := 62) rfl)) (by decide) (bytes := method_3_code) (maxL' := 3) (M := (rmhas1 l Z a0 hw o4002 cO4003 u0 w0 _ A_o4002)) rfl (lenOf pd_8 rfl) (by decide) (W := 0) (Nat.le_of_eq rfl) (by decide) (k' := 4) (n' := 138) rfl rfl (by decide) (by decide) (argsL := [(.ref o4002), (.long w0)]) (rest := []) rfl (fun v4012 h4011 q4013 => ?_)
          obtain ⟨rfl, rfl⟩ := q4013
          refine G.cast (st' := [(.int (own_mem [u0] w0))]) ?_ rfl
          refine g_if_ne cx d0_310 (fun hc310 => ?_) (fun q => absurd q (fun q => own_memF ((hMA _).mpr (by simp)) q))
          refine g_iload cx d0_315 rfl ?_
          refine g_iconst cx d0_317 (v := (1 : Int32)) rfl ?_
          refine g_icmp_le cx d0_318 (fun q => absurd q (fun q => by revert q; decide)) (fun hc318 => ?_)
          refine g_aload cx d0_321 rfl rfl ?_
          refine g_aload cx d0_323 rfl rfl ?_
          refine g_iconst cx d0_325 (v := (1 : Int32)) rfl ?_
          refine g_laload cx d0_326 A_b11.1 ⟨by decide, by decide⟩ (v := (.long w1)) rfl ?_
          refine g_static cx (y := (⟨"com/example/gridsmith/gridsmith/LongSetToArrayPinLaw", "has", "([JJ)Z"⟩ : MethodName)) d0_327 (hw _ (List.mem_of_getElem? (i := 59) rfl)) (hw _ (List.mem_of_getElem? (i := 60) rfl)) (hw _ (List.mem_of_getElem? (i := 61) rfl)) (hw _ (List.mem_of_getElem? (i := 62) rfl)) (by decide) (bytes := method_3_code) (maxL' := 3) (M := (rmhas1 l Z a0 hw o4002 cO4003 u0 w1 _ A_o4002)) rfl (lenOf pd_8 rfl) (by decide) (W := 0) (Nat.le_of_eq rfl) (by decide) (k' := 4) (n' := 138) rfl rfl (by decide) (by decide) (argsL := [(.ref o4002), (.long w1)]) (rest := []) rfl (fun v4015 h4014 q4016 => ?_)
          obtain ⟨rfl, rfl⟩ := q4016
          refine G.cast (st' := [(.int (own_mem [u0] w1))]) ?_ rfl
          refine g_if_ne cx d0_330 (fun hc330 => ?_) (fun q => absurd q (fun q => own_memF ((hMA _).mpr (by simp)) q))
          refine g_iload cx d0_335 rfl ?_
          refine g_iconst cx d0_337 (v := (2 : Int32)) rfl ?_
          refine g_icmp_le cx d0_338 (fun q => absurd q (fun q => by revert q; decide)) (fun hc338 => ?_)
          refine g_aload cx d0_341 rfl rfl ?_
          refine g_aload cx d0_343 rfl rfl ?_
          refine g_iconst cx d0_345 (v := (2 : Int32)) rfl ?_
          refine g_laload cx d0_346 A_b11.1 ⟨by decide, by decide⟩ (v := (.long w2)) rfl ?_
          refine g_static cx (y := (⟨"com/example/gridsmith/gridsmith/LongSetToArrayPinLaw", "has", "([JJ)Z"⟩ : MethodName)) d0_347 (hw _ (List.mem_of_getElem? (i := 59) rfl)) (hw _ (List.mem_of_getElem? (i := 60) rfl)) (hw _ (List.mem_of_getElem? (i := 61) rfl)) (hw _ (List.mem_of_getElem? (i := 62) rfl)) (by decide) (bytes := method_3_code) (maxL' := 3) (M := (rmhas1 l Z a0 hw o4002 cO4003 u0 w2 _ A_o4002)) rfl (lenOf pd_8 rfl) (by decide) (W := 0) (Nat.le_of_eq rfl) (by decide) (k' := 4) (n' := 138) rfl rfl (by decide) (by decide) (argsL := [(.ref o4002), (.long w2)]) (rest := []) rfl (fun v4018 h4017 q4019 => ?_)
          obtain ⟨rfl, rfl⟩ := q4019
          refine G.cast (st' := [(.int (own_mem [u0] w2))]) ?_ rfl
          refine g_if_ne cx d0_350 (fun hc350 => ?_) (fun q => absurd q (fun q => own_memF ((hMA _).mpr (by simp)) q))
          refine g_iload cx d0_355 rfl ?_
          refine g_iconst cx d0_357 (v := (3 : Int32)) rfl ?_
          refine g_icmp_le cx d0_358 (fun hc358 => ?_) (fun q => absurd q (fun q => by revert q; decide))
          refine g_aload cx d0_375 rfl rfl ?_
          refine g_arraylength cx d0_377 A_o4002.1 ?_
          refine g_if_le cx d0_378 (fun q => absurd q (fun q => by revert q; decide)) (fun hc378 => ?_)
          refine g_aload cx d0_381 rfl rfl ?_
          refine g_iload cx d0_383 rfl ?_
          refine g_aload cx d0_385 rfl rfl ?_
          refine g_iconst cx d0_387 (v := (0 : Int32)) rfl ?_
          refine g_laload cx d0_388 A_o4002.1 ⟨by decide, by decide⟩ (v := (.long u0)) rfl ?_
          refine g_static cx (y := (⟨"com/example/gridsmith/gridsmith/LongSetToArrayPinLaw", "among", "([JIJ)Z"⟩ : MethodName)) d0_389 (hw _ (List.mem_of_getElem? (i := 63) rfl)) (hw _ (List.mem_of_getElem? (i := 64) rfl)) (hw _ (List.mem_of_getElem? (i := 61) rfl)) (hw _ (List.mem_of_getElem? (i := 65) rfl)) (by decide) (bytes := method_4_code) (maxL' := 4) (M := (rmamg3 l Z a0 hw b11 cA12 w0 w1 w2 w3 u0 _ A_b11)) rfl (lenOf pd_9 rfl) (by decide) (W := 0) (Nat.le_of_eq rfl) (by decide) (k' := 4) (n' := 138) rfl rfl (by decide) (by decide) (argsL := [(.ref b11), (.int (3 : Int32)), (.long u0)]) (rest := []) rfl (fun v4021 h4020 q4022 => ?_)
          obtain ⟨rfl, rfl⟩ := q4022
          refine G.cast (st' := [(.int (own_mem [w2, w1, w0] u0))]) ?_ rfl
          refine g_if_ne cx d0_392 (fun hc392 => ?_) (fun q => absurd q (fun q => own_memF ((hMA _).mp (by simp)) q))
          refine g_aload cx d0_397 rfl rfl ?_
          refine g_arraylength cx d0_399 A_o4002.1 ?_
          refine g_iconst cx d0_400 (v := (1 : Int32)) rfl ?_
          refine g_icmp_le cx d0_401 (fun hc401 => ?_) (fun q => absurd q (fun q => by revert q; decide))
          refine g_aload cx d0_420 rfl rfl ?_
          refine g_arraylength cx d0_422 A_o4002.1 ?_
          refine g_iconst cx d0_423 (v := (2 : Int32)) rfl ?_
          refine g_icmp_le cx d0_424 (fun hc424 => ?_) (fun q => absurd q (fun q => by revert q; decide))
          refine g_aload cx d0_443 rfl rfl ?_
          refine g_arraylength cx d0_445 A_o4002.1 ?_
          refine g_iconst cx d0_446 (v := (3 : Int32)) rfl ?_
          refine g_icmp_le cx d0_447 (fun hc447 => ?_) (fun q => absurd q (fun q => by revert q; decide))
          refine g_aload cx d0_466 rfl rfl ?_
          refine g_static cx (y := (⟨"com/example/gridsmith/gridsmith/LongSetToArrayPinLaw", "allDistinct", "([J)Z"⟩ : MethodName)) d0_468 (hw _ (List.mem_of_getElem? (i := 66) rfl)) (hw _ (List.mem_of_getElem? (i := 67) rfl)) (hw _ (List.mem_of_getElem? (i := 61) rfl)) (hw _ (List.mem_of_getElem? (i := 68) rfl)) (by decide) (bytes := method_5_code) (maxL' := 2) (M := (rmdis1 l Z a0 hw o4002 cO4003 u0 _ A_o4002)) rfl (lenOf pd_10 rfl) (by decide) (W := 0) (Nat.le_of_eq rfl) (by decide) (k' := 4) (n' := 138) rfl rfl (by decide) (by decide) (argsL := [(.ref o4002)]) (rest := []) rfl (fun v4024 h4023 q4025 => ?_)
          obtain ⟨rfl, rfl⟩ := q4025
          refine G.cast (st' := [(.int (own_nd [u0]))]) ?_ rfl
          refine g_if_ne cx d0_471 (fun hc471 => ?_) (fun q => absurd q (fun q => own_ndF hND q))
          refine g_aload cx d0_476 rfl rfl ?_
          refine g_virtual cx (y := (⟨"com/example/gridsmith/gridsmith/LongSet", "toArray", "()[J"⟩ : MethodName)) (z := (⟨"com/example/gridsmith/gridsmith/LongSet", "toArray", "()[J"⟩ : MethodName)) (a := b2) d0_478 (hw _ (List.mem_of_getElem? (i := 49) rfl)) (hw _ (List.mem_of_getElem? (i := 50) rfl)) (hw _ (List.mem_of_getElem? (i := 2) rfl)) (hw _ (List.mem_of_getElem? (i := 53) rfl)) (hw _ (List.mem_of_getElem? (i := 52) rfl)) (hw _ (List.mem_of_getElem? (i := 51) rfl)) rfl (by decide) O_b2.1 (bytes := prog_22_method_7_code) (maxL' := 8) (M := (rmta l Z a0 hw (own_ls f z.toNatClampNeg).length b2 t z hz f cT (1 : Int32) _ O_b2 A_t hsz rfl (Nat.le_trans hle (by decide)) ne_b2_t OL)) rfl (lenOf pd_6 rfl) (by decide) (W := 0) (Nat.le_of_eq rfl) (by decide) (k' := 5) (n' := 142) rfl rfl (by decide) (by decide) (argsL := []) (rest := []) rfl (fun v4030 h4029 q4031 => ?_)
          obtain ⟨o4026, cO4027, rfl, K4028, st_o4026, A_o4026⟩ := q4031
          have g_o4026 : Z.heap.size ≤ o4026 := Nat.le_trans OL.2.1 st_o4026
          have ne_b2_o4026 : b2 ≠ o4026 := Nat.ne_of_lt (Nat.lt_of_lt_of_le O_b2.lt st_o4026)
          have ne_t_o4026 : t ≠ o4026 := Nat.ne_of_lt (Nat.lt_of_lt_of_le A_t.lt st_o4026)
          have ne_b11_o4026 : b11 ≠ o4026 := Nat.ne_of_lt (Nat.lt_of_lt_of_le A_b11.lt st_o4026)
          have ne_o4002_o4026 : o4002 ≠ o4026 := Nat.ne_of_lt (Nat.lt_of_lt_of_le A_o4002.lt st_o4026)
          have O_b2 := O_b2.keep K4028 nin0
          have A_t := A_t.keep K4028 nin0
          have A_b11 := A_b11.keep K4028 nin0
          have A_o4002 := A_o4002.keep K4028 nin0
          have OL := OL.keep K4028 all0
          refine G.cast (st' := [(.ref o4026)]) ?_ rfl
          refine g_astore cx d0_481 rfl (Ls' := #[.val (.int ie), .val (.int ifl), .val (.long ja), .second, .val (.long jb), .second, .val (.long jc), .second, .val (.long jd), .second, .val (.ref b2), .val (.int (3 : Int32)), .val (.ref b11), .val (.int (1 : Int32)), .val (.ref o4002), .val (.ref o4026)]) rfl ?_
          refine g_aload cx d0_483 rfl rfl ?_
          refine g_aload cx d0_485 rfl rfl ?_
          refine g_acmp_eq cx rfl rfl d0_487 (fun q => absurd q (fun q => ne_o4002_o4026.symm (by cases q; rfl))) (fun hc487 => ?_)
          refine g_aload cx d0_490 rfl rfl ?_
          refine g_arraylength cx d0_492 A_o4026.1 ?_
          refine g_aload cx d0_493 rfl rfl ?_
          refine g_arraylength cx d0_495 A_o4002.1 ?_
          refine g_icmp_ne cx d0_496 (fun q => absurd q (fun q => by revert q; decide)) (fun hc496 => ?_)
          refine g_iconst cx d0_499 (v := (1 : Int32)) rfl ?_
          refine g_goto cx d0_500 ?_
          refine g_retZ cx d0_504 rfl rfl (by decide) (by decide) ?_
          rfl
        · have szq : sz = (2 : Int32) := Int32.toInt_inj.mp (by rw [hsz, hA]; rfl)
          subst szq
          have ddq : dd = (2 : Int32) := Int32.toInt_inj.mp (by rw [hd, hA]; rfl)
          subst ddq
          have hMA : ∀ x, x ∈ ([u0, u1] : List Int64) ↔ x ∈ ([w2, w1, w0] : List Int64) := fun x => own_rwM hA (hM x)
          have hND : ([u0, u1] : List Int64).Nodup := own_rwN hA hnd
          rw [hA] at A_o4002
          simp only [List.map_cons, List.map_nil] at A_o4002
          refine g_astore cx d0_271 rfl (Ls' := #[.val (.int ie), .val (.int ifl), .val (.long ja), .second, .val (.long jb), .second, .val (.long jc), .second, .val (.long jd), .second, .val (.ref b2), .val (.int (3 : Int32)), .val (.ref b11), .val (.int (2 : Int32)), .val (.ref o4002), .unset]) rfl ?_
          refine g_aload cx d0_273 rfl rfl ?_
          refine g_arraylength cx d0_275 A_o4002.1 ?_
          refine g_iload cx d0_276 rfl ?_
          refine g_icmp_eq cx d0_278 (fun hc278 => ?_) (fun q => absurd q (fun q => by revert q; decide))
          refine g_aload cx d0_283 rfl rfl ?_
          refine g_arraylength cx d0_285 A_o4002.1 ?_
          refine g_aload cx d0_286 rfl rfl ?_
          refine g_virtual cx (y := (⟨"com/example/gridsmith/gridsmith/LongSet", "size", "()I"⟩ : MethodName)) (z := (⟨"com/example/gridsmith/gridsmith/LongSet", "size", "()I"⟩ : MethodName)) (a := b2) d0_288 (hw _ (List.mem_of_getElem? (i := 54) rfl)) (hw _ (List.mem_of_getElem? (i := 55) rfl)) (hw _ (List.mem_of_getElem? (i := 2) rfl)) (hw _ (List.mem_of_getElem? (i := 58) rfl)) (hw _ (List.mem_of_getElem? (i := 57) rfl)) (hw _ (List.mem_of_getElem? (i := 56) rfl)) rfl (by decide) O_b2.1 (bytes := prog_22_method_5_code) (maxL' := 1) (M := (rmsg l Z a0 hw b2 t (2 : Int32) _ O_b2)) rfl (lenOf pd_7 rfl) (by decide) (W := 1) (Nat.le_of_eq rfl) (by decide) (k' := 4) (n' := 138) rfl rfl (by decide) (by decide) (argsL := []) (rest := [(.int (2 : Int32))]) rfl (fun v4033 h4032 q4034 => ?_)
          obtain ⟨rfl, rfl⟩ := q4034
          refine G.cast (st' := [(.int (2 : Int32)), (.int (2 : Int32))]) ?_ rfl
          refine g_icmp_eq cx d0_291 (fun hc291 => ?_) (fun q => absurd q (fun q => by revert q; decide))
          refine g_iload cx d0_296 rfl ?_
          refine g_if_le cx d0_298 (fun q => absurd q (fun q => by revert q; decide)) (fun hc298 => ?_)
          refine g_aload cx d0_301 rfl rfl ?_
          refine g_aload cx d0_303 rfl rfl ?_
          refine g_iconst cx d0_305 (v := (0 : Int32)) rfl ?_
          refine g_laload cx d0_306 A_b11.1 ⟨by decide, by decide⟩ (v := (.long w0)) rfl ?_
          refine g_static cx (y := (⟨"com/example/gridsmith/gridsmith/LongSetToArrayPinLaw", "has", "([JJ)Z"⟩ : MethodName)) d0_307 (hw _ (List.mem_of_getElem? (i := 59) rfl)) (hw _ (List.mem_of_getElem? (i := 60) rfl)) (hw _ (List.mem_of_getElem? (i := 61) rfl)) (hw _ (List.mem_of_getElem? (i := 62) rfl)) (by decide) (bytes := method_3_code) (maxL' := 3) (M := (rmhas2 l Z a0 hw o4002 cO4003 u0 u1 w0 _ A_o4002)) rfl (lenOf pd_8 rfl) (by decide) (W := 0) (Nat.le_of_eq rfl) (by decide) (k' := 4) (n' := 138) rfl rfl (by decide) (by decide) (argsL := [(.ref o4002), (.long w0)]) (rest := []) rfl (fun v4036 h4035 q4037 => ?_)
          obtain ⟨rfl, rfl⟩ := q4037
          refine G.cast (st' := [(.int (own_mem [u0, u1] w0))]) ?_ rfl
          refine g_if_ne cx d0_310 (fun hc310 => ?_) (fun q => absurd q (fun q => own_memF ((hMA _).mpr (by simp)) q))
          refine g_iload cx d0_315 rfl ?_
          refine g_iconst cx d0_317 (v := (1 : Int32)) rfl ?_
          refine g_icmp_le cx d0_318 (fun q => absurd q (fun q => by revert q; decide)) (fun hc318 => ?_)
          refine g_aload cx d0_321 rfl rfl ?_
          refine g_aload cx d0_323 rfl rfl ?_
          refine g_iconst cx d0_325 (v := (1 : Int32)) rfl ?_
          refine g_laload cx d0_326 A_b11.1 ⟨by decide, by decide⟩ (v := (.long w1)) rfl ?_
          refine g_static cx (y := (⟨"com/example/gridsmith/gridsmith/LongSetToArrayPinLaw", "has", "([JJ)Z"⟩ : MethodName)) d0_327 (hw _ (List.mem_of_getElem? (i := 59) rfl)) (hw _ (List.mem_of_getElem? (i := 60) rfl)) (hw _ (List.mem_of_getElem? (i := 61) rfl)) (hw _ (List.mem_of_getElem? (i := 62) rfl)) (by decide) (bytes := method_3_code) (maxL' := 3) (M := (rmhas2 l Z a0 hw o4002 cO4003 u0 u1 w1 _ A_o4002)) rfl (lenOf pd_8 rfl) (by decide) (W := 0) (Nat.le_of_eq rfl) (by decide) (k' := 4) (n' := 138) rfl rfl (by decide) (by decide) (argsL := [(.ref o4002), (.long w1)]) (rest := []) rfl (fun v4039 h4038 q4040 => ?_)
          obtain ⟨rfl, rfl⟩ := q4040
          refine G.cast (st' := [(.int (own_mem [u0, u1] w1))]) ?_ rfl
          refine g_if_ne cx d0_330 (fun hc330 => ?_) (fun q => absurd q (fun q => own_memF ((hMA _).mpr (by simp)) q))
          refine g_iload cx d0_335 rfl ?_
          refine g_iconst cx d0_337 (v := (2 : Int32)) rfl ?_
          refine g_icmp_le cx d0_338 (fun q => absurd q (fun q => by revert q; decide)) (fun hc338 => ?_)
          refine g_aload cx d0_341 rfl rfl ?_
          refine g_aload cx d0_343 rfl rfl ?_
          refine g_iconst cx d0_345 (v := (2 : Int32)) rfl ?_
          refine g_laload cx d0_346 A_b11.1 ⟨by decide, by decide⟩ (v := (.long w2)) rfl ?_
          refine g_static cx (y := (⟨"com/example/gridsmith/gridsmith/LongSetToArrayPinLaw", "has", "([JJ)Z"⟩ : MethodName)) d0_347 (hw _ (List.mem_of_getElem? (i := 59) rfl)) (hw _ (List.mem_of_getElem? (i := 60) rfl)) (hw _ (List.mem_of_getElem? (i := 61) rfl)) (hw _ (List.mem_of_getElem? (i := 62) rfl)) (by decide) (bytes := method_3_code) (maxL' := 3) (M := (rmhas2 l Z a0 hw o4002 cO4003 u0 u1 w2 _ A_o4002)) rfl (lenOf pd_8 rfl) (by decide) (W := 0) (Nat.le_of_eq rfl) (by decide) (k' := 4) (n' := 138) rfl rfl (by decide) (by decide) (argsL := [(.ref o4002), (.long w2)]) (rest := []) rfl (fun v4042 h4041 q4043 => ?_)
          obtain ⟨rfl, rfl⟩ := q4043
          refine G.cast (st' := [(.int (own_mem [u0, u1] w2))]) ?_ rfl
          refine g_if_ne cx d0_350 (fun hc350 => ?_) (fun q => absurd q (fun q => own_memF ((hMA _).mpr (by simp)) q))
          refine g_iload cx d0_355 rfl ?_
          refine g_iconst cx d0_357 (v := (3 : Int32)) rfl ?_
          refine g_icmp_le cx d0_358 (fun hc358 => ?_) (fun q => absurd q (fun q => by revert q; decide))
          refine g_aload cx d0_375 rfl rfl ?_
          refine g_arraylength cx d0_377 A_o4002.1 ?_
          refine g_if_le cx d0_378 (fun q => absurd q (fun q => by revert q; decide)) (fun hc378 => ?_)
          refine g_aload cx d0_381 rfl rfl ?_
          refine g_iload cx d0_383 rfl ?_
          refine g_aload cx d0_385 rfl rfl ?_
          refine g_iconst cx d0_387 (v := (0 : Int32)) rfl ?_
          refine g_laload cx d0_388 A_o4002.1 ⟨by decide, by decide⟩ (v := (.long u0)) rfl ?_
          refine g_static cx (y := (⟨"com/example/gridsmith/gridsmith/LongSetToArrayPinLaw", "among", "([JIJ)Z"⟩ : MethodName)) d0_389 (hw _ (List.mem_of_getElem? (i := 63) rfl)) (hw _ (List.mem_of_getElem? (i := 64) rfl)) (hw _ (List.mem_of_getElem? (i := 61) rfl)) (hw _ (List.mem_of_getElem? (i := 65) rfl)) (by decide) (bytes := method_4_code) (maxL' := 4) (M := (rmamg3 l Z a0 hw b11 cA12 w0 w1 w2 w3 u0 _ A_b11)) rfl (lenOf pd_9 rfl) (by decide) (W := 0) (Nat.le_of_eq rfl) (by decide) (k' := 4) (n' := 138) rfl rfl (by decide) (by decide) (argsL := [(.ref b11), (.int (3 : Int32)), (.long u0)]) (rest := []) rfl (fun v4045 h4044 q4046 => ?_)
          obtain ⟨rfl, rfl⟩ := q4046
          refine G.cast (st' := [(.int (own_mem [w2, w1, w0] u0))]) ?_ rfl
          refine g_if_ne cx d0_392 (fun hc392 => ?_) (fun q => absurd q (fun q => own_memF ((hMA _).mp (by simp)) q))
          refine g_aload cx d0_397 rfl rfl ?_
          refine g_arraylength cx d0_399 A_o4002.1 ?_
          refine g_iconst cx d0_400 (v := (1 : Int32)) rfl ?_
          refine g_icmp_le cx d0_401 (fun q => absurd q (fun q => by revert q; decide)) (fun hc401 => ?_)
          refine g_aload cx d0_404 rfl rfl ?_
          refine g_iload cx d0_406 rfl ?_
          refine g_aload cx d0_408 rfl rfl ?_
          refine g_iconst cx d0_410 (v := (1 : Int32)) rfl ?_
          refine g_laload cx d0_411 A_o4002.1 ⟨by decide, by decide⟩ (v := (.long u1)) rfl ?_
          refine g_static cx (y := (⟨"com/example/gridsmith/gridsmith/LongSetToArrayPinLaw", "among", "([JIJ)Z"⟩ : MethodName)) d0_412 (hw _ (List.mem_of_getElem? (i := 63) rfl)) (hw _ (List.mem_of_getElem? (i := 64) rfl)) (hw _ (List.mem_of_getElem? (i := 61) rfl)) (hw _ (List.mem_of_getElem? (i := 65) rfl)) (by decide) (bytes := method_4_code) (maxL' := 4) (M := (rmamg3 l Z a0 hw b11 cA12 w0 w1 w2 w3 u1 _ A_b11)) rfl (lenOf pd_9 rfl) (by decide) (W := 0) (Nat.le_of_eq rfl) (by decide) (k' := 4) (n' := 138) rfl rfl (by decide) (by decide) (argsL := [(.ref b11), (.int (3 : Int32)), (.long u1)]) (rest := []) rfl (fun v4048 h4047 q4049 => ?_)
          obtain ⟨rfl, rfl⟩ := q4049
          refine G.cast (st' := [(.int (own_mem [w2, w1, w0] u1))]) ?_ rfl
          refine g_if_ne cx d0_415 (fun hc415 => ?_) (fun q => absurd q (fun q => own_memF ((hMA _).mp (by simp)) q))
          refine g_aload cx d0_420 rfl rfl ?_
          refine g_arraylength cx d0_422 A_o4002.1 ?_
          refine g_iconst cx d0_423 (v := (2 : Int32)) rfl ?_
          refine g_icmp_le cx d0_424 (fun hc424 => ?_) (fun q => absurd q (fun q => by revert q; decide))
          refine g_aload cx d0_443 rfl rfl ?_
          refine g_arraylength cx d0_445 A_o4002.1 ?_
          refine g_iconst cx d0_446 (v := (3 : Int32)) rfl ?_
          refine g_icmp_le cx d0_447 (fun hc447 => ?_) (fun q => absurd q (fun q => by revert q; decide))
          refine g_aload cx d0_466 rfl rfl ?_
          refine g_static cx (y := (⟨"com/example/gridsmith/gridsmith/LongSetToArrayPinLaw", "allDistinct", "([J)Z"⟩ : MethodName)) d0_468 (hw _ (List.mem_of_getElem? (i := 66) rfl)) (hw _ (List.mem_of_getElem? (i := 67) rfl)) (hw _ (List.mem_of_getElem? (i := 61) rfl)) (hw _ (List.mem_of_getElem? (i := 68) rfl)) (by decide) (bytes := method_5_code) (maxL' := 2) (M := (rmdis2 l Z a0 hw o4002 cO4003 u0 u1 _ A_o4002)) rfl (lenOf pd_10 rfl) (by decide) (W := 0) (Nat.le_of_eq rfl) (by decide) (k' := 4) (n' := 138) rfl rfl (by decide) (by decide) (argsL := [(.ref o4002)]) (rest := []) rfl (fun v4051 h4050 q4052 => ?_)
          obtain ⟨rfl, rfl⟩ := q4052
          refine G.cast (st' := [(.int (own_nd [u0, u1]))]) ?_ rfl
          refine g_if_ne cx d0_471 (fun hc471 => ?_) (fun q => absurd q (fun q => own_ndF hND q))
          refine g_aload cx d0_476 rfl rfl ?_
          refine g_virtual cx (y := (⟨"com/example/gridsmith/gridsmith/LongSet", "toArray", "()[J"⟩ : MethodName)) (z := (⟨"com/example/gridsmith/gridsmith/LongSet", "toArray", "()[J"⟩ : MethodName)) (a := b2) d0_478 (hw _ (List.mem_of_getElem? (i := 49) rfl)) (hw _ (List.mem_of_getElem? (i := 50) rfl)) (hw _ (List.mem_of_getElem? (i := 2) rfl)) (hw _ (List.mem_of_getElem? (i := 53) rfl)) (hw _ (List.mem_of_getElem? (i := 52) rfl)) (hw _ (List.mem_of_getElem? (i := 51) rfl)) rfl (by decide) O_b2.1 (bytes := prog_22_method_7_code) (maxL' := 8) (M := (rmta l Z a0 hw (own_ls f z.toNatClampNeg).length b2 t z hz f cT (2 : Int32) _ O_b2 A_t hsz rfl (Nat.le_trans hle (by decide)) ne_b2_t OL)) rfl (lenOf pd_6 rfl) (by decide) (W := 0) (Nat.le_of_eq rfl) (by decide) (k' := 5) (n' := 142) rfl rfl (by decide) (by decide) (argsL := []) (rest := []) rfl (fun v4057 h4056 q4058 => ?_)
          obtain ⟨o4053, cO4054, rfl, K4055, st_o4053, A_o4053⟩ := q4058
          have g_o4053 : Z.heap.size ≤ o4053 := Nat.le_trans OL.2.1 st_o4053
          have ne_b2_o4053 : b2 ≠ o4053 := Nat.ne_of_lt (Nat.lt_of_lt_of_le O_b2.lt st_o4053)
          have ne_t_o4053 : t ≠ o4053 := Nat.ne_of_lt (Nat.lt_of_lt_of_le A_t.lt st_o4053)
          have ne_b11_o4053 : b11 ≠ o4053 := Nat.ne_of_lt (Nat.lt_of_lt_of_le A_b11.lt st_o4053)
          have ne_o4002_o4053 : o4002 ≠ o4053 := Nat.ne_of_lt (Nat.lt_of_lt_of_le A_o4002.lt st_o4053)
          have O_b2 := O_b2.keep K4055 nin0
          have A_t := A_t.keep K4055 nin0
          have A_b11 := A_b11.keep K4055 nin0
          have A_o4002 := A_o4002.keep K4055 nin0
          have OL := OL.keep K4055 all0
          refine G.cast (st' := [(.ref o4053)]) ?_ rfl
          refine g_astore cx d0_481 rfl (Ls' := #[.val (.int ie), .val (.int ifl), .val (.long ja), .second, .val (.long jb), .second, .val (.long jc), .second, .val (.long jd), .second, .val (.ref b2), .val (.int (3 : Int32)), .val (.ref b11), .val (.int (2 : Int32)), .val (.ref o4002), .val (.ref o4053)]) rfl ?_
          refine g_aload cx d0_483 rfl rfl ?_
          refine g_aload cx d0_485 rfl rfl ?_
          refine g_acmp_eq cx rfl rfl d0_487 (fun q => absurd q (fun q => ne_o4002_o4053.symm (by cases q; rfl))) (fun hc487 => ?_)
          refine g_aload cx d0_490 rfl rfl ?_
          refine g_arraylength cx d0_492 A_o4053.1 ?_
          refine g_aload cx d0_493 rfl rfl ?_
          refine g_arraylength cx d0_495 A_o4002.1 ?_
          refine g_icmp_ne cx d0_496 (fun q => absurd q (fun q => by revert q; decide)) (fun hc496 => ?_)
          refine g_iconst cx d0_499 (v := (1 : Int32)) rfl ?_
          refine g_goto cx d0_500 ?_
          refine g_retZ cx d0_504 rfl rfl (by decide) (by decide) ?_
          rfl
        · have szq : sz = (3 : Int32) := Int32.toInt_inj.mp (by rw [hsz, hA]; rfl)
          subst szq
          have ddq : dd = (3 : Int32) := Int32.toInt_inj.mp (by rw [hd, hA]; rfl)
          subst ddq
          have hMA : ∀ x, x ∈ ([u0, u1, u2] : List Int64) ↔ x ∈ ([w2, w1, w0] : List Int64) := fun x => own_rwM hA (hM x)
          have hND : ([u0, u1, u2] : List Int64).Nodup := own_rwN hA hnd
          rw [hA] at A_o4002
          simp only [List.map_cons, List.map_nil] at A_o4002
          refine g_astore cx d0_271 rfl (Ls' := #[.val (.int ie), .val (.int ifl), .val (.long ja), .second, .val (.long jb), .second, .val (.long jc), .second, .val (.long jd), .second, .val (.ref b2), .val (.int (3 : Int32)), .val (.ref b11), .val (.int (3 : Int32)), .val (.ref o4002), .unset]) rfl ?_
          refine g_aload cx d0_273 rfl rfl ?_
          refine g_arraylength cx d0_275 A_o4002.1 ?_
          refine g_iload cx d0_276 rfl ?_
          refine g_icmp_eq cx d0_278 (fun hc278 => ?_) (fun q => absurd q (fun q => by revert q; decide))
          refine g_aload cx d0_283 rfl rfl ?_
          refine g_arraylength cx d0_285 A_o4002.1 ?_
          refine g_aload cx d0_286 rfl rfl ?_
          refine g_virtual cx (y := (⟨"com/example/gridsmith/gridsmith/LongSet", "size", "()I"⟩ : MethodName)) (z := (⟨"com/example/gridsmith/gridsmith/LongSet", "size", "()I"⟩ : MethodName)) (a := b2) d0_288 (hw _ (List.mem_of_getElem? (i := 54) rfl)) (hw _ (List.mem_of_getElem? (i := 55) rfl)) (hw _ (List.mem_of_getElem? (i := 2) rfl)) (hw _ (List.mem_of_getElem? (i := 58) rfl)) (hw _ (List.mem_of_getElem? (i := 57) rfl)) (hw _ (List.mem_of_getElem? (i := 56) rfl)) rfl (by decide) O_b2.1 (bytes := prog_22_method_5_code) (maxL' := 1) (M := (rmsg l Z a0 hw b2 t (3 : Int32) _ O_b2)) rfl (lenOf pd_7 rfl) (by decide) (W := 1) (Nat.le_of_eq rfl) (by decide) (k' := 4) (n' := 138) rfl rfl (by decide) (by decide) (argsL := []) (rest := [(.int (3 : Int32))]) rfl (fun v4060 h4059 q4061 => ?_)
          obtain ⟨rfl, rfl⟩ := q4061
          refine G.cast (st' := [(.int (3 : Int32)), (.int (3 : Int32))]) ?_ rfl
          refine g_icmp_eq cx d0_291 (fun hc291 => ?_) (fun q => absurd q (fun q => by revert q; decide))
          refine g_iload cx d0_296 rfl ?_
          refine g_if_le cx d0_298 (fun q => absurd q (fun q => by revert q; decide)) (fun hc298 => ?_)
          refine g_aload cx d0_301 rfl rfl ?_
          refine g_aload cx d0_303 rfl rfl ?_
          refine g_iconst cx d0_305 (v := (0 : Int32)) rfl ?_
          refine g_laload cx d0_306 A_b11.1 ⟨by decide, by decide⟩ (v := (.long w0)) rfl ?_
          refine g_static cx (y := (⟨"com/example/gridsmith/gridsmith/LongSetToArrayPinLaw", "has", "([JJ)Z"⟩ : MethodName)) d0_307 (hw _ (List.mem_of_getElem? (i := 59) rfl)) (hw _ (List.mem_of_getElem? (i := 60) rfl)) (hw _ (List.mem_of_getElem? (i := 61) rfl)) (hw _ (List.mem_of_getElem? (i := 62) rfl)) (by decide) (bytes := method_3_code) (maxL' := 3) (M := (rmhas3 l Z a0 hw o4002 cO4003 u0 u1 u2 w0 _ A_o4002)) rfl (lenOf pd_8 rfl) (by decide) (W := 0) (Nat.le_of_eq rfl) (by decide) (k' := 4) (n' := 138) rfl rfl (by decide) (by decide) (argsL := [(.ref o4002), (.long w0)]) (rest := []) rfl (fun v4063 h4062 q4064 => ?_)
          obtain ⟨rfl, rfl⟩ := q4064
          refine G.cast (st' := [(.int (own_mem [u0, u1, u2] w0))]) ?_ rfl
          refine g_if_ne cx d0_310 (fun hc310 => ?_) (fun q => absurd q (fun q => own_memF ((hMA _).mpr (by simp)) q))
          refine g_iload cx d0_315 rfl ?_
          refine g_iconst cx d0_317 (v := (1 : Int32)) rfl ?_
          refine g_icmp_le cx d0_318 (fun q => absurd q (fun q => by revert q; decide)) (fun hc318 => ?_)
          refine g_aload cx d0_321 rfl rfl ?_
          refine g_aload cx d0_323 rfl rfl ?_
          refine g_iconst cx d0_325 (v := (1 : Int32)) rfl ?_
          refine g_laload cx d0_326 A_b11.1 ⟨by decide, by decide⟩ (v := (.long w1)) rfl ?_
          refine g_static cx (y := (⟨"com/example/gridsmith/gridsmith/LongSetToArrayPinLaw", "has", "([JJ)Z"⟩ : MethodName)) d0_327 (hw _ (List.mem_of_getElem? (i := 59) rfl)) (hw _ (List.mem_of_getElem? (i := 60) rfl)) (hw _ (List.mem_of_getElem? (i := 61) rfl)) (hw _ (List.mem_of_getElem? (i := 62) rfl)) (by decide) (bytes := method_3_code) (maxL' := 3) (M := (rmhas3 l Z a0 hw o4002 cO4003 u0 u1 u2 w1 _ A_o4002)) rfl (lenOf pd_8 rfl) (by decide) (W := 0) (Nat.le_of_eq rfl) (by decide) (k' := 4) (n' := 138) rfl rfl (by decide) (by decide) (argsL := [(.ref o4002), (.long w1)]) (rest := []) rfl (fun v4066 h4065 q4067 => ?_)
          obtain ⟨rfl, rfl⟩ := q4067
          refine G.cast (st' := [(.int (own_mem [u0, u1, u2] w1))]) ?_ rfl
          refine g_if_ne cx d0_330 (fun hc330 => ?_) (fun q => absurd q (fun q => own_memF ((hMA _).mpr (by simp)) q))
          refine g_iload cx d0_335 rfl ?_
          refine g_iconst cx d0_337 (v := (2 : Int32)) rfl ?_
          refine g_icmp_le cx d0_338 (fun q => absurd q (fun q => by revert q; decide)) (fun hc338 => ?_)
          refine g_aload cx d0_341 rfl rfl ?_
          refine g_aload cx d0_343 rfl rfl ?_
          refine g_iconst cx d0_345 (v := (2 : Int32)) rfl ?_
          refine g_laload cx d0_346 A_b11.1 ⟨by decide, by decide⟩ (v := (.long w2)) rfl ?_
          refine g_static cx (y := (⟨"com/example/gridsmith/gridsmith/LongSetToArrayPinLaw", "has", "([JJ)Z"⟩ : MethodName)) d0_347 (hw _ (List.mem_of_getElem? (i := 59) rfl)) (hw _ (List.mem_of_getElem? (i := 60) rfl)) (hw _ (List.mem_of_getElem? (i := 61) rfl)) (hw _ (List.mem_of_getElem? (i := 62) rfl)) (by decide) (bytes := method_3_code) (maxL' := 3) (M := (rmhas3 l Z a0 hw o4002 cO4003 u0 u1 u2 w2 _ A_o4002)) rfl (lenOf pd_8 rfl) (by decide) (W := 0) (Nat.le_of_eq rfl) (by decide) (k' := 4) (n' := 138) rfl rfl (by decide) (by decide) (argsL := [(.ref o4002), (.long w2)]) (rest := []) rfl (fun v4069 h4068 q4070 => ?_)
          obtain ⟨rfl, rfl⟩ := q4070
          refine G.cast (st' := [(.int (own_mem [u0, u1, u2] w2))]) ?_ rfl
          refine g_if_ne cx d0_350 (fun hc350 => ?_) (fun q => absurd q (fun q => own_memF ((hMA _).mpr (by simp)) q))
          refine g_iload cx d0_355 rfl ?_
          refine g_iconst cx d0_357 (v := (3 : Int32)) rfl ?_
          refine g_icmp_le cx d0_358 (fun hc358 => ?_) (fun q => absurd q (fun q => by revert q; decide))
          refine g_aload cx d0_375 rfl rfl ?_
          refine g_arraylength cx d0_377 A_o4002.1 ?_
          refine g_if_le cx d0_378 (fun q => absurd q (fun q => by revert q; decide)) (fun hc378 => ?_)
          refine g_aload cx d0_381 rfl rfl ?_
          refine g_iload cx d0_383 rfl ?_
          refine g_aload cx d0_385 rfl rfl ?_
          refine g_iconst cx d0_387 (v := (0 : Int32)) rfl ?_
          refine g_laload cx d0_388 A_o4002.1 ⟨by decide, by decide⟩ (v := (.long u0)) rfl ?_
          refine g_static cx (y := (⟨"com/example/gridsmith/gridsmith/LongSetToArrayPinLaw", "among", "([JIJ)Z"⟩ : MethodName)) d0_389 (hw _ (List.mem_of_getElem? (i := 63) rfl)) (hw _ (List.mem_of_getElem? (i := 64) rfl)) (hw _ (List.mem_of_getElem? (i := 61) rfl)) (hw _ (List.mem_of_getElem? (i := 65) rfl)) (by decide) (bytes := method_4_code) (maxL' := 4) (M := (rmamg3 l Z a0 hw b11 cA12 w0 w1 w2 w3 u0 _ A_b11)) rfl (lenOf pd_9 rfl) (by decide) (W := 0) (Nat.le_of_eq rfl) (by decide) (k' := 4) (n' := 138) rfl rfl (by decide) (by decide) (argsL := [(.ref b11), (.int (3 : Int32)), (.long u0)]) (rest := []) rfl (fun v4072 h4071 q4073 => ?_)
          obtain ⟨rfl, rfl⟩ := q4073
          refine G.cast (st' := [(.int (own_mem [w2, w1, w0] u0))]) ?_ rfl
          refine g_if_ne cx d0_392 (fun hc392 => ?_) (fun q => absurd q (fun q => own_memF ((hMA _).mp (by simp)) q))
          refine g_aload cx d0_397 rfl rfl ?_
          refine g_arraylength cx d0_399 A_o4002.1 ?_
          refine g_iconst cx d0_400 (v := (1 : Int32)) rfl ?_
          refine g_icmp_le cx d0_401 (fun q => absurd q (fun q => by revert q; decide)) (fun hc401 => ?_)
          refine g_aload cx d0_404 rfl rfl ?_
          refine g_iload cx d0_406 rfl ?_
          refine g_aload cx d0_408 rfl rfl ?_
          refine g_iconst cx d0_410 (v := (1 : Int32)) rfl ?_
          refine g_laload cx d0_411 A_o4002.1 ⟨by decide, by decide⟩ (v := (.long u1)) rfl ?_
          refine g_static cx (y := (⟨"com/example/gridsmith/gridsmith/LongSetToArrayPinLaw", "among", "([JIJ)Z"⟩ : MethodName)) d0_412 (hw _ (List.mem_of_getElem? (i := 63) rfl)) (hw _ (List.mem_of_getElem? (i := 64) rfl)) (hw _ (List.mem_of_getElem? (i := 61) rfl)) (hw _ (List.mem_of_getElem? (i := 65) rfl)) (by decide) (bytes := method_4_code) (maxL' := 4) (M := (rmamg3 l Z a0 hw b11 cA12 w0 w1 w2 w3 u1 _ A_b11)) rfl (lenOf pd_9 rfl) (by decide) (W := 0) (Nat.le_of_eq rfl) (by decide) (k' := 4) (n' := 138) rfl rfl (by decide) (by decide) (argsL := [(.ref b11), (.int (3 : Int32)), (.long u1)]) (rest := []) rfl (fun v4075 h4074 q4076 => ?_)
          obtain ⟨rfl, rfl⟩ := q4076
          refine G.cast (st' := [(.int (own_mem [w2, w1, w0] u1))]) ?_ rfl
          refine g_if_ne cx d0_415 (fun hc415 => ?_) (fun q => absurd q (fun q => own_memF ((hMA _).mp (by simp)) q))
          refine g_aload cx d0_420 rfl rfl ?_
          refine g_arraylength cx d0_422 A_o4002.1 ?_
          refine g_iconst cx d0_423 (v := (2 : Int32)) rfl ?_
          refine g_icmp_le cx d0_424 (fun q => absurd q (fun q => by revert q; decide)) (fun hc424 => ?_)
          refine g_aload cx d0_427 rfl rfl ?_
          refine g_iload cx d0_429 rfl ?_
          refine g_aload cx d0_431 rfl rfl ?_
          refine g_iconst cx d0_433 (v := (2 : Int32)) rfl ?_
          refine g_laload cx d0_434 A_o4002.1 ⟨by decide, by decide⟩ (v := (.long u2)) rfl ?_
          refine g_static cx (y := (⟨"com/example/gridsmith/gridsmith/LongSetToArrayPinLaw", "among", "([JIJ)Z"⟩ : MethodName)) d0_435 (hw _ (List.mem_of_getElem? (i := 63) rfl)) (hw _ (List.mem_of_getElem? (i := 64) rfl)) (hw _ (List.mem_of_getElem? (i := 61) rfl)) (hw _ (List.mem_of_getElem? (i := 65) rfl)) (by decide) (bytes := method_4_code) (maxL' := 4) (M := (rmamg3 l Z a0 hw b11 cA12 w0 w1 w2 w3 u2 _ A_b11)) rfl (lenOf pd_9 rfl) (by decide) (W := 0) (Nat.le_of_eq rfl) (by decide) (k' := 4) (n' := 138) rfl rfl (by decide) (by decide) (argsL := [(.ref b11), (.int (3 : Int32)), (.long u2)]) (rest := []) rfl (fun v4078 h4077 q4079 => ?_)
          obtain ⟨rfl, rfl⟩ := q4079
          refine G.cast (st' := [(.int (own_mem [w2, w1, w0] u2))]) ?_ rfl
          refine g_if_ne cx d0_438 (fun hc438 => ?_) (fun q => absurd q (fun q => own_memF ((hMA _).mp (by simp)) q))
          refine g_aload cx d0_443 rfl rfl ?_
          refine g_arraylength cx d0_445 A_o4002.1 ?_
          refine g_iconst cx d0_446 (v := (3 : Int32)) rfl ?_
          refine g_icmp_le cx d0_447 (fun hc447 => ?_) (fun q => absurd q (fun q => by revert q; decide))
          refine g_aload cx d0_466 rfl rfl ?_
          refine g_static cx (y := (⟨"com/example/gridsmith/gridsmith/LongSetToArrayPinLaw", "allDistinct", "([J)Z"⟩ : MethodName)) d0_468 (hw _ (List.mem_of_getElem? (i := 66) rfl)) (hw _ (List.mem_of_getElem? (i := 67) rfl)) (hw _ (List.mem_of_getElem? (i := 61) rfl)) (hw _ (List.mem_of_getElem? (i := 68) rfl)) (by decide) (bytes := method_5_code) (maxL' := 2) (M := (rmdis3 l Z a0 hw o4002 cO4003 u0 u1 u2 _ A_o4002)) rfl (lenOf pd_10 rfl) (by decide) (W := 0) (Nat.le_of_eq rfl) (by decide) (k' := 4) (n' := 138) rfl rfl (by decide) (by decide) (argsL := [(.ref o4002)]) (rest := []) rfl (fun v4081 h4080 q4082 => ?_)
          obtain ⟨rfl, rfl⟩ := q4082
          refine G.cast (st' := [(.int (own_nd [u0, u1, u2]))]) ?_ rfl
          refine g_if_ne cx d0_471 (fun hc471 => ?_) (fun q => absurd q (fun q => own_ndF hND q))
          refine g_aload cx d0_476 rfl rfl ?_
          refine g_virtual cx (y := (⟨"com/example/gridsmith/gridsmith/LongSet", "toArray", "()[J"⟩ : MethodName)) (z := (⟨"com/example/gridsmith/gridsmith/LongSet", "toArray", "()[J"⟩ : MethodName)) (a := b2) d0_478 (hw _ (List.mem_of_getElem? (i := 49) rfl)) (hw _ (List.mem_of_getElem? (i := 50) rfl)) (hw _ (List.mem_of_getElem? (i := 2) rfl)) (hw _ (List.mem_of_getElem? (i := 53) rfl)) (hw _ (List.mem_of_getElem? (i := 52) rfl)) (hw _ (List.mem_of_getElem? (i := 51) rfl)) rfl (by decide) O_b2.1 (bytes := prog_22_method_7_code) (maxL' := 8) (M := (rmta l Z a0 hw (own_ls f z.toNatClampNeg).length b2 t z hz f cT (3 : Int32) _ O_b2 A_t hsz rfl (Nat.le_trans hle (by decide)) ne_b2_t OL)) rfl (lenOf pd_6 rfl) (by decide) (W := 0) (Nat.le_of_eq rfl) (by decide) (k' := 5) (n' := 142) rfl rfl (by decide) (by decide) (argsL := []) (rest := []) rfl (fun v4087 h4086 q4088 => ?_)
          obtain ⟨o4083, cO4084, rfl, K4085, st_o4083, A_o4083⟩ := q4088
          have g_o4083 : Z.heap.size ≤ o4083 := Nat.le_trans OL.2.1 st_o4083
          have ne_b2_o4083 : b2 ≠ o4083 := Nat.ne_of_lt (Nat.lt_of_lt_of_le O_b2.lt st_o4083)
          have ne_t_o4083 : t ≠ o4083 := Nat.ne_of_lt (Nat.lt_of_lt_of_le A_t.lt st_o4083)
          have ne_b11_o4083 : b11 ≠ o4083 := Nat.ne_of_lt (Nat.lt_of_lt_of_le A_b11.lt st_o4083)
          have ne_o4002_o4083 : o4002 ≠ o4083 := Nat.ne_of_lt (Nat.lt_of_lt_of_le A_o4002.lt st_o4083)
          have O_b2 := O_b2.keep K4085 nin0
          have A_t := A_t.keep K4085 nin0
          have A_b11 := A_b11.keep K4085 nin0
          have A_o4002 := A_o4002.keep K4085 nin0
          have OL := OL.keep K4085 all0
          refine G.cast (st' := [(.ref o4083)]) ?_ rfl
          refine g_astore cx d0_481 rfl (Ls' := #[.val (.int ie), .val (.int ifl), .val (.long ja), .second, .val (.long jb), .second, .val (.long jc), .second, .val (.long jd), .second, .val (.ref b2), .val (.int (3 : Int32)), .val (.ref b11), .val (.int (3 : Int32)), .val (.ref o4002), .val (.ref o4083)]) rfl ?_
          refine g_aload cx d0_483 rfl rfl ?_
          refine g_aload cx d0_485 rfl rfl ?_
          refine g_acmp_eq cx rfl rfl d0_487 (fun q => absurd q (fun q => ne_o4002_o4083.symm (by cases q; rfl))) (fun hc487 => ?_)
          refine g_aload cx d0_490 rfl rfl ?_
          refine g_arraylength cx d0_492 A_o4083.1 ?_
          refine g_aload cx d0_493 rfl rfl ?_
          refine g_arraylength cx d0_495 A_o4002.1 ?_
          refine g_icmp_ne cx d0_496 (fun q => absurd q (fun q => by revert q; decide)) (fun hc496 => ?_)
          refine g_iconst cx d0_499 (v := (1 : Int32)) rfl ?_
          refine g_goto cx d0_500 ?_
          refine g_retZ cx d0_504 rfl rfl (by decide) (by decide) ?_
          rfl
        · exact absurd hle (by rw [hA]; simp)
      · refine g_aload cx d0_217 rfl rfl ?_
        refine g_aload cx d0_219 rfl rfl ?_
        refine g_iconst cx d0_221 (v := (3 : Int32)) rfl ?_
        refine g_laload cx d0_222 A_b11.1 ⟨by decide, by decide⟩ (v := (.long w3)) rfl ?_
        refine g_virtual cx (y := (⟨"com/example/gridsmith/gridsmith/LongSet", "add", "(J)Z"⟩ : MethodName)) (z := (⟨"com/example/gridsmith/gridsmith/LongSet", "add", "(J)Z"⟩ : MethodName)) (a := b2) d0_223 (hw _ (List.mem_of_getElem? (i := 35) rfl)) (hw _ (List.mem_of_getElem? (i := 36) rfl)) (hw _ (List.mem_of_getElem? (i := 2) rfl)) (hw _ (List.mem_of_getElem? (i := 39) rfl)) (hw _ (List.mem_of_getElem? (i := 38) rfl)) (hw _ (List.mem_of_getElem? (i := 37) rfl)) rfl (by decide) O_b2.1 (bytes := prog_22_method_3_code) (maxL' := 4) (M := (rmad l Z a0 hw w3 y3 b2 t z hz f cT sz _ O_b2 A_t hsz (Nat.le_trans hle (by decide)) HP1 HP2 ne_b2_t g_b2 g_t OL)) rfl (lenOf pd_11 rfl) (by decide) (W := 0) (Nat.le_of_eq rfl) (by decide) (k' := 3) (n' := 134) rfl rfl (by decide) (by decide) (argsL := [(.long w3)]) (rest := []) rfl (fun v4093 h4092 q4094 => ?_)
        obtain ⟨ra, f4089, sz4090, rfl, K4091, O_b2, A_t, HQ1, HQ2, hsz2, hM2, hin, hnin⟩ := q4094
        have A_b11 := A_b11.keep K4091 (ninS (Ne.symm ne_b2_b11) (ninS (Ne.symm ne_t_b11) nin0))
        have OL := OL.keep K4091 (allS g_b2 (allS g_t all0))
        refine G.cast (st' := [(.int ra)]) ?_ rfl
        refine g_pop cx d0_226 rfl ?_
        refine g_aload cx d0_227 rfl rfl ?_
        refine g_iconst cx d0_229 (v := (3 : Int32)) rfl ?_
        refine g_laload cx d0_230 A_b11.1 ⟨by decide, by decide⟩ (v := (.long w3)) rfl ?_
        refine g_aload cx d0_231 rfl rfl ?_
        refine g_iconst cx d0_233 (v := (0 : Int32)) rfl ?_
        refine g_laload cx d0_234 A_b11.1 ⟨by decide, by decide⟩ (v := (.long w0)) rfl ?_
        refine g_lif_eq cx d0_235 d0_236 (fun hc236 => ?_) (fun hc236 => ?_)
        · have hm : w3 ∈ own_ls f z.toNatClampNeg := (hM _).mpr (by simp [hc236])
          have hl := hin hm
          have hd2 : (dd).toInt = ((own_ls f4089 z.toNatClampNeg).length : Int) := by rw [hl]; exact hd
          exact J4 _ f4089 sz4090 _ OL O_b2 A_t A_b11 HQ1 HQ2 hsz2 hd2 (by omega) (fun x => (hM2 x).trans ((or_congr Iff.rfl (hM x)).trans List.mem_cons.symm)) hc214
        · refine g_aload cx d0_239 rfl rfl ?_
          refine g_iconst cx d0_241 (v := (3 : Int32)) rfl ?_
          refine g_laload cx d0_242 A_b11.1 ⟨by decide, by decide⟩ (v := (.long w3)) rfl ?_
          refine g_aload cx d0_243 rfl rfl ?_
          refine g_iconst cx d0_245 (v := (1 : Int32)) rfl ?_
          refine g_laload cx d0_246 A_b11.1 ⟨by decide, by decide⟩ (v := (.long w1)) rfl ?_
          refine g_lif_eq cx d0_247 d0_248 (fun hc248 => ?_) (fun hc248 => ?_)
          · have hm : w3 ∈ own_ls f z.toNatClampNeg := (hM _).mpr (by simp [hc248])
            have hl := hin hm
            have hd2 : (dd).toInt = ((own_ls f4089 z.toNatClampNeg).length : Int) := by rw [hl]; exact hd
            exact J4 _ f4089 sz4090 _ OL O_b2 A_t A_b11 HQ1 HQ2 hsz2 hd2 (by omega) (fun x => (hM2 x).trans ((or_congr Iff.rfl (hM x)).trans List.mem_cons.symm)) hc214
          · refine g_aload cx d0_251 rfl rfl ?_
            refine g_iconst cx d0_253 (v := (3 : Int32)) rfl ?_
            refine g_laload cx d0_254 A_b11.1 ⟨by decide, by decide⟩ (v := (.long w3)) rfl ?_
            refine g_aload cx d0_255 rfl rfl ?_
            refine g_iconst cx d0_257 (v := (2 : Int32)) rfl ?_
            refine g_laload cx d0_258 A_b11.1 ⟨by decide, by decide⟩ (v := (.long w2)) rfl ?_
            refine g_lif_eq cx d0_259 d0_260 (fun hc260 => ?_) (fun hc260 => ?_)
            · have hm : w3 ∈ own_ls f z.toNatClampNeg := (hM _).mpr (by simp [hc260])
              have hl := hin hm
              have hd2 : (dd).toInt = ((own_ls f4089 z.toNatClampNeg).length : Int) := by rw [hl]; exact hd
              exact J4 _ f4089 sz4090 _ OL O_b2 A_t A_b11 HQ1 HQ2 hsz2 hd2 (by omega) (fun x => (hM2 x).trans ((or_congr Iff.rfl (hM x)).trans List.mem_cons.symm)) hc214
            · refine g_iinc cx d0_263 rfl (v := (1 : Int32)) rfl (Ls' := #[.val (.int ie), .val (.int ifl), .val (.long ja), .second, .val (.long jb), .second, .val (.long jc), .second, .val (.long jd), .second, .val (.ref b2), .val (.int ((ifl &&& (2147483647 : Int32)) % (5 : Int32))), .val (.ref b11), .val (.int (dd + (1 : Int32))), .unset, .unset]) rfl ?_
              have hm : w3 ∉ own_ls f z.toNatClampNeg := fun q => by have := (hM _).mp q; simp [hc236, hc248, hc260] at this
              have hl := hnin hm
              have hd2 : ((dd + (1 : Int32))).toInt = ((own_ls f4089 z.toNatClampNeg).length : Int) := by rw [hl]; exact own_ju hd (Nat.lt_of_le_of_lt hle (by decide))
              exact J4 _ f4089 sz4090 _ OL O_b2 A_t A_b11 HQ1 HQ2 hsz2 hd2 (by omega) (fun x => (hM2 x).trans ((or_congr Iff.rfl (hM x)).trans List.mem_cons.symm)) hc214
    have J2 : ∀ (h : Heap) (f : Nat → Int64) (sz dd : Int32), Old Z Z.heap.size h → ObS Z h b2 (.ref t) (.int sz) → Arx Z h t cT .long z (own_lr z.toNatClampNeg f) (.long 0) "[J" → Arx Z h b11 cA12 .long (4 : Int32) [(.long w0), (.long w1), (.long w2), (.long w3)] (.long (0 : Int64)) "[J" → own_pr z.toNatClampNeg (own_hn z) f → own_ij z.toNatClampNeg f → sz.toInt = ((own_ls f z.toNatClampNeg).length : Int) → dd.toInt = ((own_ls f z.toNatClampNeg).length : Int) → (own_ls f z.toNatClampNeg).length ≤ 2 → (∀ x, x ∈ own_ls f z.toNatClampNeg ↔ x ∈ ([w1, w0] : List Int64)) → ((1 : Int32)) < ((ifl &&& (2147483647 : Int32)) % (5 : Int32)) → G p l e room_1 s m #[.int ie, .int ifl, .long ja, .long jb, .long jc, .long jd] below meth c Z.heap.size (fun v _ => v = some (.int 1)) h 3 134 168 #[.val (.int ie), .val (.int ifl), .val (.long ja), .second, .val (.long jb), .second, .val (.long jc), .second, .val (.long jd), .second, .val (.ref b2), .val (.int ((ifl &&& (2147483647 : Int32)) % (5 : Int32))), .val (.ref b11), .val (.int dd), .unset, .unset] [] := by
      intro h f sz dd OL O_b2 A_t A_b11 HP1 HP2 hsz hd hle hM hnk
      refine g_iload cx d0_168 rfl ?_
      refine g_iconst cx d0_170 (v := (2 : Int32)) rfl ?_
      refine g_icmp_le cx d0_171 (fun hc171 => ?_) (fun hc171 => ?_)
      · refine g_iload cx d0_211 rfl ?_
        refine g_iconst cx d0_213 (v := (3 : Int32)) rfl ?_
        refine g_icmp_le cx d0_214 (fun hc214 => ?_) (fun q => absurd q (fun q => by have i_hnk : ((1 : Int32)).toInt < (((ifl &&& (2147483647 : Int32)) % (5 : Int32))).toInt := Int32.lt_iff_toInt_lt.mp hnk; have i_hc171 : ¬ ((2 : Int32)).toInt < (((ifl &&& (2147483647 : Int32)) % (5 : Int32))).toInt := fun z => hc171 (Int32.lt_iff_toInt_lt.mpr z); have i_q : ((3 : Int32)).toInt < (((ifl &&& (2147483647 : Int32)) % (5 : Int32))).toInt := Int32.lt_iff_toInt_lt.mp q; have e1 : (1 : Int32).toInt = 1 := rfl; have r4 := rng32 ifl; have e3 : ((ifl &&& (2147483647 : Int32))).toInt = (ifl).toInt % 2147483648 := c_mask ifl (2147483647 : Int32) 31 (by decide) (by decide); have e2 : (0 ≤ ((ifl &&& (2147483647 : Int32))).toInt → (((ifl &&& (2147483647 : Int32)) % (5 : Int32))).toInt = ((ifl &&& (2147483647 : Int32))).toInt % 5) ∧ (((ifl &&& (2147483647 : Int32))).toInt < 0 → (((ifl &&& (2147483647 : Int32)) % (5 : Int32))).toInt = -((-((ifl &&& (2147483647 : Int32))).toInt) % 5)) := c_irem (ifl &&& (2147483647 : Int32)) (5 : Int32) 5 rfl; have e5 : (2 : Int32).toInt = 2 := rfl; have e6 : (3 : Int32).toInt = 3 := rfl; omega))
        have Dhs3001 : ((ifl &&& (2147483647 : Int32)) % (5 : Int32)) = (2 : Int32) := by
          have i_hnk : ((1 : Int32)).toInt < (((ifl &&& (2147483647 : Int32)) % (5 : Int32))).toInt := Int32.lt_iff_toInt_lt.mp hnk
          have i_hc171 : ¬ ((2 : Int32)).toInt < (((ifl &&& (2147483647 : Int32)) % (5 : Int32))).toInt := fun z => hc171 (Int32.lt_iff_toInt_lt.mpr z)
          have i_hc214 : ¬ ((3 : Int32)).toInt < (((ifl &&& (2147483647 : Int32)) % (5 : Int32))).toInt := fun z => hc214 (Int32.lt_iff_toInt_lt.mpr z)
          have r3 := rng32 ifl
          have e2 : ((ifl &&& (2147483647 : Int32))).toInt = (ifl).toInt % 2147483648 := c_mask ifl (2147483647 : Int32) 31 (by decide) (by decide)
          have e1 : (0 ≤ ((ifl &&& (2147483647 : Int32))).toInt → (((ifl &&& (2147483647 : Int32)) % (5 : Int32))).toInt = ((ifl &&& (2147483647 : Int32))).toInt % 5) ∧ (((ifl &&& (2147483647 : Int32))).toInt < 0 → (((ifl &&& (2147483647 : Int32)) % (5 : Int32))).toInt = -((-((ifl &&& (2147483647 : Int32))).toInt) % 5)) := c_irem (ifl &&& (2147483647 : Int32)) (5 : Int32) 5 rfl
          have e4 : (2 : Int32).toInt = 2 := rfl
          have e5 : (1 : Int32).toInt = 1 := rfl
          have e6 : (3 : Int32).toInt = 3 := rfl
          simp only [← Int32.toInt_inj]
          omega
        have hs3001 := Dhs3001
        rw [hs3001]
        refine g_aload cx d0_266 rfl rfl ?_
        refine g_virtual cx (y := (⟨"com/example/gridsmith/gridsmith/LongSet", "toArray", "()[J"⟩ : MethodName)) (z := (⟨"com/example/gridsmith/gridsmith/LongSet", "toArray", "()[J"⟩ : MethodName)) (a := b2) d0_268 (hw _ (List.mem_of_getElem? (i := 49) rfl)) (hw _ (List.mem_of_getElem? (i := 50) rfl)) (hw _ (List.mem_of_getElem? (i := 2) rfl)) (hw _ (List.mem_of_getElem? (i := 53) rfl)) (hw _ (List.mem_of_getElem? (i := 52) rfl)) (hw _ (List.mem_of_getElem? (i := 51) rfl)) rfl (by decide) O_b2.1 (bytes := prog_22_method_7_code) (maxL' := 8) (M := (rmta l Z a0 hw (own_ls f z.toNatClampNeg).length b2 t z hz f cT sz _ O_b2 A_t hsz rfl (Nat.le_trans hle (by decide)) ne_b2_t OL)) rfl (lenOf pd_6 rfl) (by decide) (W := 0) (Nat.le_of_eq rfl) (by decide) (k' := 4) (n' := 138) rfl rfl (by decide) (by decide) (argsL := []) (rest := []) rfl (fun v3006 h3005 q3007 => ?_)
        obtain ⟨o3002, cO3003, rfl, K3004, st_o3002, A_o3002⟩ := q3007
        have g_o3002 : Z.heap.size ≤ o3002 := Nat.le_trans OL.2.1 st_o3002
        have ne_b2_o3002 : b2 ≠ o3002 := Nat.ne_of_lt (Nat.lt_of_lt_of_le O_b2.lt st_o3002)
        have ne_t_o3002 : t ≠ o3002 := Nat.ne_of_lt (Nat.lt_of_lt_of_le A_t.lt st_o3002)
        have ne_b11_o3002 : b11 ≠ o3002 := Nat.ne_of_lt (Nat.lt_of_lt_of_le A_b11.lt st_o3002)
        have O_b2 := O_b2.keep K3004 nin0
        have A_t := A_t.keep K3004 nin0
        have A_b11 := A_b11.keep K3004 nin0
        have OL := OL.keep K3004 all0
        refine G.cast (st' := [(.ref o3002)]) ?_ rfl
        have hnd := own_nodup z.toNatClampNeg HP2
        rcases own_shape (Nat.le_trans hle (by decide : 2 ≤ 4)) with hA | ⟨u0, hA⟩ | ⟨u0, u1, hA⟩ | ⟨u0, u1, u2, hA⟩ | ⟨u0, u1, u2, u3, hA⟩
        · exact absurd ((hM w0).mpr (by simp)) (by rw [hA]; simp)
        · have szq : sz = (1 : Int32) := Int32.toInt_inj.mp (by rw [hsz, hA]; rfl)
          subst szq
          have ddq : dd = (1 : Int32) := Int32.toInt_inj.mp (by rw [hd, hA]; rfl)
          subst ddq
          have hMA : ∀ x, x ∈ ([u0] : List Int64) ↔ x ∈ ([w1, w0] : List Int64) := fun x => own_rwM hA (hM x)
          have hND : ([u0] : List Int64).Nodup := own_rwN hA hnd
          rw [hA] at A_o3002
          simp only [List.map_cons, List.map_nil] at A_o3002
          refine g_astore cx d0_271 rfl (Ls' := #[.val (.int ie), .val (.int ifl), .val (.long ja), .second, .val (.long jb), .second, .val (.long jc), .second, .val (.long jd), .second, .val (.ref b2), .val (.int (2 : Int32)), .val (.ref b11), .val (.int (1 : Int32)), .val (.ref o3002), .unset]) rfl ?_
          refine g_aload cx d0_273 rfl rfl ?_
          refine g_arraylength cx d0_275 A_o3002.1 ?_
          refine g_iload cx d0_276 rfl ?_
          refine g_icmp_eq cx d0_278 (fun hc278 => ?_) (fun q => absurd q (fun q => by revert q; decide))
          refine g_aload cx d0_283 rfl rfl ?_
          refine g_arraylength cx d0_285 A_o3002.1 ?_
          refine g_aload cx d0_286 rfl rfl ?_
          refine g_virtual cx (y := (⟨"com/example/gridsmith/gridsmith/LongSet", "size", "()I"⟩ : MethodName)) (z := (⟨"com/example/gridsmith/gridsmith/LongSet", "size", "()I"⟩ : MethodName)) (a := b2) d0_288 (hw _ (List.mem_of_getElem? (i := 54) rfl)) (hw _ (List.mem_of_getElem? (i := 55) rfl)) (hw _ (List.mem_of_getElem? (i := 2) rfl)) (hw _ (List.mem_of_getElem? (i := 58) rfl)) (hw _ (List.mem_of_getElem? (i := 57) rfl)) (hw _ (List.mem_of_getElem? (i := 56) rfl)) rfl (by decide) O_b2.1 (bytes := prog_22_method_5_code) (maxL' := 1) (M := (rmsg l Z a0 hw b2 t (1 : Int32) _ O_b2)) rfl (lenOf pd_7 rfl) (by decide) (W := 1) (Nat.le_of_eq rfl) (by decide) (k' := 4) (n' := 138) rfl rfl (by decide) (by decide) (argsL := []) (rest := [(.int (1 : Int32))]) rfl (fun v3009 h3008 q3010 => ?_)
          obtain ⟨rfl, rfl⟩ := q3010
          refine G.cast (st' := [(.int (1 : Int32)), (.int (1 : Int32))]) ?_ rfl
          refine g_icmp_eq cx d0_291 (fun hc291 => ?_) (fun q => absurd q (fun q => by revert q; decide))
          refine g_iload cx d0_296 rfl ?_
          refine g_if_le cx d0_298 (fun q => absurd q (fun q => by revert q; decide)) (fun hc298 => ?_)
          refine g_aload cx d0_301 rfl rfl ?_
          refine g_aload cx d0_303 rfl rfl ?_
          refine g_iconst cx d0_305 (v := (0 : Int32)) rfl ?_
          refine g_laload cx d0_306 A_b11.1 ⟨by decide, by decide⟩ (v := (.long w0)) rfl ?_
          refine g_static cx (y := (⟨"com/example/gridsmith/gridsmith/LongSetToArrayPinLaw", "has", "([JJ)Z"⟩ : MethodName)) d0_307 (hw _ (List.mem_of_getElem? (i := 59) rfl)) (hw _ (List.mem_of_getElem? (i := 60) rfl)) (hw _ (List.mem_of_getElem? (i := 61) rfl)) (hw _ (List.mem_of_getElem? (i := 62) rfl)) (by decide) (bytes := method_3_code) (maxL' := 3) (M := (rmhas1 l Z a0 hw o3002 cO3003 u0 w0 _ A_o3002)) rfl (lenOf pd_8 rfl) (by decide) (W := 0) (Nat.le_of_eq rfl) (by decide) (k' := 4) (n' := 138) rfl rfl (by decide) (by decide) (argsL := [(.ref o3002), (.long w0)]) (rest := []) rfl (fun v3012 h3011 q3013 => ?_)
          obtain ⟨rfl, rfl⟩ := q3013
          refine G.cast (st' := [(.int (own_mem [u0] w0))]) ?_ rfl
          refine g_if_ne cx d0_310 (fun hc310 => ?_) (fun q => absurd q (fun q => own_memF ((hMA _).mpr (by simp)) q))
          refine g_iload cx d0_315 rfl ?_
          refine g_iconst cx d0_317 (v := (1 : Int32)) rfl ?_
          refine g_icmp_le cx d0_318 (fun q => absurd q (fun q => by revert q; decide)) (fun hc318 => ?_)
          refine g_aload cx d0_321 rfl rfl ?_
          refine g_aload cx d0_323 rfl rfl ?_
          refine g_iconst cx d0_325 (v := (1 : Int32)) rfl ?_
          refine g_laload cx d0_326 A_b11.1 ⟨by decide, by decide⟩ (v := (.long w1)) rfl ?_
          refine g_static cx (y := (⟨"com/example/gridsmith/gridsmith/LongSetToArrayPinLaw", "has", "([JJ)Z"⟩ : MethodName)) d0_327 (hw _ (List.mem_of_getElem? (i := 59) rfl)) (hw _ (List.mem_of_getElem? (i := 60) rfl)) (hw _ (List.mem_of_getElem? (i := 61) rfl)) (hw _ (List.mem_of_getElem? (i := 62) rfl)) (by decide) (bytes := method_3_code) (maxL' := 3) (M := (rmhas1 l Z a0 hw o3002 cO3003 u0 w1 _ A_o3002)) rfl (lenOf pd_8 rfl) (by decide) (W := 0) (Nat.le_of_eq rfl) (by decide) (k' := 4) (n' := 138) rfl rfl (by decide) (by decide) (argsL := [(.ref o3002), (.long w1)]) (rest := []) rfl (fun v3015 h3014 q3016 => ?_)
          obtain ⟨rfl, rfl⟩ := q3016
          refine G.cast (st' := [(.int (own_mem [u0] w1))]) ?_ rfl
          refine g_if_ne cx d0_330 (fun hc330 => ?_) (fun q => absurd q (fun q => own_memF ((hMA _).mpr (by simp)) q))
          refine g_iload cx d0_335 rfl ?_
          refine g_iconst cx d0_337 (v := (2 : Int32)) rfl ?_
          refine g_icmp_le cx d0_338 (fun hc338 => ?_) (fun q => absurd q (fun q => by revert q; decide))
          refine g_iload cx d0_355 rfl ?_
          refine g_iconst cx d0_357 (v := (3 : Int32)) rfl ?_
          refine g_icmp_le cx d0_358 (fun hc358 => ?_) (fun q => absurd q (fun q => by revert q; decide))
          refine g_aload cx d0_375 rfl rfl ?_
          refine g_arraylength cx d0_377 A_o3002.1 ?_
          refine g_if_le cx d0_378 (fun q => absurd q (fun q => by revert q; decide)) (fun hc378 => ?_)
          refine g_aload cx d0_381 rfl rfl ?_
          refine g_iload cx d0_383 rfl ?_
          refine g_aload cx d0_385 rfl rfl ?_
          refine g_iconst cx d0_387 (v := (0 : Int32)) rfl ?_
          refine g_laload cx d0_388 A_o3002.1 ⟨by decide, by decide⟩ (v := (.long u0)) rfl ?_
          refine g_static cx (y := (⟨"com/example/gridsmith/gridsmith/LongSetToArrayPinLaw", "among", "([JIJ)Z"⟩ : MethodName)) d0_389 (hw _ (List.mem_of_getElem? (i := 63) rfl)) (hw _ (List.mem_of_getElem? (i := 64) rfl)) (hw _ (List.mem_of_getElem? (i := 61) rfl)) (hw _ (List.mem_of_getElem? (i := 65) rfl)) (by decide) (bytes := method_4_code) (maxL' := 4) (M := (rmamg2 l Z a0 hw b11 cA12 w0 w1 w2 w3 u0 _ A_b11)) rfl (lenOf pd_9 rfl) (by decide) (W := 0) (Nat.le_of_eq rfl) (by decide) (k' := 4) (n' := 138) rfl rfl (by decide) (by decide) (argsL := [(.ref b11), (.int (2 : Int32)), (.long u0)]) (rest := []) rfl (fun v3018 h3017 q3019 => ?_)
          obtain ⟨rfl, rfl⟩ := q3019
          refine G.cast (st' := [(.int (own_mem [w1, w0] u0))]) ?_ rfl
          refine g_if_ne cx d0_392 (fun hc392 => ?_) (fun q => absurd q (fun q => own_memF ((hMA _).mp (by simp)) q))
          refine g_aload cx d0_397 rfl rfl ?_
          refine g_arraylength cx d0_399 A_o3002.1 ?_
          refine g_iconst cx d0_400 (v := (1 : Int32)) rfl ?_
          refine g_icmp_le cx d0_401 (fun hc401 => ?_) (fun q => absurd q (fun q => by revert q; decide))
          refine g_aload cx d0_420 rfl rfl ?_
          refine g_arraylength cx d0_422 A_o3002.1 ?_
          refine g_iconst cx d0_423 (v := (2 : Int32)) rfl ?_
          refine g_icmp_le cx d0_424 (fun hc424 => ?_) (fun q => absurd q (fun q => by revert q; decide))
          refine g_aload cx d0_443 rfl rfl ?_
          refine g_arraylength cx d0_445 A_o3002.1 ?_
          refine g_iconst cx d0_446 (v := (3 : Int32)) rfl ?_
          refine g_icmp_le cx d0_447 (fun hc447 => ?_) (fun q => absurd q (fun q => by revert q; decide))
          refine g_aload cx d0_466 rfl rfl ?_
          refine g_static cx (y := (⟨"com/example/gridsmith/gridsmith/LongSetToArrayPinLaw", "allDistinct", "([J)Z"⟩ : MethodName)) d0_468 (hw _ (List.mem_of_getElem? (i := 66) rfl)) (hw _ (List.mem_of_getElem? (i := 67) rfl)) (hw _ (List.mem_of_getElem? (i := 61) rfl)) (hw _ (List.mem_of_getElem? (i := 68) rfl)) (by decide) (bytes := method_5_code) (maxL' := 2) (M := (rmdis1 l Z a0 hw o3002 cO3003 u0 _ A_o3002)) rfl (lenOf pd_10 rfl) (by decide) (W := 0) (Nat.le_of_eq rfl) (by decide) (k' := 4) (n' := 138) rfl rfl (by decide) (by decide) (argsL := [(.ref o3002)]) (rest := []) rfl (fun v3021 h3020 q3022 => ?_)
          obtain ⟨rfl, rfl⟩ := q3022
          refine G.cast (st' := [(.int (own_nd [u0]))]) ?_ rfl
          refine g_if_ne cx d0_471 (fun hc471 => ?_) (fun q => absurd q (fun q => own_ndF hND q))
          refine g_aload cx d0_476 rfl rfl ?_
          refine g_virtual cx (y := (⟨"com/example/gridsmith/gridsmith/LongSet", "toArray", "()[J"⟩ : MethodName)) (z := (⟨"com/example/gridsmith/gridsmith/LongSet", "toArray", "()[J"⟩ : MethodName)) (a := b2) d0_478 (hw _ (List.mem_of_getElem? (i := 49) rfl)) (hw _ (List.mem_of_getElem? (i := 50) rfl)) (hw _ (List.mem_of_getElem? (i := 2) rfl)) (hw _ (List.mem_of_getElem? (i := 53) rfl)) (hw _ (List.mem_of_getElem? (i := 52) rfl)) (hw _ (List.mem_of_getElem? (i := 51) rfl)) rfl (by decide) O_b2.1 (bytes := prog_22_method_7_code) (maxL' := 8) (M := (rmta l Z a0 hw (own_ls f z.toNatClampNeg).length b2 t z hz f cT (1 : Int32) _ O_b2 A_t hsz rfl (Nat.le_trans hle (by decide)) ne_b2_t OL)) rfl (lenOf pd_6 rfl) (by decide) (W := 0) (Nat.le_of_eq rfl) (by decide) (k' := 5) (n' := 142) rfl rfl (by decide) (by decide) (argsL := []) (rest := []) rfl (fun v3027 h3026 q3028 => ?_)
          obtain ⟨o3023, cO3024, rfl, K3025, st_o3023, A_o3023⟩ := q3028
          have g_o3023 : Z.heap.size ≤ o3023 := Nat.le_trans OL.2.1 st_o3023
          have ne_b2_o3023 : b2 ≠ o3023 := Nat.ne_of_lt (Nat.lt_of_lt_of_le O_b2.lt st_o3023)
          have ne_t_o3023 : t ≠ o3023 := Nat.ne_of_lt (Nat.lt_of_lt_of_le A_t.lt st_o3023)
          have ne_b11_o3023 : b11 ≠ o3023 := Nat.ne_of_lt (Nat.lt_of_lt_of_le A_b11.lt st_o3023)
          have ne_o3002_o3023 : o3002 ≠ o3023 := Nat.ne_of_lt (Nat.lt_of_lt_of_le A_o3002.lt st_o3023)
          have O_b2 := O_b2.keep K3025 nin0
          have A_t := A_t.keep K3025 nin0
          have A_b11 := A_b11.keep K3025 nin0
          have A_o3002 := A_o3002.keep K3025 nin0
          have OL := OL.keep K3025 all0
          refine G.cast (st' := [(.ref o3023)]) ?_ rfl
          refine g_astore cx d0_481 rfl (Ls' := #[.val (.int ie), .val (.int ifl), .val (.long ja), .second, .val (.long jb), .second, .val (.long jc), .second, .val (.long jd), .second, .val (.ref b2), .val (.int (2 : Int32)), .val (.ref b11), .val (.int (1 : Int32)), .val (.ref o3002), .val (.ref o3023)]) rfl ?_
          refine g_aload cx d0_483 rfl rfl ?_
          refine g_aload cx d0_485 rfl rfl ?_
          refine g_acmp_eq cx rfl rfl d0_487 (fun q => absurd q (fun q => ne_o3002_o3023.symm (by cases q; rfl))) (fun hc487 => ?_)
          refine g_aload cx d0_490 rfl rfl ?_
          refine g_arraylength cx d0_492 A_o3023.1 ?_
          refine g_aload cx d0_493 rfl rfl ?_
          refine g_arraylength cx d0_495 A_o3002.1 ?_
          refine g_icmp_ne cx d0_496 (fun q => absurd q (fun q => by revert q; decide)) (fun hc496 => ?_)
          refine g_iconst cx d0_499 (v := (1 : Int32)) rfl ?_
          refine g_goto cx d0_500 ?_
          refine g_retZ cx d0_504 rfl rfl (by decide) (by decide) ?_
          rfl
        · have szq : sz = (2 : Int32) := Int32.toInt_inj.mp (by rw [hsz, hA]; rfl)
          subst szq
          have ddq : dd = (2 : Int32) := Int32.toInt_inj.mp (by rw [hd, hA]; rfl)
          subst ddq
          have hMA : ∀ x, x ∈ ([u0, u1] : List Int64) ↔ x ∈ ([w1, w0] : List Int64) := fun x => own_rwM hA (hM x)
          have hND : ([u0, u1] : List Int64).Nodup := own_rwN hA hnd
          rw [hA] at A_o3002
          simp only [List.map_cons, List.map_nil] at A_o3002
          refine g_astore cx d0_271 rfl (Ls' := #[.val (.int ie), .val (.int ifl), .val (.long ja), .second, .val (.long jb), .second, .val (.long jc), .second, .val (.long jd), .second, .val (.ref b2), .val (.int (2 : Int32)), .val (.ref b11), .val (.int (2 : Int32)), .val (.ref o3002), .unset]) rfl ?_
          refine g_aload cx d0_273 rfl rfl ?_
          refine g_arraylength cx d0_275 A_o3002.1 ?_
          refine g_iload cx d0_276 rfl ?_
          refine g_icmp_eq cx d0_278 (fun hc278 => ?_) (fun q => absurd q (fun q => by revert q; decide))
          refine g_aload cx d0_283 rfl rfl ?_
          refine g_arraylength cx d0_285 A_o3002.1 ?_
          refine g_aload cx d0_286 rfl rfl ?_
          refine g_virtual cx (y := (⟨"com/example/gridsmith/gridsmith/LongSet", "size", "()I"⟩ : MethodName)) (z := (⟨"com/example/gridsmith/gridsmith/LongSet", "size", "()I"⟩ : MethodName)) (a := b2) d0_288 (hw _ (List.mem_of_getElem? (i := 54) rfl)) (hw _ (List.mem_of_getElem? (i := 55) rfl)) (hw _ (List.mem_of_getElem? (i := 2) rfl)) (hw _ (List.mem_of_getElem? (i := 58) rfl)) (hw _ (List.mem_of_getElem? (i := 57) rfl)) (hw _ (List.mem_of_getElem? (i := 56) rfl)) rfl (by decide) O_b2.1 (bytes := prog_22_method_5_code) (maxL' := 1) (M := (rmsg l Z a0 hw b2 t (2 : Int32) _ O_b2)) rfl (lenOf pd_7 rfl) (by decide) (W := 1) (Nat.le_of_eq rfl) (by decide) (k' := 4) (n' := 138) rfl rfl (by decide) (by decide) (argsL := []) (rest := [(.int (2 : Int32))]) rfl (fun v3030 h3029 q3031 => ?_)
          obtain ⟨rfl, rfl⟩ := q3031
          refine G.cast (st' := [(.int (2 : Int32)), (.int (2 : Int32))]) ?_ rfl
          refine g_icmp_eq cx d0_291 (fun hc291 => ?_) (fun q => absurd q (fun q => by revert q; decide))
          refine g_iload cx d0_296 rfl ?_
          refine g_if_le cx d0_298 (fun q => absurd q (fun q => by revert q; decide)) (fun hc298 => ?_)
          refine g_aload cx d0_301 rfl rfl ?_
          refine g_aload cx d0_303 rfl rfl ?_
          refine g_iconst cx d0_305 (v := (0 : Int32)) rfl ?_
          refine g_laload cx d0_306 A_b11.1 ⟨by decide, by decide⟩ (v := (.long w0)) rfl ?_
          refine g_static cx (y := (⟨"com/example/gridsmith/gridsmith/LongSetToArrayPinLaw", "has", "([JJ)Z"⟩ : MethodName)) d0_307 (hw _ (List.mem_of_getElem? (i := 59) rfl)) (hw _ (List.mem_of_getElem? (i := 60) rfl)) (hw _ (List.mem_of_getElem? (i := 61) rfl)) (hw _ (List.mem_of_getElem? (i := 62) rfl)) (by decide) (bytes := method_3_code) (maxL' := 3) (M := (rmhas2 l Z a0 hw o3002 cO3003 u0 u1 w0 _ A_o3002)) rfl (lenOf pd_8 rfl) (by decide) (W := 0) (Nat.le_of_eq rfl) (by decide) (k' := 4) (n' := 138) rfl rfl (by decide) (by decide) (argsL := [(.ref o3002), (.long w0)]) (rest := []) rfl (fun v3033 h3032 q3034 => ?_)
          obtain ⟨rfl, rfl⟩ := q3034
          refine G.cast (st' := [(.int (own_mem [u0, u1] w0))]) ?_ rfl
          refine g_if_ne cx d0_310 (fun hc310 => ?_) (fun q => absurd q (fun q => own_memF ((hMA _).mpr (by simp)) q))
          refine g_iload cx d0_315 rfl ?_
          refine g_iconst cx d0_317 (v := (1 : Int32)) rfl ?_
          refine g_icmp_le cx d0_318 (fun q => absurd q (fun q => by revert q; decide)) (fun hc318 => ?_)
          refine g_aload cx d0_321 rfl rfl ?_
          refine g_aload cx d0_323 rfl rfl ?_
          refine g_iconst cx d0_325 (v := (1 : Int32)) rfl ?_
          refine g_laload cx d0_326 A_b11.1 ⟨by decide, by decide⟩ (v := (.long w1)) rfl ?_
          refine g_static cx (y := (⟨"com/example/gridsmith/gridsmith/LongSetToArrayPinLaw", "has", "([JJ)Z"⟩ : MethodName)) d0_327 (hw _ (List.mem_of_getElem? (i := 59) rfl)) (hw _ (List.mem_of_getElem? (i := 60) rfl)) (hw _ (List.mem_of_getElem? (i := 61) rfl)) (hw _ (List.mem_of_getElem? (i := 62) rfl)) (by decide) (bytes := method_3_code) (maxL' := 3) (M := (rmhas2 l Z a0 hw o3002 cO3003 u0 u1 w1 _ A_o3002)) rfl (lenOf pd_8 rfl) (by decide) (W := 0) (Nat.le_of_eq rfl) (by decide) (k' := 4) (n' := 138) rfl rfl (by decide) (by decide) (argsL := [(.ref o3002), (.long w1)]) (rest := []) rfl (fun v3036 h3035 q3037 => ?_)
          obtain ⟨rfl, rfl⟩ := q3037
          refine G.cast (st' := [(.int (own_mem [u0, u1] w1))]) ?_ rfl
          refine g_if_ne cx d0_330 (fun hc330 => ?_) (fun q => absurd q (fun q => own_memF ((hMA _).mpr (by simp)) q))
          refine g_iload cx d0_335 rfl ?_
          refine g_iconst cx d0_337 (v := (2 : Int32)) rfl ?_
          refine g_icmp_le cx d0_338 (fun hc338 => ?_) (fun q => absurd q (fun q => by revert q; decide))
          refine g_iload cx d0_355 rfl ?_
          refine g_iconst cx d0_357 (v := (3 : Int32)) rfl ?_
          refine g_icmp_le cx d0_358 (fun hc358 => ?_) (fun q => absurd q (fun q => by revert q; decide))
          refine g_aload cx d0_375 rfl rfl ?_
          refine g_arraylength cx d0_377 A_o3002.1 ?_
          refine g_if_le cx d0_378 (fun q => absurd q (fun q => by revert q; decide)) (fun hc378 => ?_)
          refine g_aload cx d0_381 rfl rfl ?_
          refine g_iload cx d0_383 rfl ?_
          refine g_aload cx d0_385 rfl rfl ?_
          refine g_iconst cx d0_387 (v := (0 : Int32)) rfl ?_
          refine g_laload cx d0_388 A_o3002.1 ⟨by decide, by decide⟩ (v := (.long u0)) rfl ?_
          refine g_static cx (y := (⟨"com/example/gridsmith/gridsmith/LongSetToArrayPinLaw", "among", "([JIJ)Z"⟩ : MethodName)) d0_389 (hw _ (List.mem_of_getElem? (i := 63) rfl)) (hw _ (List.mem_of_getElem? (i := 64) rfl)) (hw _ (List.mem_of_getElem? (i := 61) rfl)) (hw _ (List.mem_of_getElem? (i := 65) rfl)) (by decide) (bytes := method_4_code) (maxL' := 4) (M := (rmamg2 l Z a0 hw b11 cA12 w0 w1 w2 w3 u0 _ A_b11)) rfl (lenOf pd_9 rfl) (by decide) (W := 0) (Nat.le_of_eq rfl) (by decide) (k' := 4) (n' := 138) rfl rfl (by decide) (by decide) (argsL := [(.ref b11), (.int (2 : Int32)), (.long u0)]) (rest := []) rfl (fun v3039 h3038 q3040 => ?_)
          obtain ⟨rfl, rfl⟩ := q3040
          refine G.cast (st' := [(.int (own_mem [w1, w0] u0))]) ?_ rfl
          refine g_if_ne cx d0_392 (fun hc392 => ?_) (fun q => absurd q (fun q => own_memF ((hMA _).mp (by simp)) q))
          refine g_aload cx d0_397 rfl rfl ?_
          refine g_arraylength cx d0_399 A_o3002.1 ?_
          refine g_iconst cx d0_400 (v := (1 : Int32)) rfl ?_
          refine g_icmp_le cx d0_401 (fun q => absurd q (fun q => by revert q; decide)) (fun hc401 => ?_)
          refine g_aload cx d0_404 rfl rfl ?_
          refine g_iload cx d0_406 rfl ?_
          refine g_aload cx d0_408 rfl rfl ?_
          refine g_iconst cx d0_410 (v := (1 : Int32)) rfl ?_
          refine g_laload cx d0_411 A_o3002.1 ⟨by decide, by decide⟩ (v := (.long u1)) rfl ?_
          refine g_static cx (y := (⟨"com/example/gridsmith/gridsmith/LongSetToArrayPinLaw", "among", "([JIJ)Z"⟩ : MethodName)) d0_412 (hw _ (List.mem_of_getElem? (i := 63) rfl)) (hw _ (List.mem_of_getElem? (i := 64) rfl)) (hw _ (List.mem_of_getElem? (i := 61) rfl)) (hw _ (List.mem_of_getElem? (i := 65) rfl)) (by decide) (bytes := method_4_code) (maxL' := 4) (M := (rmamg2 l Z a0 hw b11 cA12 w0 w1 w2 w3 u1 _ A_b11)) rfl (lenOf pd_9 rfl) (by decide) (W := 0) (Nat.le_of_eq rfl) (by decide) (k' := 4) (n' := 138) rfl rfl (by decide) (by decide) (argsL := [(.ref b11), (.int (2 : Int32)), (.long u1)]) (rest := []) rfl (fun v3042 h3041 q3043 => ?_)
          obtain ⟨rfl, rfl⟩ := q3043
          refine G.cast (st' := [(.int (own_mem [w1, w0] u1))]) ?_ rfl
          refine g_if_ne cx d0_415 (fun hc415 => ?_) (fun q => absurd q (fun q => own_memF ((hMA _).mp (by simp)) q))
          refine g_aload cx d0_420 rfl rfl ?_
          refine g_arraylength cx d0_422 A_o3002.1 ?_
          refine g_iconst cx d0_423 (v := (2 : Int32)) rfl ?_
          refine g_icmp_le cx d0_424 (fun hc424 => ?_) (fun q => absurd q (fun q => by revert q; decide))
          refine g_aload cx d0_443 rfl rfl ?_
          refine g_arraylength cx d0_445 A_o3002.1 ?_
          refine g_iconst cx d0_446 (v := (3 : Int32)) rfl ?_
          refine g_icmp_le cx d0_447 (fun hc447 => ?_) (fun q => absurd q (fun q => by revert q; decide))
          refine g_aload cx d0_466 rfl rfl ?_
          refine g_static cx (y := (⟨"com/example/gridsmith/gridsmith/LongSetToArrayPinLaw", "allDistinct", "([J)Z"⟩ : MethodName)) d0_468 (hw _ (List.mem_of_getElem? (i := 66) rfl)) (hw _ (List.mem_of_getElem? (i := 67) rfl)) (hw _ (List.mem_of_getElem? (i := 61) rfl)) (hw _ (List.mem_of_getElem? (i := 68) rfl)) (by decide) (bytes := method_5_code) (maxL' := 2) (M := (rmdis2 l Z a0 hw o3002 cO3003 u0 u1 _ A_o3002)) rfl (lenOf pd_10 rfl) (by decide) (W := 0) (Nat.le_of_eq rfl) (by decide) (k' := 4) (n' := 138) rfl rfl (by decide) (by decide) (argsL := [(.ref o3002)]) (rest := []) rfl (fun v3045 h3044 q3046 => ?_)
          obtain ⟨rfl, rfl⟩ := q3046
          refine G.cast (st' := [(.int (own_nd [u0, u1]))]) ?_ rfl
          refine g_if_ne cx d0_471 (fun hc471 => ?_) (fun q => absurd q (fun q => own_ndF hND q))
          refine g_aload cx d0_476 rfl rfl ?_
          refine g_virtual cx (y := (⟨"com/example/gridsmith/gridsmith/LongSet", "toArray", "()[J"⟩ : MethodName)) (z := (⟨"com/example/gridsmith/gridsmith/LongSet", "toArray", "()[J"⟩ : MethodName)) (a := b2) d0_478 (hw _ (List.mem_of_getElem? (i := 49) rfl)) (hw _ (List.mem_of_getElem? (i := 50) rfl)) (hw _ (List.mem_of_getElem? (i := 2) rfl)) (hw _ (List.mem_of_getElem? (i := 53) rfl)) (hw _ (List.mem_of_getElem? (i := 52) rfl)) (hw _ (List.mem_of_getElem? (i := 51) rfl)) rfl (by decide) O_b2.1 (bytes := prog_22_method_7_code) (maxL' := 8) (M := (rmta l Z a0 hw (own_ls f z.toNatClampNeg).length b2 t z hz f cT (2 : Int32) _ O_b2 A_t hsz rfl (Nat.le_trans hle (by decide)) ne_b2_t OL)) rfl (lenOf pd_6 rfl) (by decide) (W := 0) (Nat.le_of_eq rfl) (by decide) (k' := 5) (n' := 142) rfl rfl (by decide) (by decide) (argsL := []) (rest := []) rfl (fun v3051 h3050 q3052 => ?_)
          obtain ⟨o3047, cO3048, rfl, K3049, st_o3047, A_o3047⟩ := q3052
          have g_o3047 : Z.heap.size ≤ o3047 := Nat.le_trans OL.2.1 st_o3047
          have ne_b2_o3047 : b2 ≠ o3047 := Nat.ne_of_lt (Nat.lt_of_lt_of_le O_b2.lt st_o3047)
          have ne_t_o3047 : t ≠ o3047 := Nat.ne_of_lt (Nat.lt_of_lt_of_le A_t.lt st_o3047)
          have ne_b11_o3047 : b11 ≠ o3047 := Nat.ne_of_lt (Nat.lt_of_lt_of_le A_b11.lt st_o3047)
          have ne_o3002_o3047 : o3002 ≠ o3047 := Nat.ne_of_lt (Nat.lt_of_lt_of_le A_o3002.lt st_o3047)
          have O_b2 := O_b2.keep K3049 nin0
          have A_t := A_t.keep K3049 nin0
          have A_b11 := A_b11.keep K3049 nin0
          have A_o3002 := A_o3002.keep K3049 nin0
          have OL := OL.keep K3049 all0
          refine G.cast (st' := [(.ref o3047)]) ?_ rfl
          refine g_astore cx d0_481 rfl (Ls' := #[.val (.int ie), .val (.int ifl), .val (.long ja), .second, .val (.long jb), .second, .val (.long jc), .second, .val (.long jd), .second, .val (.ref b2), .val (.int (2 : Int32)), .val (.ref b11), .val (.int (2 : Int32)), .val (.ref o3002), .val (.ref o3047)]) rfl ?_
          refine g_aload cx d0_483 rfl rfl ?_
          refine g_aload cx d0_485 rfl rfl ?_
          refine g_acmp_eq cx rfl rfl d0_487 (fun q => absurd q (fun q => ne_o3002_o3047.symm (by cases q; rfl))) (fun hc487 => ?_)
          refine g_aload cx d0_490 rfl rfl ?_
          refine g_arraylength cx d0_492 A_o3047.1 ?_
          refine g_aload cx d0_493 rfl rfl ?_
          refine g_arraylength cx d0_495 A_o3002.1 ?_
          refine g_icmp_ne cx d0_496 (fun q => absurd q (fun q => by revert q; decide)) (fun hc496 => ?_)
          refine g_iconst cx d0_499 (v := (1 : Int32)) rfl ?_
          refine g_goto cx d0_500 ?_
          refine g_retZ cx d0_504 rfl rfl (by decide) (by decide) ?_
          rfl
        · exact absurd hle (by rw [hA]; simp)
        · exact absurd hle (by rw [hA]; simp)
      · refine g_aload cx d0_174 rfl rfl ?_
        refine g_aload cx d0_176 rfl rfl ?_
        refine g_iconst cx d0_178 (v := (2 : Int32)) rfl ?_
        refine g_laload cx d0_179 A_b11.1 ⟨by decide, by decide⟩ (v := (.long w2)) rfl ?_
        refine g_virtual cx (y := (⟨"com/example/gridsmith/gridsmith/LongSet", "add", "(J)Z"⟩ : MethodName)) (z := (⟨"com/example/gridsmith/gridsmith/LongSet", "add", "(J)Z"⟩ : MethodName)) (a := b2) d0_180 (hw _ (List.mem_of_getElem? (i := 35) rfl)) (hw _ (List.mem_of_getElem? (i := 36) rfl)) (hw _ (List.mem_of_getElem? (i := 2) rfl)) (hw _ (List.mem_of_getElem? (i := 39) rfl)) (hw _ (List.mem_of_getElem? (i := 38) rfl)) (hw _ (List.mem_of_getElem? (i := 37) rfl)) rfl (by decide) O_b2.1 (bytes := prog_22_method_3_code) (maxL' := 4) (M := (rmad l Z a0 hw w2 y2 b2 t z hz f cT sz _ O_b2 A_t hsz (Nat.le_trans hle (by decide)) HP1 HP2 ne_b2_t g_b2 g_t OL)) rfl (lenOf pd_11 rfl) (by decide) (W := 0) (Nat.le_of_eq rfl) (by decide) (k' := 3) (n' := 134) rfl rfl (by decide) (by decide) (argsL := [(.long w2)]) (rest := []) rfl (fun v3057 h3056 q3058 => ?_)
        obtain ⟨ra, f3053, sz3054, rfl, K3055, O_b2, A_t, HQ1, HQ2, hsz2, hM2, hin, hnin⟩ := q3058
        have A_b11 := A_b11.keep K3055 (ninS (Ne.symm ne_b2_b11) (ninS (Ne.symm ne_t_b11) nin0))
        have OL := OL.keep K3055 (allS g_b2 (allS g_t all0))
        refine G.cast (st' := [(.int ra)]) ?_ rfl
        refine g_pop cx d0_183 rfl ?_
        refine g_aload cx d0_184 rfl rfl ?_
        refine g_iconst cx d0_186 (v := (2 : Int32)) rfl ?_
        refine g_laload cx d0_187 A_b11.1 ⟨by decide, by decide⟩ (v := (.long w2)) rfl ?_
        refine g_aload cx d0_188 rfl rfl ?_
        refine g_iconst cx d0_190 (v := (0 : Int32)) rfl ?_
        refine g_laload cx d0_191 A_b11.1 ⟨by decide, by decide⟩ (v := (.long w0)) rfl ?_
        refine g_lif_eq cx d0_192 d0_193 (fun hc193 => ?_) (fun hc193 => ?_)
        · have hm : w2 ∈ own_ls f z.toNatClampNeg := (hM _).mpr (by simp [hc193])
          have hl := hin hm
          have hd2 : (dd).toInt = ((own_ls f3053 z.toNatClampNeg).length : Int) := by rw [hl]; exact hd
          exact J3 _ f3053 sz3054 _ OL O_b2 A_t A_b11 HQ1 HQ2 hsz2 hd2 (by omega) (fun x => (hM2 x).trans ((or_congr Iff.rfl (hM x)).trans List.mem_cons.symm)) hc171
        · refine g_aload cx d0_196 rfl rfl ?_
          refine g_iconst cx d0_198 (v := (2 : Int32)) rfl ?_
          refine g_laload cx d0_199 A_b11.1 ⟨by decide, by decide⟩ (v := (.long w2)) rfl ?_
          refine g_aload cx d0_200 rfl rfl ?_
          refine g_iconst cx d0_202 (v := (1 : Int32)) rfl ?_
          refine g_laload cx d0_203 A_b11.1 ⟨by decide, by decide⟩ (v := (.long w1)) rfl ?_
          refine g_lif_eq cx d0_204 d0_205 (fun hc205 => ?_) (fun hc205 => ?_)
          · have hm : w2 ∈ own_ls f z.toNatClampNeg := (hM _).mpr (by simp [hc205])
            have hl := hin hm
            have hd2 : (dd).toInt = ((own_ls f3053 z.toNatClampNeg).length : Int) := by rw [hl]; exact hd
            exact J3 _ f3053 sz3054 _ OL O_b2 A_t A_b11 HQ1 HQ2 hsz2 hd2 (by omega) (fun x => (hM2 x).trans ((or_congr Iff.rfl (hM x)).trans List.mem_cons.symm)) hc171
          · refine g_iinc cx d0_208 rfl (v := (1 : Int32)) rfl (Ls' := #[.val (.int ie), .val (.int ifl), .val (.long ja), .second, .val (.long jb), .second, .val (.long jc), .second, .val (.long jd), .second, .val (.ref b2), .val (.int ((ifl &&& (2147483647 : Int32)) % (5 : Int32))), .val (.ref b11), .val (.int (dd + (1 : Int32))), .unset, .unset]) rfl ?_
            have hm : w2 ∉ own_ls f z.toNatClampNeg := fun q => by have := (hM _).mp q; simp [hc193, hc205] at this
            have hl := hnin hm
            have hd2 : ((dd + (1 : Int32))).toInt = ((own_ls f3053 z.toNatClampNeg).length : Int) := by rw [hl]; exact own_ju hd (Nat.lt_of_le_of_lt hle (by decide))
            exact J3 _ f3053 sz3054 _ OL O_b2 A_t A_b11 HQ1 HQ2 hsz2 hd2 (by omega) (fun x => (hM2 x).trans ((or_congr Iff.rfl (hM x)).trans List.mem_cons.symm)) hc171
    have J1 : ∀ (h : Heap) (f : Nat → Int64) (sz dd : Int32), Old Z Z.heap.size h → ObS Z h b2 (.ref t) (.int sz) → Arx Z h t cT .long z (own_lr z.toNatClampNeg f) (.long 0) "[J" → Arx Z h b11 cA12 .long (4 : Int32) [(.long w0), (.long w1), (.long w2), (.long w3)] (.long (0 : Int64)) "[J" → own_pr z.toNatClampNeg (own_hn z) f → own_ij z.toNatClampNeg f → sz.toInt = ((own_ls f z.toNatClampNeg).length : Int) → dd.toInt = ((own_ls f z.toNatClampNeg).length : Int) → (own_ls f z.toNatClampNeg).length ≤ 1 → (∀ x, x ∈ own_ls f z.toNatClampNeg ↔ x ∈ ([w0] : List Int64)) → ((0 : Int32)) < ((ifl &&& (2147483647 : Int32)) % (5 : Int32)) → G p l e room_1 s m #[.int ie, .int ifl, .long ja, .long jb, .long jc, .long jd] below meth c Z.heap.size (fun v _ => v = some (.int 1)) h 3 134 137 #[.val (.int ie), .val (.int ifl), .val (.long ja), .second, .val (.long jb), .second, .val (.long jc), .second, .val (.long jd), .second, .val (.ref b2), .val (.int ((ifl &&& (2147483647 : Int32)) % (5 : Int32))), .val (.ref b11), .val (.int dd), .unset, .unset] [] := by
      intro h f sz dd OL O_b2 A_t A_b11 HP1 HP2 hsz hd hle hM hnk
      refine g_iload cx d0_137 rfl ?_
      refine g_iconst cx d0_139 (v := (1 : Int32)) rfl ?_
      refine g_icmp_le cx d0_140 (fun hc140 => ?_) (fun hc140 => ?_)
      · refine g_iload cx d0_168 rfl ?_
        refine g_iconst cx d0_170 (v := (2 : Int32)) rfl ?_
        refine g_icmp_le cx d0_171 (fun hc171 => ?_) (fun q => absurd q (fun q => by have i_hnk : ((0 : Int32)).toInt < (((ifl &&& (2147483647 : Int32)) % (5 : Int32))).toInt := Int32.lt_iff_toInt_lt.mp hnk; have i_hc140 : ¬ ((1 : Int32)).toInt < (((ifl &&& (2147483647 : Int32)) % (5 : Int32))).toInt := fun z => hc140 (Int32.lt_iff_toInt_lt.mpr z); have i_q : ((2 : Int32)).toInt < (((ifl &&& (2147483647 : Int32)) % (5 : Int32))).toInt := Int32.lt_iff_toInt_lt.mp q; have e1 : (0 : Int32).toInt = 0 := rfl; have r4 := rng32 ifl; have e3 : ((ifl &&& (2147483647 : Int32))).toInt = (ifl).toInt % 2147483648 := c_mask ifl (2147483647 : Int32) 31 (by decide) (by decide); have e2 : (0 ≤ ((ifl &&& (2147483647 : Int32))).toInt → (((ifl &&& (2147483647 : Int32)) % (5 : Int32))).toInt = ((ifl &&& (2147483647 : Int32))).toInt % 5) ∧ (((ifl &&& (2147483647 : Int32))).toInt < 0 → (((ifl &&& (2147483647 : Int32)) % (5 : Int32))).toInt = -((-((ifl &&& (2147483647 : Int32))).toInt) % 5)) := c_irem (ifl &&& (2147483647 : Int32)) (5 : Int32) 5 rfl; have e5 : (1 : Int32).toInt = 1 := rfl; have e6 : (2 : Int32).toInt = 2 := rfl; omega))
        refine g_iload cx d0_211 rfl ?_
        refine g_iconst cx d0_213 (v := (3 : Int32)) rfl ?_
        refine g_icmp_le cx d0_214 (fun hc214 => ?_) (fun q => absurd q (fun q => by have i_hnk : ((0 : Int32)).toInt < (((ifl &&& (2147483647 : Int32)) % (5 : Int32))).toInt := Int32.lt_iff_toInt_lt.mp hnk; have i_hc140 : ¬ ((1 : Int32)).toInt < (((ifl &&& (2147483647 : Int32)) % (5 : Int32))).toInt := fun z => hc140 (Int32.lt_iff_toInt_lt.mpr z); have i_hc171 : ¬ ((2 : Int32)).toInt < (((ifl &&& (2147483647 : Int32)) % (5 : Int32))).toInt := fun z => hc171 (Int32.lt_iff_toInt_lt.mpr z); have i_q : ((3 : Int32)).toInt < (((ifl &&& (2147483647 : Int32)) % (5 : Int32))).toInt := Int32.lt_iff_toInt_lt.mp q; have e1 : (0 : Int32).toInt = 0 := rfl; have r4 := rng32 ifl; have e3 : ((ifl &&& (2147483647 : Int32))).toInt = (ifl).toInt % 2147483648 := c_mask ifl (2147483647 : Int32) 31 (by decide) (by decide); have e2 : (0 ≤ ((ifl &&& (2147483647 : Int32))).toInt → (((ifl &&& (2147483647 : Int32)) % (5 : Int32))).toInt = ((ifl &&& (2147483647 : Int32))).toInt % 5) ∧ (((ifl &&& (2147483647 : Int32))).toInt < 0 → (((ifl &&& (2147483647 : Int32)) % (5 : Int32))).toInt = -((-((ifl &&& (2147483647 : Int32))).toInt) % 5)) := c_irem (ifl &&& (2147483647 : Int32)) (5 : Int32) 5 rfl; have e5 : (1 : Int32).toInt = 1 := rfl; have e6 : (2 : Int32).toInt = 2 := rfl; have e7 : (3 : Int32).toInt = 3 := rfl; omega))
        have Dhs2001 : ((ifl &&& (2147483647 : Int32)) % (5 : Int32)) = (1 : Int32) := by
          have i_hnk : ((0 : Int32)).toInt < (((ifl &&& (2147483647 : Int32)) % (5 : Int32))).toInt := Int32.lt_iff_toInt_lt.mp hnk
          have i_hc140 : ¬ ((1 : Int32)).toInt < (((ifl &&& (2147483647 : Int32)) % (5 : Int32))).toInt := fun z => hc140 (Int32.lt_iff_toInt_lt.mpr z)
          have i_hc171 : ¬ ((2 : Int32)).toInt < (((ifl &&& (2147483647 : Int32)) % (5 : Int32))).toInt := fun z => hc171 (Int32.lt_iff_toInt_lt.mpr z)
          have i_hc214 : ¬ ((3 : Int32)).toInt < (((ifl &&& (2147483647 : Int32)) % (5 : Int32))).toInt := fun z => hc214 (Int32.lt_iff_toInt_lt.mpr z)
          have r3 := rng32 ifl
          have e2 : ((ifl &&& (2147483647 : Int32))).toInt = (ifl).toInt % 2147483648 := c_mask ifl (2147483647 : Int32) 31 (by decide) (by decide)
          have e1 : (0 ≤ ((ifl &&& (2147483647 : Int32))).toInt → (((ifl &&& (2147483647 : Int32)) % (5 : Int32))).toInt = ((ifl &&& (2147483647 : Int32))).toInt % 5) ∧ (((ifl &&& (2147483647 : Int32))).toInt < 0 → (((ifl &&& (2147483647 : Int32)) % (5 : Int32))).toInt = -((-((ifl &&& (2147483647 : Int32))).toInt) % 5)) := c_irem (ifl &&& (2147483647 : Int32)) (5 : Int32) 5 rfl
          have e4 : (1 : Int32).toInt = 1 := rfl
          have e5 : (0 : Int32).toInt = 0 := rfl
          have e6 : (2 : Int32).toInt = 2 := rfl
          have e7 : (3 : Int32).toInt = 3 := rfl
          simp only [← Int32.toInt_inj]
          omega
        have hs2001 := Dhs2001
        rw [hs2001]
        refine g_aload cx d0_266 rfl rfl ?_
        refine g_virtual cx (y := (⟨"com/example/gridsmith/gridsmith/LongSet", "toArray", "()[J"⟩ : MethodName)) (z := (⟨"com/example/gridsmith/gridsmith/LongSet", "toArray", "()[J"⟩ : MethodName)) (a := b2) d0_268 (hw _ (List.mem_of_getElem? (i := 49) rfl)) (hw _ (List.mem_of_getElem? (i := 50) rfl)) (hw _ (List.mem_of_getElem? (i := 2) rfl)) (hw _ (List.mem_of_getElem? (i := 53) rfl)) (hw _ (List.mem_of_getElem? (i := 52) rfl)) (hw _ (List.mem_of_getElem? (i := 51) rfl)) rfl (by decide) O_b2.1 (bytes := prog_22_method_7_code) (maxL' := 8) (M := (rmta l Z a0 hw (own_ls f z.toNatClampNeg).length b2 t z hz f cT sz _ O_b2 A_t hsz rfl (Nat.le_trans hle (by decide)) ne_b2_t OL)) rfl (lenOf pd_6 rfl) (by decide) (W := 0) (Nat.le_of_eq rfl) (by decide) (k' := 4) (n' := 138) rfl rfl (by decide) (by decide) (argsL := []) (rest := []) rfl (fun v2006 h2005 q2007 => ?_)
        obtain ⟨o2002, cO2003, rfl, K2004, st_o2002, A_o2002⟩ := q2007
        have g_o2002 : Z.heap.size ≤ o2002 := Nat.le_trans OL.2.1 st_o2002
        have ne_b2_o2002 : b2 ≠ o2002 := Nat.ne_of_lt (Nat.lt_of_lt_of_le O_b2.lt st_o2002)
        have ne_t_o2002 : t ≠ o2002 := Nat.ne_of_lt (Nat.lt_of_lt_of_le A_t.lt st_o2002)
        have ne_b11_o2002 : b11 ≠ o2002 := Nat.ne_of_lt (Nat.lt_of_lt_of_le A_b11.lt st_o2002)
        have O_b2 := O_b2.keep K2004 nin0
        have A_t := A_t.keep K2004 nin0
        have A_b11 := A_b11.keep K2004 nin0
        have OL := OL.keep K2004 all0
        refine G.cast (st' := [(.ref o2002)]) ?_ rfl
        have hnd := own_nodup z.toNatClampNeg HP2
        rcases own_shape (Nat.le_trans hle (by decide : 1 ≤ 4)) with hA | ⟨u0, hA⟩ | ⟨u0, u1, hA⟩ | ⟨u0, u1, u2, hA⟩ | ⟨u0, u1, u2, u3, hA⟩
        · exact absurd ((hM w0).mpr (by simp)) (by rw [hA]; simp)
        · have szq : sz = (1 : Int32) := Int32.toInt_inj.mp (by rw [hsz, hA]; rfl)
          subst szq
          have ddq : dd = (1 : Int32) := Int32.toInt_inj.mp (by rw [hd, hA]; rfl)
          subst ddq
          have hMA : ∀ x, x ∈ ([u0] : List Int64) ↔ x ∈ ([w0] : List Int64) := fun x => own_rwM hA (hM x)
          have hND : ([u0] : List Int64).Nodup := own_rwN hA hnd
          rw [hA] at A_o2002
          simp only [List.map_cons, List.map_nil] at A_o2002
          refine g_astore cx d0_271 rfl (Ls' := #[.val (.int ie), .val (.int ifl), .val (.long ja), .second, .val (.long jb), .second, .val (.long jc), .second, .val (.long jd), .second, .val (.ref b2), .val (.int (1 : Int32)), .val (.ref b11), .val (.int (1 : Int32)), .val (.ref o2002), .unset]) rfl ?_
          refine g_aload cx d0_273 rfl rfl ?_
          refine g_arraylength cx d0_275 A_o2002.1 ?_
          refine g_iload cx d0_276 rfl ?_
          refine g_icmp_eq cx d0_278 (fun hc278 => ?_) (fun q => absurd q (fun q => by revert q; decide))
          refine g_aload cx d0_283 rfl rfl ?_
          refine g_arraylength cx d0_285 A_o2002.1 ?_
          refine g_aload cx d0_286 rfl rfl ?_
          refine g_virtual cx (y := (⟨"com/example/gridsmith/gridsmith/LongSet", "size", "()I"⟩ : MethodName)) (z := (⟨"com/example/gridsmith/gridsmith/LongSet", "size", "()I"⟩ : MethodName)) (a := b2) d0_288 (hw _ (List.mem_of_getElem? (i := 54) rfl)) (hw _ (List.mem_of_getElem? (i := 55) rfl)) (hw _ (List.mem_of_getElem? (i := 2) rfl)) (hw _ (List.mem_of_getElem? (i := 58) rfl)) (hw _ (List.mem_of_getElem? (i := 57) rfl)) (hw _ (List.mem_of_getElem? (i := 56) rfl)) rfl (by decide) O_b2.1 (bytes := prog_22_method_5_code) (maxL' := 1) (M := (rmsg l Z a0 hw b2 t (1 : Int32) _ O_b2)) rfl (lenOf pd_7 rfl) (by decide) (W := 1) (Nat.le_of_eq rfl) (by decide) (k' := 4) (n' := 138) rfl rfl (by decide) (by decide) (argsL := []) (rest := [(.int (1 : Int32))]) rfl (fun v2009 h2008 q2010 => ?_)
          obtain ⟨rfl, rfl⟩ := q2010
          refine G.cast (st' := [(.int (1 : Int32)), (.int (1 : Int32))]) ?_ rfl
          refine g_icmp_eq cx d0_291 (fun hc291 => ?_) (fun q => absurd q (fun q => by revert q; decide))
          refine g_iload cx d0_296 rfl ?_
          refine g_if_le cx d0_298 (fun q => absurd q (fun q => by revert q; decide)) (fun hc298 => ?_)
          refine g_aload cx d0_301 rfl rfl ?_
          refine g_aload cx d0_303 rfl rfl ?_
          refine g_iconst cx d0_305 (v := (0 : Int32)) rfl ?_
          refine g_laload cx d0_306 A_b11.1 ⟨by decide, by decide⟩ (v := (.long w0)) rfl ?_
          refine g_static cx (y := (⟨"com/example/gridsmith/gridsmith/LongSetToArrayPinLaw", "has", "([JJ)Z"⟩ : MethodName)) d0_307 (hw _ (List.mem_of_getElem? (i := 59) rfl)) (hw _ (List.mem_of_getElem? (i := 60) rfl)) (hw _ (List.mem_of_getElem? (i := 61) rfl)) (hw _ (List.mem_of_getElem? (i := 62) rfl)) (by decide) (bytes := method_3_code) (maxL' := 3) (M := (rmhas1 l Z a0 hw o2002 cO2003 u0 w0 _ A_o2002)) rfl (lenOf pd_8 rfl) (by decide) (W := 0) (Nat.le_of_eq rfl) (by decide) (k' := 4) (n' := 138) rfl rfl (by decide) (by decide) (argsL := [(.ref o2002), (.long w0)]) (rest := []) rfl (fun v2012 h2011 q2013 => ?_)
          obtain ⟨rfl, rfl⟩ := q2013
          refine G.cast (st' := [(.int (own_mem [u0] w0))]) ?_ rfl
          refine g_if_ne cx d0_310 (fun hc310 => ?_) (fun q => absurd q (fun q => own_memF ((hMA _).mpr (by simp)) q))
          refine g_iload cx d0_315 rfl ?_
          refine g_iconst cx d0_317 (v := (1 : Int32)) rfl ?_
          refine g_icmp_le cx d0_318 (fun hc318 => ?_) (fun q => absurd q (fun q => by revert q; decide))
          refine g_iload cx d0_335 rfl ?_
          refine g_iconst cx d0_337 (v := (2 : Int32)) rfl ?_
          refine g_icmp_le cx d0_338 (fun hc338 => ?_) (fun q => absurd q (fun q => by revert q; decide))
          refine g_iload cx d0_355 rfl ?_
          refine g_iconst cx d0_357 (v := (3 : Int32)) rfl ?_
          refine g_icmp_le cx d0_358 (fun hc358 => ?_) (fun q => absurd q (fun q => by revert q; decide))
          refine g_aload cx d0_375 rfl rfl ?_
          refine g_arraylength cx d0_377 A_o2002.1 ?_
          refine g_if_le cx d0_378 (fun q => absurd q (fun q => by revert q; decide)) (fun hc378 => ?_)
          refine g_aload cx d0_381 rfl rfl ?_
          refine g_iload cx d0_383 rfl ?_
          refine g_aload cx d0_385 rfl rfl ?_
          refine g_iconst cx d0_387 (v := (0 : Int32)) rfl ?_
          refine g_laload cx d0_388 A_o2002.1 ⟨by decide, by decide⟩ (v := (.long u0)) rfl ?_
          refine g_static cx (y := (⟨"com/example/gridsmith/gridsmith/LongSetToArrayPinLaw", "among", "([JIJ)Z"⟩ : MethodName)) d0_389 (hw _ (List.mem_of_getElem? (i := 63) rfl)) (hw _ (List.mem_of_getElem? (i := 64) rfl)) (hw _ (List.mem_of_getElem? (i := 61) rfl)) (hw _ (List.mem_of_getElem? (i := 65) rfl)) (by decide) (bytes := method_4_code) (maxL' := 4) (M := (rmamg1 l Z a0 hw b11 cA12 w0 w1 w2 w3 u0 _ A_b11)) rfl (lenOf pd_9 rfl) (by decide) (W := 0) (Nat.le_of_eq rfl) (by decide) (k' := 4) (n' := 138) rfl rfl (by decide) (by decide) (argsL := [(.ref b11), (.int (1 : Int32)), (.long u0)]) (rest := []) rfl (fun v2015 h2014 q2016 => ?_)
          obtain ⟨rfl, rfl⟩ := q2016
          refine G.cast (st' := [(.int (own_mem [w0] u0))]) ?_ rfl
          refine g_if_ne cx d0_392 (fun hc392 => ?_) (fun q => absurd q (fun q => own_memF ((hMA _).mp (by simp)) q))
          refine g_aload cx d0_397 rfl rfl ?_
          refine g_arraylength cx d0_399 A_o2002.1 ?_
          refine g_iconst cx d0_400 (v := (1 : Int32)) rfl ?_
          refine g_icmp_le cx d0_401 (fun hc401 => ?_) (fun q => absurd q (fun q => by revert q; decide))
          refine g_aload cx d0_420 rfl rfl ?_
          refine g_arraylength cx d0_422 A_o2002.1 ?_
          refine g_iconst cx d0_423 (v := (2 : Int32)) rfl ?_
          refine g_icmp_le cx d0_424 (fun hc424 => ?_) (fun q => absurd q (fun q => by revert q; decide))
          refine g_aload cx d0_443 rfl rfl ?_
          refine g_arraylength cx d0_445 A_o2002.1 ?_
          refine g_iconst cx d0_446 (v := (3 : Int32)) rfl ?_
          refine g_icmp_le cx d0_447 (fun hc447 => ?_) (fun q => absurd q (fun q => by revert q; decide))
          refine g_aload cx d0_466 rfl rfl ?_
          refine g_static cx (y := (⟨"com/example/gridsmith/gridsmith/LongSetToArrayPinLaw", "allDistinct", "([J)Z"⟩ : MethodName)) d0_468 (hw _ (List.mem_of_getElem? (i := 66) rfl)) (hw _ (List.mem_of_getElem? (i := 67) rfl)) (hw _ (List.mem_of_getElem? (i := 61) rfl)) (hw _ (List.mem_of_getElem? (i := 68) rfl)) (by decide) (bytes := method_5_code) (maxL' := 2) (M := (rmdis1 l Z a0 hw o2002 cO2003 u0 _ A_o2002)) rfl (lenOf pd_10 rfl) (by decide) (W := 0) (Nat.le_of_eq rfl) (by decide) (k' := 4) (n' := 138) rfl rfl (by decide) (by decide) (argsL := [(.ref o2002)]) (rest := []) rfl (fun v2018 h2017 q2019 => ?_)
          obtain ⟨rfl, rfl⟩ := q2019
          refine G.cast (st' := [(.int (own_nd [u0]))]) ?_ rfl
          refine g_if_ne cx d0_471 (fun hc471 => ?_) (fun q => absurd q (fun q => own_ndF hND q))
          refine g_aload cx d0_476 rfl rfl ?_
          refine g_virtual cx (y := (⟨"com/example/gridsmith/gridsmith/LongSet", "toArray", "()[J"⟩ : MethodName)) (z := (⟨"com/example/gridsmith/gridsmith/LongSet", "toArray", "()[J"⟩ : MethodName)) (a := b2) d0_478 (hw _ (List.mem_of_getElem? (i := 49) rfl)) (hw _ (List.mem_of_getElem? (i := 50) rfl)) (hw _ (List.mem_of_getElem? (i := 2) rfl)) (hw _ (List.mem_of_getElem? (i := 53) rfl)) (hw _ (List.mem_of_getElem? (i := 52) rfl)) (hw _ (List.mem_of_getElem? (i := 51) rfl)) rfl (by decide) O_b2.1 (bytes := prog_22_method_7_code) (maxL' := 8) (M := (rmta l Z a0 hw (own_ls f z.toNatClampNeg).length b2 t z hz f cT (1 : Int32) _ O_b2 A_t hsz rfl (Nat.le_trans hle (by decide)) ne_b2_t OL)) rfl (lenOf pd_6 rfl) (by decide) (W := 0) (Nat.le_of_eq rfl) (by decide) (k' := 5) (n' := 142) rfl rfl (by decide) (by decide) (argsL := []) (rest := []) rfl (fun v2024 h2023 q2025 => ?_)
          obtain ⟨o2020, cO2021, rfl, K2022, st_o2020, A_o2020⟩ := q2025
          have g_o2020 : Z.heap.size ≤ o2020 := Nat.le_trans OL.2.1 st_o2020
          have ne_b2_o2020 : b2 ≠ o2020 := Nat.ne_of_lt (Nat.lt_of_lt_of_le O_b2.lt st_o2020)
          have ne_t_o2020 : t ≠ o2020 := Nat.ne_of_lt (Nat.lt_of_lt_of_le A_t.lt st_o2020)
          have ne_b11_o2020 : b11 ≠ o2020 := Nat.ne_of_lt (Nat.lt_of_lt_of_le A_b11.lt st_o2020)
          have ne_o2002_o2020 : o2002 ≠ o2020 := Nat.ne_of_lt (Nat.lt_of_lt_of_le A_o2002.lt st_o2020)
          have O_b2 := O_b2.keep K2022 nin0
          have A_t := A_t.keep K2022 nin0
          have A_b11 := A_b11.keep K2022 nin0
          have A_o2002 := A_o2002.keep K2022 nin0
          have OL := OL.keep K2022 all0
          refine G.cast (st' := [(.ref o2020)]) ?_ rfl
          refine g_astore cx d0_481 rfl (Ls' := #[.val (.int ie), .val (.int ifl), .val (.long ja), .second, .val (.long jb), .second, .val (.long jc), .second, .val (.long jd), .second, .val (.ref b2), .val (.int (1 : Int32)), .val (.ref b11), .val (.int (1 : Int32)), .val (.ref o2002), .val (.ref o2020)]) rfl ?_
          refine g_aload cx d0_483 rfl rfl ?_
          refine g_aload cx d0_485 rfl rfl ?_
          refine g_acmp_eq cx rfl rfl d0_487 (fun q => absurd q (fun q => ne_o2002_o2020.symm (by cases q; rfl))) (fun hc487 => ?_)
          refine g_aload cx d0_490 rfl rfl ?_
          refine g_arraylength cx d0_492 A_o2020.1 ?_
          refine g_aload cx d0_493 rfl rfl ?_
          refine g_arraylength cx d0_495 A_o2002.1 ?_
          refine g_icmp_ne cx d0_496 (fun q => absurd q (fun q => by revert q; decide)) (fun hc496 => ?_)
          refine g_iconst cx d0_499 (v := (1 : Int32)) rfl ?_
          refine g_goto cx d0_500 ?_
          refine g_retZ cx d0_504 rfl rfl (by decide) (by decide) ?_
          rfl
        · exact absurd hle (by rw [hA]; simp)
        · exact absurd hle (by rw [hA]; simp)
        · exact absurd hle (by rw [hA]; simp)
      · refine g_aload cx d0_143 rfl rfl ?_
        refine g_aload cx d0_145 rfl rfl ?_
        refine g_iconst cx d0_147 (v := (1 : Int32)) rfl ?_
        refine g_laload cx d0_148 A_b11.1 ⟨by decide, by decide⟩ (v := (.long w1)) rfl ?_
        refine g_virtual cx (y := (⟨"com/example/gridsmith/gridsmith/LongSet", "add", "(J)Z"⟩ : MethodName)) (z := (⟨"com/example/gridsmith/gridsmith/LongSet", "add", "(J)Z"⟩ : MethodName)) (a := b2) d0_149 (hw _ (List.mem_of_getElem? (i := 35) rfl)) (hw _ (List.mem_of_getElem? (i := 36) rfl)) (hw _ (List.mem_of_getElem? (i := 2) rfl)) (hw _ (List.mem_of_getElem? (i := 39) rfl)) (hw _ (List.mem_of_getElem? (i := 38) rfl)) (hw _ (List.mem_of_getElem? (i := 37) rfl)) rfl (by decide) O_b2.1 (bytes := prog_22_method_3_code) (maxL' := 4) (M := (rmad l Z a0 hw w1 y1 b2 t z hz f cT sz _ O_b2 A_t hsz (Nat.le_trans hle (by decide)) HP1 HP2 ne_b2_t g_b2 g_t OL)) rfl (lenOf pd_11 rfl) (by decide) (W := 0) (Nat.le_of_eq rfl) (by decide) (k' := 3) (n' := 134) rfl rfl (by decide) (by decide) (argsL := [(.long w1)]) (rest := []) rfl (fun v2030 h2029 q2031 => ?_)
        obtain ⟨ra, f2026, sz2027, rfl, K2028, O_b2, A_t, HQ1, HQ2, hsz2, hM2, hin, hnin⟩ := q2031
        have A_b11 := A_b11.keep K2028 (ninS (Ne.symm ne_b2_b11) (ninS (Ne.symm ne_t_b11) nin0))
        have OL := OL.keep K2028 (allS g_b2 (allS g_t all0))
        refine G.cast (st' := [(.int ra)]) ?_ rfl
        refine g_pop cx d0_152 rfl ?_
        refine g_aload cx d0_153 rfl rfl ?_
        refine g_iconst cx d0_155 (v := (1 : Int32)) rfl ?_
        refine g_laload cx d0_156 A_b11.1 ⟨by decide, by decide⟩ (v := (.long w1)) rfl ?_
        refine g_aload cx d0_157 rfl rfl ?_
        refine g_iconst cx d0_159 (v := (0 : Int32)) rfl ?_
        refine g_laload cx d0_160 A_b11.1 ⟨by decide, by decide⟩ (v := (.long w0)) rfl ?_
        refine g_lif_eq cx d0_161 d0_162 (fun hc162 => ?_) (fun hc162 => ?_)
        · have hm : w1 ∈ own_ls f z.toNatClampNeg := (hM _).mpr (by simp [hc162])
          have hl := hin hm
          have hd2 : (dd).toInt = ((own_ls f2026 z.toNatClampNeg).length : Int) := by rw [hl]; exact hd
          exact J2 _ f2026 sz2027 _ OL O_b2 A_t A_b11 HQ1 HQ2 hsz2 hd2 (by omega) (fun x => (hM2 x).trans ((or_congr Iff.rfl (hM x)).trans List.mem_cons.symm)) hc140
        · refine g_iinc cx d0_165 rfl (v := (1 : Int32)) rfl (Ls' := #[.val (.int ie), .val (.int ifl), .val (.long ja), .second, .val (.long jb), .second, .val (.long jc), .second, .val (.long jd), .second, .val (.ref b2), .val (.int ((ifl &&& (2147483647 : Int32)) % (5 : Int32))), .val (.ref b11), .val (.int (dd + (1 : Int32))), .unset, .unset]) rfl ?_
          have hm : w1 ∉ own_ls f z.toNatClampNeg := fun q => by have := (hM _).mp q; simp [hc162] at this
          have hl := hnin hm
          have hd2 : ((dd + (1 : Int32))).toInt = ((own_ls f2026 z.toNatClampNeg).length : Int) := by rw [hl]; exact own_ju hd (Nat.lt_of_le_of_lt hle (by decide))
          exact J2 _ f2026 sz2027 _ OL O_b2 A_t A_b11 HQ1 HQ2 hsz2 hd2 (by omega) (fun x => (hM2 x).trans ((or_congr Iff.rfl (hM x)).trans List.mem_cons.symm)) hc140
    refine g_iconst cx d0_116 (v := (0 : Int32)) rfl ?_
    refine g_istore cx d0_117 (Ls' := #[.val (.int ie), .val (.int ifl), .val (.long ja), .second, .val (.long jb), .second, .val (.long jc), .second, .val (.long jd), .second, .val (.ref b2), .val (.int ((ifl &&& (2147483647 : Int32)) % (5 : Int32))), .val (.ref b11), .val (.int (0 : Int32)), .unset, .unset]) rfl ?_
    refine g_iload cx d0_119 rfl ?_
    refine g_if_le cx d0_121 (fun hc121 => ?_) (fun hc121 => ?_)
    · refine g_iload cx d0_137 rfl ?_
      refine g_iconst cx d0_139 (v := (1 : Int32)) rfl ?_
      refine g_icmp_le cx d0_140 (fun hc140 => ?_) (fun q => absurd q (fun q => by have i_hc121 : ¬ ((0 : Int32)).toInt < (((ifl &&& (2147483647 : Int32)) % (5 : Int32))).toInt := fun z => hc121 (Int32.lt_iff_toInt_lt.mpr z); have i_q : ((1 : Int32)).toInt < (((ifl &&& (2147483647 : Int32)) % (5 : Int32))).toInt := Int32.lt_iff_toInt_lt.mp q; have e1 : (0 : Int32).toInt = 0 := rfl; have r4 := rng32 ifl; have e3 : ((ifl &&& (2147483647 : Int32))).toInt = (ifl).toInt % 2147483648 := c_mask ifl (2147483647 : Int32) 31 (by decide) (by decide); have e2 : (0 ≤ ((ifl &&& (2147483647 : Int32))).toInt → (((ifl &&& (2147483647 : Int32)) % (5 : Int32))).toInt = ((ifl &&& (2147483647 : Int32))).toInt % 5) ∧ (((ifl &&& (2147483647 : Int32))).toInt < 0 → (((ifl &&& (2147483647 : Int32)) % (5 : Int32))).toInt = -((-((ifl &&& (2147483647 : Int32))).toInt) % 5)) := c_irem (ifl &&& (2147483647 : Int32)) (5 : Int32) 5 rfl; have e5 : (1 : Int32).toInt = 1 := rfl; omega))
      refine g_iload cx d0_168 rfl ?_
      refine g_iconst cx d0_170 (v := (2 : Int32)) rfl ?_
      refine g_icmp_le cx d0_171 (fun hc171 => ?_) (fun q => absurd q (fun q => by have i_hc121 : ¬ ((0 : Int32)).toInt < (((ifl &&& (2147483647 : Int32)) % (5 : Int32))).toInt := fun z => hc121 (Int32.lt_iff_toInt_lt.mpr z); have i_hc140 : ¬ ((1 : Int32)).toInt < (((ifl &&& (2147483647 : Int32)) % (5 : Int32))).toInt := fun z => hc140 (Int32.lt_iff_toInt_lt.mpr z); have i_q : ((2 : Int32)).toInt < (((ifl &&& (2147483647 : Int32)) % (5 : Int32))).toInt := Int32.lt_iff_toInt_lt.mp q; have e1 : (0 : Int32).toInt = 0 := rfl; have r4 := rng32 ifl; have e3 : ((ifl &&& (2147483647 : Int32))).toInt = (ifl).toInt % 2147483648 := c_mask ifl (2147483647 : Int32) 31 (by decide) (by decide); have e2 : (0 ≤ ((ifl &&& (2147483647 : Int32))).toInt → (((ifl &&& (2147483647 : Int32)) % (5 : Int32))).toInt = ((ifl &&& (2147483647 : Int32))).toInt % 5) ∧ (((ifl &&& (2147483647 : Int32))).toInt < 0 → (((ifl &&& (2147483647 : Int32)) % (5 : Int32))).toInt = -((-((ifl &&& (2147483647 : Int32))).toInt) % 5)) := c_irem (ifl &&& (2147483647 : Int32)) (5 : Int32) 5 rfl; have e5 : (1 : Int32).toInt = 1 := rfl; have e6 : (2 : Int32).toInt = 2 := rfl; omega))
      refine g_iload cx d0_211 rfl ?_
      refine g_iconst cx d0_213 (v := (3 : Int32)) rfl ?_
      refine g_icmp_le cx d0_214 (fun hc214 => ?_) (fun q => absurd q (fun q => by have i_hc121 : ¬ ((0 : Int32)).toInt < (((ifl &&& (2147483647 : Int32)) % (5 : Int32))).toInt := fun z => hc121 (Int32.lt_iff_toInt_lt.mpr z); have i_hc140 : ¬ ((1 : Int32)).toInt < (((ifl &&& (2147483647 : Int32)) % (5 : Int32))).toInt := fun z => hc140 (Int32.lt_iff_toInt_lt.mpr z); have i_hc171 : ¬ ((2 : Int32)).toInt < (((ifl &&& (2147483647 : Int32)) % (5 : Int32))).toInt := fun z => hc171 (Int32.lt_iff_toInt_lt.mpr z); have i_q : ((3 : Int32)).toInt < (((ifl &&& (2147483647 : Int32)) % (5 : Int32))).toInt := Int32.lt_iff_toInt_lt.mp q; have e1 : (0 : Int32).toInt = 0 := rfl; have r4 := rng32 ifl; have e3 : ((ifl &&& (2147483647 : Int32))).toInt = (ifl).toInt % 2147483648 := c_mask ifl (2147483647 : Int32) 31 (by decide) (by decide); have e2 : (0 ≤ ((ifl &&& (2147483647 : Int32))).toInt → (((ifl &&& (2147483647 : Int32)) % (5 : Int32))).toInt = ((ifl &&& (2147483647 : Int32))).toInt % 5) ∧ (((ifl &&& (2147483647 : Int32))).toInt < 0 → (((ifl &&& (2147483647 : Int32)) % (5 : Int32))).toInt = -((-((ifl &&& (2147483647 : Int32))).toInt) % 5)) := c_irem (ifl &&& (2147483647 : Int32)) (5 : Int32) 5 rfl; have e5 : (1 : Int32).toInt = 1 := rfl; have e6 : (2 : Int32).toInt = 2 := rfl; have e7 : (3 : Int32).toInt = 3 := rfl; omega))
      have Dhs1001 : ((ifl &&& (2147483647 : Int32)) % (5 : Int32)) = (0 : Int32) := by
        have i_hc121 : ¬ ((0 : Int32)).toInt < (((ifl &&& (2147483647 : Int32)) % (5 : Int32))).toInt := fun z => hc121 (Int32.lt_iff_toInt_lt.mpr z)
        have i_hc140 : ¬ ((1 : Int32)).toInt < (((ifl &&& (2147483647 : Int32)) % (5 : Int32))).toInt := fun z => hc140 (Int32.lt_iff_toInt_lt.mpr z)
        have i_hc171 : ¬ ((2 : Int32)).toInt < (((ifl &&& (2147483647 : Int32)) % (5 : Int32))).toInt := fun z => hc171 (Int32.lt_iff_toInt_lt.mpr z)
        have i_hc214 : ¬ ((3 : Int32)).toInt < (((ifl &&& (2147483647 : Int32)) % (5 : Int32))).toInt := fun z => hc214 (Int32.lt_iff_toInt_lt.mpr z)
        have r3 := rng32 ifl
        have e2 : ((ifl &&& (2147483647 : Int32))).toInt = (ifl).toInt % 2147483648 := c_mask ifl (2147483647 : Int32) 31 (by decide) (by decide)
        have e1 : (0 ≤ ((ifl &&& (2147483647 : Int32))).toInt → (((ifl &&& (2147483647 : Int32)) % (5 : Int32))).toInt = ((ifl &&& (2147483647 : Int32))).toInt % 5) ∧ (((ifl &&& (2147483647 : Int32))).toInt < 0 → (((ifl &&& (2147483647 : Int32)) % (5 : Int32))).toInt = -((-((ifl &&& (2147483647 : Int32))).toInt) % 5)) := c_irem (ifl &&& (2147483647 : Int32)) (5 : Int32) 5 rfl
        have e4 : (0 : Int32).toInt = 0 := rfl
        have e5 : (1 : Int32).toInt = 1 := rfl
        have e6 : (2 : Int32).toInt = 2 := rfl
        have e7 : (3 : Int32).toInt = 3 := rfl
        simp only [← Int32.toInt_inj]
        omega
      have hs1001 := Dhs1001
      rw [hs1001]
      refine g_aload cx d0_266 rfl rfl ?_
      refine g_virtual cx (y := (⟨"com/example/gridsmith/gridsmith/LongSet", "toArray", "()[J"⟩ : MethodName)) (z := (⟨"com/example/gridsmith/gridsmith/LongSet", "toArray", "()[J"⟩ : MethodName)) (a := b2) d0_268 (hw _ (List.mem_of_getElem? (i := 49) rfl)) (hw _ (List.mem_of_getElem? (i := 50) rfl)) (hw _ (List.mem_of_getElem? (i := 2) rfl)) (hw _ (List.mem_of_getElem? (i := 53) rfl)) (hw _ (List.mem_of_getElem? (i := 52) rfl)) (hw _ (List.mem_of_getElem? (i := 51) rfl)) rfl (by decide) O_b2.1 (bytes := prog_22_method_7_code) (maxL' := 8) (M := (rmta l Z a0 hw (own_ls f z.toNatClampNeg).length b2 t z hz f cT sz _ O_b2 A_t hsz rfl (Nat.le_trans hle (by decide)) ne_b2_t OL)) rfl (lenOf pd_6 rfl) (by decide) (W := 0) (Nat.le_of_eq rfl) (by decide) (k' := 4) (n' := 138) rfl rfl (by decide) (by decide) (argsL := []) (rest := []) rfl (fun v1006 h1005 q1007 => ?_)
      obtain ⟨o1002, cO1003, rfl, K1004, st_o1002, A_o1002⟩ := q1007
      have g_o1002 : Z.heap.size ≤ o1002 := Nat.le_trans OL.2.1 st_o1002
      have ne_b2_o1002 : b2 ≠ o1002 := Nat.ne_of_lt (Nat.lt_of_lt_of_le O_b2.lt st_o1002)
      have ne_t_o1002 : t ≠ o1002 := Nat.ne_of_lt (Nat.lt_of_lt_of_le A_t.lt st_o1002)
      have ne_b11_o1002 : b11 ≠ o1002 := Nat.ne_of_lt (Nat.lt_of_lt_of_le A_b11.lt st_o1002)
      have O_b2 := O_b2.keep K1004 nin0
      have A_t := A_t.keep K1004 nin0
      have A_b11 := A_b11.keep K1004 nin0
      have OL := OL.keep K1004 all0
      refine G.cast (st' := [(.ref o1002)]) ?_ rfl
      have hnd := own_nodup z.toNatClampNeg HP2
      rcases own_shape (Nat.le_trans hle (by decide : 0 ≤ 4)) with hA | ⟨u0, hA⟩ | ⟨u0, u1, hA⟩ | ⟨u0, u1, u2, hA⟩ | ⟨u0, u1, u2, u3, hA⟩
      · have szq : sz = (0 : Int32) := Int32.toInt_inj.mp (by rw [hsz, hA]; rfl)
        subst szq
        have hMA : ∀ x, x ∈ ([] : List Int64) ↔ x ∈ ([] : List Int64) := fun x => own_rwM hA (hM x)
        have hND : ([] : List Int64).Nodup := own_rwN hA hnd
        rw [hA] at A_o1002
        simp only [List.map_cons, List.map_nil] at A_o1002
        refine g_astore cx d0_271 rfl (Ls' := #[.val (.int ie), .val (.int ifl), .val (.long ja), .second, .val (.long jb), .second, .val (.long jc), .second, .val (.long jd), .second, .val (.ref b2), .val (.int (0 : Int32)), .val (.ref b11), .val (.int (0 : Int32)), .val (.ref o1002), .unset]) rfl ?_
        refine g_aload cx d0_273 rfl rfl ?_
        refine g_arraylength cx d0_275 A_o1002.1 ?_
        refine g_iload cx d0_276 rfl ?_
        refine g_icmp_eq cx d0_278 (fun hc278 => ?_) (fun q => absurd q (fun q => by revert q; decide))
        refine g_aload cx d0_283 rfl rfl ?_
        refine g_arraylength cx d0_285 A_o1002.1 ?_
        refine g_aload cx d0_286 rfl rfl ?_
        refine g_virtual cx (y := (⟨"com/example/gridsmith/gridsmith/LongSet", "size", "()I"⟩ : MethodName)) (z := (⟨"com/example/gridsmith/gridsmith/LongSet", "size", "()I"⟩ : MethodName)) (a := b2) d0_288 (hw _ (List.mem_of_getElem? (i := 54) rfl)) (hw _ (List.mem_of_getElem? (i := 55) rfl)) (hw _ (List.mem_of_getElem? (i := 2) rfl)) (hw _ (List.mem_of_getElem? (i := 58) rfl)) (hw _ (List.mem_of_getElem? (i := 57) rfl)) (hw _ (List.mem_of_getElem? (i := 56) rfl)) rfl (by decide) O_b2.1 (bytes := prog_22_method_5_code) (maxL' := 1) (M := (rmsg l Z a0 hw b2 t (0 : Int32) _ O_b2)) rfl (lenOf pd_7 rfl) (by decide) (W := 1) (Nat.le_of_eq rfl) (by decide) (k' := 4) (n' := 138) rfl rfl (by decide) (by decide) (argsL := []) (rest := [(.int (0 : Int32))]) rfl (fun v1009 h1008 q1010 => ?_)
        obtain ⟨rfl, rfl⟩ := q1010
        refine G.cast (st' := [(.int (0 : Int32)), (.int (0 : Int32))]) ?_ rfl
        refine g_icmp_eq cx d0_291 (fun hc291 => ?_) (fun q => absurd q (fun q => by revert q; decide))
        refine g_iload cx d0_296 rfl ?_
        refine g_if_le cx d0_298 (fun hc298 => ?_) (fun q => absurd q (fun q => by revert q; decide))
        refine g_iload cx d0_315 rfl ?_
        refine g_iconst cx d0_317 (v := (1 : Int32)) rfl ?_
        refine g_icmp_le cx d0_318 (fun hc318 => ?_) (fun q => absurd q (fun q => by revert q; decide))
        refine g_iload cx d0_335 rfl ?_
        refine g_iconst cx d0_337 (v := (2 : Int32)) rfl ?_
        refine g_icmp_le cx d0_338 (fun hc338 => ?_) (fun q => absurd q (fun q => by revert q; decide))
        refine g_iload cx d0_355 rfl ?_
        refine g_iconst cx d0_357 (v := (3 : Int32)) rfl ?_
        refine g_icmp_le cx d0_358 (fun hc358 => ?_) (fun q => absurd q (fun q => by revert q; decide))
        refine g_aload cx d0_375 rfl rfl ?_
        refine g_arraylength cx d0_377 A_o1002.1 ?_
        refine g_if_le cx d0_378 (fun hc378 => ?_) (fun q => absurd q (fun q => by revert q; decide))
        refine g_aload cx d0_397 rfl rfl ?_
        refine g_arraylength cx d0_399 A_o1002.1 ?_
        refine g_iconst cx d0_400 (v := (1 : Int32)) rfl ?_
        refine g_icmp_le cx d0_401 (fun hc401 => ?_) (fun q => absurd q (fun q => by revert q; decide))
        refine g_aload cx d0_420 rfl rfl ?_
        refine g_arraylength cx d0_422 A_o1002.1 ?_
        refine g_iconst cx d0_423 (v := (2 : Int32)) rfl ?_
        refine g_icmp_le cx d0_424 (fun hc424 => ?_) (fun q => absurd q (fun q => by revert q; decide))
        refine g_aload cx d0_443 rfl rfl ?_
        refine g_arraylength cx d0_445 A_o1002.1 ?_
        refine g_iconst cx d0_446 (v := (3 : Int32)) rfl ?_
        refine g_icmp_le cx d0_447 (fun hc447 => ?_) (fun q => absurd q (fun q => by revert q; decide))
        refine g_aload cx d0_466 rfl rfl ?_
        refine g_static cx (y := (⟨"com/example/gridsmith/gridsmith/LongSetToArrayPinLaw", "allDistinct", "([J)Z"⟩ : MethodName)) d0_468 (hw _ (List.mem_of_getElem? (i := 66) rfl)) (hw _ (List.mem_of_getElem? (i := 67) rfl)) (hw _ (List.mem_of_getElem? (i := 61) rfl)) (hw _ (List.mem_of_getElem? (i := 68) rfl)) (by decide) (bytes := method_5_code) (maxL' := 2) (M := (rmdis0 l Z a0 hw o1002 cO1003  _ A_o1002)) rfl (lenOf pd_10 rfl) (by decide) (W := 0) (Nat.le_of_eq rfl) (by decide) (k' := 4) (n' := 138) rfl rfl (by decide) (by decide) (argsL := [(.ref o1002)]) (rest := []) rfl (fun v1012 h1011 q1013 => ?_)
        obtain ⟨rfl, rfl⟩ := q1013
        refine G.cast (st' := [(.int (own_nd []))]) ?_ rfl
        refine g_if_ne cx d0_471 (fun hc471 => ?_) (fun q => absurd q (fun q => own_ndF hND q))
        refine g_aload cx d0_476 rfl rfl ?_
        refine g_virtual cx (y := (⟨"com/example/gridsmith/gridsmith/LongSet", "toArray", "()[J"⟩ : MethodName)) (z := (⟨"com/example/gridsmith/gridsmith/LongSet", "toArray", "()[J"⟩ : MethodName)) (a := b2) d0_478 (hw _ (List.mem_of_getElem? (i := 49) rfl)) (hw _ (List.mem_of_getElem? (i := 50) rfl)) (hw _ (List.mem_of_getElem? (i := 2) rfl)) (hw _ (List.mem_of_getElem? (i := 53) rfl)) (hw _ (List.mem_of_getElem? (i := 52) rfl)) (hw _ (List.mem_of_getElem? (i := 51) rfl)) rfl (by decide) O_b2.1 (bytes := prog_22_method_7_code) (maxL' := 8) (M := (rmta l Z a0 hw (own_ls f z.toNatClampNeg).length b2 t z hz f cT (0 : Int32) _ O_b2 A_t hsz rfl (Nat.le_trans hle (by decide)) ne_b2_t OL)) rfl (lenOf pd_6 rfl) (by decide) (W := 0) (Nat.le_of_eq rfl) (by decide) (k' := 5) (n' := 142) rfl rfl (by decide) (by decide) (argsL := []) (rest := []) rfl (fun v1018 h1017 q1019 => ?_)
        obtain ⟨o1014, cO1015, rfl, K1016, st_o1014, A_o1014⟩ := q1019
        have g_o1014 : Z.heap.size ≤ o1014 := Nat.le_trans OL.2.1 st_o1014
        have ne_b2_o1014 : b2 ≠ o1014 := Nat.ne_of_lt (Nat.lt_of_lt_of_le O_b2.lt st_o1014)
        have ne_t_o1014 : t ≠ o1014 := Nat.ne_of_lt (Nat.lt_of_lt_of_le A_t.lt st_o1014)
        have ne_b11_o1014 : b11 ≠ o1014 := Nat.ne_of_lt (Nat.lt_of_lt_of_le A_b11.lt st_o1014)
        have ne_o1002_o1014 : o1002 ≠ o1014 := Nat.ne_of_lt (Nat.lt_of_lt_of_le A_o1002.lt st_o1014)
        have O_b2 := O_b2.keep K1016 nin0
        have A_t := A_t.keep K1016 nin0
        have A_b11 := A_b11.keep K1016 nin0
        have A_o1002 := A_o1002.keep K1016 nin0
        have OL := OL.keep K1016 all0
        refine G.cast (st' := [(.ref o1014)]) ?_ rfl
        refine g_astore cx d0_481 rfl (Ls' := #[.val (.int ie), .val (.int ifl), .val (.long ja), .second, .val (.long jb), .second, .val (.long jc), .second, .val (.long jd), .second, .val (.ref b2), .val (.int (0 : Int32)), .val (.ref b11), .val (.int (0 : Int32)), .val (.ref o1002), .val (.ref o1014)]) rfl ?_
        refine g_aload cx d0_483 rfl rfl ?_
        refine g_aload cx d0_485 rfl rfl ?_
        refine g_acmp_eq cx rfl rfl d0_487 (fun q => absurd q (fun q => ne_o1002_o1014.symm (by cases q; rfl))) (fun hc487 => ?_)
        refine g_aload cx d0_490 rfl rfl ?_
        refine g_arraylength cx d0_492 A_o1014.1 ?_
        refine g_aload cx d0_493 rfl rfl ?_
        refine g_arraylength cx d0_495 A_o1002.1 ?_
        refine g_icmp_ne cx d0_496 (fun q => absurd q (fun q => by revert q; decide)) (fun hc496 => ?_)
        refine g_iconst cx d0_499 (v := (1 : Int32)) rfl ?_
        refine g_goto cx d0_500 ?_
        refine g_retZ cx d0_504 rfl rfl (by decide) (by decide) ?_
        rfl
      · exact absurd hle (by rw [hA]; simp)
      · exact absurd hle (by rw [hA]; simp)
      · exact absurd hle (by rw [hA]; simp)
      · exact absurd hle (by rw [hA]; simp)
    · refine g_aload cx d0_124 rfl rfl ?_
      refine g_aload cx d0_126 rfl rfl ?_
      refine g_iconst cx d0_128 (v := (0 : Int32)) rfl ?_
      refine g_laload cx d0_129 A_b11.1 ⟨by decide, by decide⟩ (v := (.long w0)) rfl ?_
      refine g_virtual cx (y := (⟨"com/example/gridsmith/gridsmith/LongSet", "add", "(J)Z"⟩ : MethodName)) (z := (⟨"com/example/gridsmith/gridsmith/LongSet", "add", "(J)Z"⟩ : MethodName)) (a := b2) d0_130 (hw _ (List.mem_of_getElem? (i := 35) rfl)) (hw _ (List.mem_of_getElem? (i := 36) rfl)) (hw _ (List.mem_of_getElem? (i := 2) rfl)) (hw _ (List.mem_of_getElem? (i := 39) rfl)) (hw _ (List.mem_of_getElem? (i := 38) rfl)) (hw _ (List.mem_of_getElem? (i := 37) rfl)) rfl (by decide) O_b2.1 (bytes := prog_22_method_3_code) (maxL' := 4) (M := (rmad l Z a0 hw w0 y0 b2 t z hz f cT sz _ O_b2 A_t hsz (Nat.le_trans hle (by decide)) HP1 HP2 ne_b2_t g_b2 g_t OL)) rfl (lenOf pd_11 rfl) (by decide) (W := 0) (Nat.le_of_eq rfl) (by decide) (k' := 3) (n' := 134) rfl rfl (by decide) (by decide) (argsL := [(.long w0)]) (rest := []) rfl (fun v1024 h1023 q1025 => ?_)
      obtain ⟨ra, f1020, sz1021, rfl, K1022, O_b2, A_t, HQ1, HQ2, hsz2, hM2, hin, hnin⟩ := q1025
      have A_b11 := A_b11.keep K1022 (ninS (Ne.symm ne_b2_b11) (ninS (Ne.symm ne_t_b11) nin0))
      have OL := OL.keep K1022 (allS g_b2 (allS g_t all0))
      refine G.cast (st' := [(.int ra)]) ?_ rfl
      refine g_pop cx d0_133 rfl ?_
      refine g_iinc cx d0_134 rfl (v := (1 : Int32)) rfl (Ls' := #[.val (.int ie), .val (.int ifl), .val (.long ja), .second, .val (.long jb), .second, .val (.long jc), .second, .val (.long jd), .second, .val (.ref b2), .val (.int ((ifl &&& (2147483647 : Int32)) % (5 : Int32))), .val (.ref b11), .val (.int (1 : Int32)), .unset, .unset]) rfl ?_
      have hm : w0 ∉ own_ls f z.toNatClampNeg := fun q => by have := (hM _).mp q; simp [] at this
      have hl := hnin hm
      have hd2 : ((1 : Int32)).toInt = ((own_ls f1020 z.toNatClampNeg).length : Int) := by rw [hl]; exact own_ju hd (Nat.lt_of_le_of_lt hle (by decide))
      exact J1 _ f1020 sz1021 _ OL O_b2 A_t A_b11 HQ1 HQ2 hsz2 hd2 (by omega) (fun x => (hM2 x).trans ((or_congr Iff.rfl (hM x)).trans List.mem_cons.symm)) hc121
  refine g_iloadN cx d0_65 rfl ?_
  refine g_bipush cx d0_66 (v := (8 : Int32)) rfl ?_
  refine g_iushr cx d0_68 ?_
  refine g_iconst cx d0_69 (v := (1 : Int32)) rfl ?_
  refine g_iand cx d0_70 ?_
  refine g_if_eq cx d0_71 (fun hc71 => ?_) (fun hc71 => ?_)
  · refine g_iloadN cx d0_82 rfl ?_
    refine g_bipush cx d0_83 (v := (9 : Int32)) rfl ?_
    refine g_iushr cx d0_85 ?_
    refine g_iconst cx d0_86 (v := (1 : Int32)) rfl ?_
    refine g_iand cx d0_87 ?_
    refine g_if_eq cx d0_88 (fun hc88 => ?_) (fun hc88 => ?_)
    · refine g_iloadN cx d0_99 rfl ?_
      refine g_bipush cx d0_100 (v := (10 : Int32)) rfl ?_
      refine g_iushr cx d0_102 ?_
      refine g_iconst cx d0_103 (v := (1 : Int32)) rfl ?_
      refine g_iand cx d0_104 ?_
      refine g_if_eq cx d0_105 (fun hc105 => ?_) (fun hc105 => ?_)
      · exact J0 _ _ _ _ _ (fun _ => own_E) _ (own_nE _) (own_nE _) (own_nE _) (own_nE _) OL O_b2 A_t A_b11 own_pr0 own_ij0 (by rw [own_ls_empty]; rfl) (by rw [own_ls_empty]; exact Nat.le_refl _) (fun x => by rw [own_ls_empty])
      · refine g_aload cx d0_108 rfl rfl ?_
        refine g_iconst cx d0_110 (v := (2 : Int32)) rfl ?_
        refine g_aload cx d0_111 rfl rfl ?_
        refine g_iconst cx d0_113 (v := (0 : Int32)) rfl ?_
        refine g_laload cx d0_114 A_b11.1 ⟨by decide, by decide⟩ (v := (.long (ja &&& (9223372036854775807 : Int64)))) rfl ?_
        refine g_lastore cx d0_115 A_b11 ⟨by decide, by decide⟩ (Nat.le_of_ble_eq_true rfl) g_b11 (fun h28 W29 AA30 => ?_)
        have O_b2 := O_b2.oth W29 ne_b2_b11
        have A_t := A_t.other W29 ne_t_b11
        have A_b11 : Arx Z h28 b11 cA12 .long (4 : Int32) [(.long (ja &&& (9223372036854775807 : Int64))), (.long (jb &&& (9223372036854775807 : Int64))), (.long (ja &&& (9223372036854775807 : Int64))), (.long (jd &&& (9223372036854775807 : Int64)))] (.long (0 : Int64)) "[J" := AA30
        have OL := OL.wr W29 g_b11
        exact J0 _ _ _ _ _ (fun _ => own_E) _ (own_nE _) (own_nE _) (own_nE _) (own_nE _) OL O_b2 A_t A_b11 own_pr0 own_ij0 (by rw [own_ls_empty]; rfl) (by rw [own_ls_empty]; exact Nat.le_refl _) (fun x => by rw [own_ls_empty])
    · refine g_aload cx d0_91 rfl rfl ?_
      refine g_iconst cx d0_93 (v := (3 : Int32)) rfl ?_
      refine g_aload cx d0_94 rfl rfl ?_
      refine g_iconst cx d0_96 (v := (2 : Int32)) rfl ?_
      refine g_laload cx d0_97 A_b11.1 ⟨by decide, by decide⟩ (v := (.long (jc &&& (9223372036854775807 : Int64)))) rfl ?_
      refine g_lastore cx d0_98 A_b11 ⟨by decide, by decide⟩ (Nat.le_of_ble_eq_true rfl) g_b11 (fun h31 W32 AA33 => ?_)
      have O_b2 := O_b2.oth W32 ne_b2_b11
      have A_t := A_t.other W32 ne_t_b11
      have A_b11 : Arx Z h31 b11 cA12 .long (4 : Int32) [(.long (ja &&& (9223372036854775807 : Int64))), (.long (jb &&& (9223372036854775807 : Int64))), (.long (jc &&& (9223372036854775807 : Int64))), (.long (jc &&& (9223372036854775807 : Int64)))] (.long (0 : Int64)) "[J" := AA33
      have OL := OL.wr W32 g_b11
      refine g_iloadN cx d0_99 rfl ?_
      refine g_bipush cx d0_100 (v := (10 : Int32)) rfl ?_
      refine g_iushr cx d0_102 ?_
      refine g_iconst cx d0_103 (v := (1 : Int32)) rfl ?_
      refine g_iand cx d0_104 ?_
      refine g_if_eq cx d0_105 (fun hc105 => ?_) (fun hc105 => ?_)
      · exact J0 _ _ _ _ _ (fun _ => own_E) _ (own_nE _) (own_nE _) (own_nE _) (own_nE _) OL O_b2 A_t A_b11 own_pr0 own_ij0 (by rw [own_ls_empty]; rfl) (by rw [own_ls_empty]; exact Nat.le_refl _) (fun x => by rw [own_ls_empty])
      · refine g_aload cx d0_108 rfl rfl ?_
        refine g_iconst cx d0_110 (v := (2 : Int32)) rfl ?_
        refine g_aload cx d0_111 rfl rfl ?_
        refine g_iconst cx d0_113 (v := (0 : Int32)) rfl ?_
        refine g_laload cx d0_114 A_b11.1 ⟨by decide, by decide⟩ (v := (.long (ja &&& (9223372036854775807 : Int64)))) rfl ?_
        refine g_lastore cx d0_115 A_b11 ⟨by decide, by decide⟩ (Nat.le_of_ble_eq_true rfl) g_b11 (fun h34 W35 AA36 => ?_)
        have O_b2 := O_b2.oth W35 ne_b2_b11
        have A_t := A_t.other W35 ne_t_b11
        have A_b11 : Arx Z h34 b11 cA12 .long (4 : Int32) [(.long (ja &&& (9223372036854775807 : Int64))), (.long (jb &&& (9223372036854775807 : Int64))), (.long (ja &&& (9223372036854775807 : Int64))), (.long (jc &&& (9223372036854775807 : Int64)))] (.long (0 : Int64)) "[J" := AA36
        have OL := OL.wr W35 g_b11
        exact J0 _ _ _ _ _ (fun _ => own_E) _ (own_nE _) (own_nE _) (own_nE _) (own_nE _) OL O_b2 A_t A_b11 own_pr0 own_ij0 (by rw [own_ls_empty]; rfl) (by rw [own_ls_empty]; exact Nat.le_refl _) (fun x => by rw [own_ls_empty])
  · refine g_aload cx d0_74 rfl rfl ?_
    refine g_iconst cx d0_76 (v := (1 : Int32)) rfl ?_
    refine g_aload cx d0_77 rfl rfl ?_
    refine g_iconst cx d0_79 (v := (0 : Int32)) rfl ?_
    refine g_laload cx d0_80 A_b11.1 ⟨by decide, by decide⟩ (v := (.long (ja &&& (9223372036854775807 : Int64)))) rfl ?_
    refine g_lastore cx d0_81 A_b11 ⟨by decide, by decide⟩ (Nat.le_of_ble_eq_true rfl) g_b11 (fun h37 W38 AA39 => ?_)
    have O_b2 := O_b2.oth W38 ne_b2_b11
    have A_t := A_t.other W38 ne_t_b11
    have A_b11 : Arx Z h37 b11 cA12 .long (4 : Int32) [(.long (ja &&& (9223372036854775807 : Int64))), (.long (ja &&& (9223372036854775807 : Int64))), (.long (jc &&& (9223372036854775807 : Int64))), (.long (jd &&& (9223372036854775807 : Int64)))] (.long (0 : Int64)) "[J" := AA39
    have OL := OL.wr W38 g_b11
    refine g_iloadN cx d0_82 rfl ?_
    refine g_bipush cx d0_83 (v := (9 : Int32)) rfl ?_
    refine g_iushr cx d0_85 ?_
    refine g_iconst cx d0_86 (v := (1 : Int32)) rfl ?_
    refine g_iand cx d0_87 ?_
    refine g_if_eq cx d0_88 (fun hc88 => ?_) (fun hc88 => ?_)
    · refine g_iloadN cx d0_99 rfl ?_
      refine g_bipush cx d0_100 (v := (10 : Int32)) rfl ?_
      refine g_iushr cx d0_102 ?_
      refine g_iconst cx d0_103 (v := (1 : Int32)) rfl ?_
      refine g_iand cx d0_104 ?_
      refine g_if_eq cx d0_105 (fun hc105 => ?_) (fun hc105 => ?_)
      · exact J0 _ _ _ _ _ (fun _ => own_E) _ (own_nE _) (own_nE _) (own_nE _) (own_nE _) OL O_b2 A_t A_b11 own_pr0 own_ij0 (by rw [own_ls_empty]; rfl) (by rw [own_ls_empty]; exact Nat.le_refl _) (fun x => by rw [own_ls_empty])
      · refine g_aload cx d0_108 rfl rfl ?_
        refine g_iconst cx d0_110 (v := (2 : Int32)) rfl ?_
        refine g_aload cx d0_111 rfl rfl ?_
        refine g_iconst cx d0_113 (v := (0 : Int32)) rfl ?_
        refine g_laload cx d0_114 A_b11.1 ⟨by decide, by decide⟩ (v := (.long (ja &&& (9223372036854775807 : Int64)))) rfl ?_
        refine g_lastore cx d0_115 A_b11 ⟨by decide, by decide⟩ (Nat.le_of_ble_eq_true rfl) g_b11 (fun h40 W41 AA42 => ?_)
        have O_b2 := O_b2.oth W41 ne_b2_b11
        have A_t := A_t.other W41 ne_t_b11
        have A_b11 : Arx Z h40 b11 cA12 .long (4 : Int32) [(.long (ja &&& (9223372036854775807 : Int64))), (.long (ja &&& (9223372036854775807 : Int64))), (.long (ja &&& (9223372036854775807 : Int64))), (.long (jd &&& (9223372036854775807 : Int64)))] (.long (0 : Int64)) "[J" := AA42
        have OL := OL.wr W41 g_b11
        exact J0 _ _ _ _ _ (fun _ => own_E) _ (own_nE _) (own_nE _) (own_nE _) (own_nE _) OL O_b2 A_t A_b11 own_pr0 own_ij0 (by rw [own_ls_empty]; rfl) (by rw [own_ls_empty]; exact Nat.le_refl _) (fun x => by rw [own_ls_empty])
    · refine g_aload cx d0_91 rfl rfl ?_
      refine g_iconst cx d0_93 (v := (3 : Int32)) rfl ?_
      refine g_aload cx d0_94 rfl rfl ?_
      refine g_iconst cx d0_96 (v := (2 : Int32)) rfl ?_
      refine g_laload cx d0_97 A_b11.1 ⟨by decide, by decide⟩ (v := (.long (jc &&& (9223372036854775807 : Int64)))) rfl ?_
      refine g_lastore cx d0_98 A_b11 ⟨by decide, by decide⟩ (Nat.le_of_ble_eq_true rfl) g_b11 (fun h43 W44 AA45 => ?_)
      have O_b2 := O_b2.oth W44 ne_b2_b11
      have A_t := A_t.other W44 ne_t_b11
      have A_b11 : Arx Z h43 b11 cA12 .long (4 : Int32) [(.long (ja &&& (9223372036854775807 : Int64))), (.long (ja &&& (9223372036854775807 : Int64))), (.long (jc &&& (9223372036854775807 : Int64))), (.long (jc &&& (9223372036854775807 : Int64)))] (.long (0 : Int64)) "[J" := AA45
      have OL := OL.wr W44 g_b11
      refine g_iloadN cx d0_99 rfl ?_
      refine g_bipush cx d0_100 (v := (10 : Int32)) rfl ?_
      refine g_iushr cx d0_102 ?_
      refine g_iconst cx d0_103 (v := (1 : Int32)) rfl ?_
      refine g_iand cx d0_104 ?_
      refine g_if_eq cx d0_105 (fun hc105 => ?_) (fun hc105 => ?_)
      · exact J0 _ _ _ _ _ (fun _ => own_E) _ (own_nE _) (own_nE _) (own_nE _) (own_nE _) OL O_b2 A_t A_b11 own_pr0 own_ij0 (by rw [own_ls_empty]; rfl) (by rw [own_ls_empty]; exact Nat.le_refl _) (fun x => by rw [own_ls_empty])
      · refine g_aload cx d0_108 rfl rfl ?_
        refine g_iconst cx d0_110 (v := (2 : Int32)) rfl ?_
        refine g_aload cx d0_111 rfl rfl ?_
        refine g_iconst cx d0_113 (v := (0 : Int32)) rfl ?_
        refine g_laload cx d0_114 A_b11.1 ⟨by decide, by decide⟩ (v := (.long (ja &&& (9223372036854775807 : Int64)))) rfl ?_
        refine g_lastore cx d0_115 A_b11 ⟨by decide, by decide⟩ (Nat.le_of_ble_eq_true rfl) g_b11 (fun h46 W47 AA48 => ?_)
        have O_b2 := O_b2.oth W47 ne_b2_b11
        have A_t := A_t.other W47 ne_t_b11
        have A_b11 : Arx Z h46 b11 cA12 .long (4 : Int32) [(.long (ja &&& (9223372036854775807 : Int64))), (.long (ja &&& (9223372036854775807 : Int64))), (.long (ja &&& (9223372036854775807 : Int64))), (.long (jc &&& (9223372036854775807 : Int64)))] (.long (0 : Int64)) "[J" := AA48
        have OL := OL.wr W47 g_b11
        exact J0 _ _ _ _ _ (fun _ => own_E) _ (own_nE _) (own_nE _) (own_nE _) (own_nE _) OL O_b2 A_t A_b11 own_pr0 own_ij0 (by rw [own_ls_empty]; rfl) (by rw [own_ls_empty]; exact Nat.le_refl _) (fun x => by rw [own_ls_empty])
set_option maxRecDepth 65536 in
set_option maxHeartbeats 40000000 in
theorem comes_1 {Post : Tables → Env → Array Value → State → Outcome → State → Prop} (hpost : ∀ tb e args s v u, (limb_1_1.after args s (.returned v) u = true ∧ limb_1_2.after args s (.returned v) u = true ∧ True) → FrameEnd s (.returned v) u (Jvm.fieldLocs frame_1_writes args s ++ Jvm.arrayLocs frame_1_arrays args s ++ Jvm.staticLocs frame_1_statics s) 24 384 → Post tb e args s (.returned v) u) :
    ArmFor flags0 classFile x code maxLocals ret World_1 tables_1 room_1 Calls_1 rest_1 Pre_1 Post := by
  intro l hfl _ _ p e ha hc hk s m args below hf hA hF happ hP
  obtain ⟨hcalls, hrest, hpre⟩ := hP
  obtain ⟨-, -, -, hnamed, -, -, -, hat⟩ := (Spec.applies_iff hf).mp happ
  obtain ⟨hg, hn⟩ := and_e (Cond.before_iff.mp (show (Jvm.Cond.and given_1 narrow_1).before args s = true from hpre))
  obtain ⟨g1, g2⟩ := and_e hg
  obtain ⟨g3, g4⟩ := and_e g2
  obtain ⟨g5, g6⟩ := and_e g4
  obtain ⟨g7, g8⟩ := and_e g6
  obtain ⟨g9, g10⟩ := and_e g8
  obtain ⟨g11, g12⟩ := and_e g10
  obtain ⟨w0, w1, w2, w3, w4, w5, rfl⟩ : ∃ w0 w1 w2 w3 w4 w5 : Value, args = #[w0, w1, w2, w3, w4, w5] := by
    have hs : args.size = 6 := by simpa [Cond.value, given_1] using g1
    obtain ⟨L⟩ := args
    match L, hs with
    | [w0, w1, w2, w3, w4, w5], _ => exact ⟨w0, w1, w2, w3, w4, w5, rfl⟩
  have hw := fun d (hd : d ∈ tables_1) => atoms_spec (ws := Jvm.Cond.code x code maxLocals ret :: tables_1) hat d (List.mem_cons_of_mem _ hd)
  have hfit : Fit s := fun {y c} hc i hi => by
    obtain ⟨ha, rfl⟩ := Array.getElem?_eq_some_iff.mp hc
    have q := List.all_eq_true.mp ((Array.all_eq_true_iff_forall_mem.mp hF) _ (Array.getElem_mem ha)) i (List.mem_range.mpr hi)
    simpa [Array.getElem?_eq_getElem hi] using q
  obtain ⟨i0, ei0⟩ := is_v g3
  obtain rfl : w0 = (.int i0) := Option.some.inj ei0
  obtain ⟨i1, ei1⟩ := is_v g5
  obtain rfl : w1 = (.int i1) := Option.some.inj ei1
  obtain ⟨i2, ei2⟩ := isL_v g7
  obtain rfl : w2 = (.long i2) := Option.some.inj ei2
  obtain ⟨i3, ei3⟩ := isL_v g9
  obtain rfl : w3 = (.long i3) := Option.some.inj ei3
  obtain ⟨i4, ei4⟩ := isL_v g11
  obtain rfl : w4 = (.long i4) := Option.some.inj ei4
  obtain ⟨i5, ei5⟩ := isL_v g12
  obtain rfl : w5 = (.long i5) := Option.some.inj ei5
  obtain ⟨n, o, h1, h2, h3, _, L, rfl, ⟨rfl, N⟩, hq⟩ := rm0 l s _ hw i0 i1 i2 i3 i4 i5 s.heap (Old.start s) tables_1 p e ha hc hk s m _ below hf ((Spec.applies_iff_loose hf).mp happ).1 ⟨rfl, State.Warmed39.refl s, rfl⟩ trivial
  refine ⟨n, _, h1, h2, h3, hpost _ _ _ _ _ _ ⟨Cond.after_iff.mpr rfl, Cond.after_iff.mpr (eq_i res_at (Term.int_eval (1)) rfl), trivial⟩ ⟨hq.1, hq.2.1, (hq.2.2.sift fun y hy => Or.inr (N y hy)).mono (by decide) (by decide)⟩⟩
theorem main_1_1 : Claimed_1_1 := comes_1 fun _ _ _ _ _ _ h hF => ⟨h.1, hF⟩
theorem main_1_2 : Claimed_1_2 := comes_1 fun _ _ _ _ _ _ h hF => ⟨h.2.1, hF⟩
end Jvm.Pilot.@@N@@
namespace Jvm.Pilot.@@N@@
open Jvm Jvm.ClassFile Sem Op Lib Jvm.Free Jvm.Stand Jvm.Pilot.@@N@@.Jvm.D
/-! MADE BY PROGRAM (witnessworld.py) out of the Statement's table words and the real class files: 18 classes; the members and pool entries that the words name. The judged class is class 1, her method 1. -/
namespace start1
open Jvm.ClassFile
def u (s : String) : CpInfo := .utf8 (stringToUtf16 s)
/-- a pool by its gaps: so many unusable entries, then the entry; so many at the end -/
def gap : Nat → List CpInfo → List CpInfo
  | 0, r => r
  | n + 1, r => .unusable :: gap n r
def poolList (es : List (Nat × CpInfo)) (last : Nat) : List CpInfo := es.foldr (fun e r => gap e.1 (e.2 :: r)) (gap last [])
def pool (es : List (Nat × CpInfo)) (last : Nat) : Array CpInfo := ⟨poolList es last⟩
def fileOf (pool : Array CpInfo) (this : Nat) (attrs : Array Attribute := #[]) (ms : Array MethodInfo := #[]) (fl : Nat := 33) (sup : Nat := 0) (ifs : Array Nat := #[]) (fds : Array FieldInfo := #[]) : ClassFile where
  minorVersion := 0
  majorVersion := 65
  constantPool := pool
  accessFlags := fl
  thisClass := this
  superClass := sup
  interfaces := ifs
  fields := fds
  methods := ms
  attributes := attrs
def plain (name : String) (sup : Option ClassId) : Class where
  name := name
  kind := .ordinary
  loader := none
  accessFlags := 33
  super := sup
  interfaces := #[]
  cf := none
  fields := #[]
  methods := #[]
  instanceTypes := #[]
  staticTypes := #[]
  resolved := #[]
  callSites := []
  init := .initialized
  statics := none
  mirror := none

def pool0 : Array CpInfo := pool [(5, u "<init>"), (0, u "()V"), (1, .class_ 10), (1, u "java/lang/Object")] 113

def k0c0 : Code := { maxStack := 0, maxLocals := 1, code := object_method_1_code, exceptionTable := #[], attributes := #[] }
def k0m0 : Method := { name := "<init>", desc := "()V", sig := { parameters := [], returnType := none }, accessFlags := 1, code := some k0c0 }
/-- java/lang/Object -/
def k0 : Class := { plain "java/lang/Object" none with
  accessFlags := 33
  interfaces := #[]
  cf := some (fileOf pool0 8 #[] #[{ accessFlags := 1, nameIndex := 5, descriptorIndex := 6, attributes := #[] }] 33 0 #[] #[])
  fields := #[]
  methods := #[k0m0]
  instanceTypes := #[]
  staticTypes := #[]
  resolved := Array.replicate 124 none
  statics := none }

def pool1 : Array CpInfo := pool [(2, .class_ 4), (1, u "java/lang/Object"), (0, u "<init>"), (0, u "()V"), (0, .class_ 8), (0, u "com/example/gridsmith/gridsmith/LongSet"), (0, .methodref 7 10), (0, .nameAndType 5 11), (0, u "(I)V"), (0, .integer 2147483647), (2, .long 9223372036854775807), (1, .methodref 7 18), (0, .nameAndType 19 20), (0, u "add"), (0, u "(J)Z"), (0, .methodref 7 22), (0, .nameAndType 23 24), (0, u "toArray"), (0, u "()[J"), (0, .methodref 7 26), (0, .nameAndType 27 28), (0, u "size"), (0, u "()I"), (0, .methodref 30 31), (0, .class_ 32), (0, .nameAndType 33 34), (0, u "com/example/gridsmith/gridsmith/LongSetToArrayPinLaw"), (0, u "has"), (0, u "([JJ)Z"), (0, .methodref 30 36), (0, .nameAndType 37 38), (0, u "among"), (0, u "([JIJ)Z"), (0, .methodref 30 40), (0, .nameAndType 41 42), (0, u "allDistinct"), (0, u "([J)Z"), (2, u "law"), (0, u "(IIJJJJ)Z")] 5

def k1m0 : Method := { name := "<init>", desc := "()V", sig := { parameters := [], returnType := none }, accessFlags := 1, code := none }
def k1c1 : Code := { maxStack := 6, maxLocals := 16, code := code, exceptionTable := #[], attributes := #[] }
def k1m1 : Method := { name := "law", desc := "(IIJJJJ)Z", sig := { parameters := [.int, .int, .long, .long, .long, .long], returnType := some .boolean }, accessFlags := 9, code := some k1c1 }
def k1c2 : Code := { maxStack := 4, maxLocals := 3, code := method_3_code, exceptionTable := #[], attributes := #[] }
def k1m2 : Method := { name := "has", desc := "([JJ)Z", sig := { parameters := [(.array .long), .long], returnType := some .boolean }, accessFlags := 10, code := some k1c2 }
def k1c3 : Code := { maxStack := 4, maxLocals := 4, code := method_4_code, exceptionTable := #[], attributes := #[] }
def k1m3 : Method := { name := "among", desc := "([JIJ)Z", sig := { parameters := [(.array .long), .int, .long], returnType := some .boolean }, accessFlags := 10, code := some k1c3 }
def k1c4 : Code := { maxStack := 4, maxLocals := 2, code := method_5_code, exceptionTable := #[], attributes := #[] }
def k1m4 : Method := { name := "allDistinct", desc := "([J)Z", sig := { parameters := [(.array .long)], returnType := some .boolean }, accessFlags := 10, code := some k1c4 }
/-- com/example/gridsmith/gridsmith/LongSetToArrayPinLaw -/
def k1 : Class := { plain "com/example/gridsmith/gridsmith/LongSetToArrayPinLaw" (some 0) with
  accessFlags := 49
  interfaces := #[]
  cf := some (fileOf pool1 30 #[] #[{ accessFlags := 1, nameIndex := 5, descriptorIndex := 6, attributes := #[] }, { accessFlags := 9, nameIndex := 45, descriptorIndex := 46, attributes := #[] }, { accessFlags := 10, nameIndex := 33, descriptorIndex := 34, attributes := #[] }, { accessFlags := 10, nameIndex := 37, descriptorIndex := 38, attributes := #[] }, { accessFlags := 10, nameIndex := 41, descriptorIndex := 42, attributes := #[] }] 49 2 #[] #[])
  fields := #[]
  methods := #[k1m0, k1m1, k1m2, k1m3, k1m4]
  instanceTypes := #[]
  staticTypes := #[]
  resolved := Array.replicate 52 none
  statics := none }

def pool2 : Array CpInfo := pool [(4, .class_ 6), (1, u "com/example/gridsmith/gridsmith/LongSet"), (0, u "<init>"), (0, u "(I)V"), (0, .methodref 10 11), (0, .class_ 12), (0, .nameAndType 7 13), (0, u "java/lang/Object"), (0, u "()V"), (0, .methodref 15 16), (0, .class_ 17), (0, .nameAndType 18 19), (0, u "java/lang/Math"), (0, u "max"), (0, u "(II)I"), (0, .methodref 21 22), (0, .class_ 23), (0, .nameAndType 24 25), (0, u "java/lang/Integer"), (0, u "highestOneBit"), (0, u "(I)I"), (0, .methodref 4 27), (0, .nameAndType 28 29), (0, u "newTable"), (0, u "(I)[J"), (0, .fieldref 4 31), (0, .nameAndType 32 33), (0, u "table"), (0, u "[J"), (0, .fieldref 4 35), (0, .nameAndType 36 37), (0, u "size"), (0, u "I"), (3, .methodref 4 42), (0, .nameAndType 43 44), (0, u "find"), (0, u "([JJ)I"), (0, .long 9223372036854775808), (7, .long 11400714819323198485), (1, .methodref 21 56), (0, .nameAndType 57 25), (0, u "numberOfTrailingZeros"), (0, .methodref 59 60), (0, .class_ 61), (0, .nameAndType 62 63), (0, u "java/util/Arrays"), (0, u "fill"), (0, u "([JJ)V"), (0, u "EMPTY"), (0, u "J"), (1, u "FIRST_CAPACITY"), (1, u "SPREAD"), (2, u "add"), (0, u "(J)Z"), (2, u "()I"), (3, u "toArray"), (0, u "()[J")] 2

def k2m0 : Method := { name := "<init>", desc := "()V", sig := { parameters := [], returnType := none }, accessFlags := 0, code := none }
def k2c1 : Code := { maxStack := 5, maxLocals := 2, code := prog_22_method_2_code, exceptionTable := #[], attributes := #[] }
def k2m1 : Method := { name := "<init>", desc := "(I)V", sig := { parameters := [.int], returnType := none }, accessFlags := 0, code := some k2c1 }
def k2c2 : Code := { maxStack := 4, maxLocals := 4, code := prog_22_method_3_code, exceptionTable := #[], attributes := #[] }
def k2m2 : Method := { name := "add", desc := "(J)Z", sig := { parameters := [.long], returnType := some .boolean }, accessFlags := 0, code := some k2c2 }
def k2c3 : Code := { maxStack := 1, maxLocals := 1, code := prog_22_method_5_code, exceptionTable := #[], attributes := #[] }
def k2m3 : Method := { name := "size", desc := "()I", sig := { parameters := [], returnType := some .int }, accessFlags := 0, code := some k2c3 }
def k2c4 : Code := { maxStack := 4, maxLocals := 8, code := prog_22_method_7_code, exceptionTable := #[], attributes := #[] }
def k2m4 : Method := { name := "toArray", desc := "()[J", sig := { parameters := [], returnType := some (.array .long) }, accessFlags := 0, code := some k2c4 }
def k2c5 : Code := { maxStack := 4, maxLocals := 5, code := prog_22_method_9_code, exceptionTable := #[], attributes := #[] }
def k2m5 : Method := { name := "find", desc := "([JJ)I", sig := { parameters := [(.array .long), .long], returnType := some .int }, accessFlags := 10, code := some k2c5 }
def k2c6 : Code := { maxStack := 3, maxLocals := 2, code := prog_22_method_10_code, exceptionTable := #[], attributes := #[] }
def k2m6 : Method := { name := "newTable", desc := "(I)[J", sig := { parameters := [.int], returnType := some (.array .long) }, accessFlags := 10, code := some k2c6 }
/-- com/example/gridsmith/gridsmith/LongSet -/
def k2 : Class := { plain "com/example/gridsmith/gridsmith/LongSet" (some 0) with
  accessFlags := 48
  interfaces := #[]
  cf := some (fileOf pool2 4 #[] #[{ accessFlags := 0, nameIndex := 7, descriptorIndex := 13, attributes := #[] }, { accessFlags := 0, nameIndex := 7, descriptorIndex := 8, attributes := #[] }, { accessFlags := 0, nameIndex := 72, descriptorIndex := 73, attributes := #[] }, { accessFlags := 0, nameIndex := 36, descriptorIndex := 76, attributes := #[] }, { accessFlags := 0, nameIndex := 80, descriptorIndex := 81, attributes := #[] }, { accessFlags := 10, nameIndex := 43, descriptorIndex := 44, attributes := #[] }, { accessFlags := 10, nameIndex := 28, descriptorIndex := 29, attributes := #[] }] 48 10 #[] #[{ accessFlags := 26, nameIndex := 64, descriptorIndex := 65, attributes := #[] }, { accessFlags := 26, nameIndex := 67, descriptorIndex := 37, attributes := #[] }, { accessFlags := 26, nameIndex := 69, descriptorIndex := 65, attributes := #[] }, { accessFlags := 2, nameIndex := 32, descriptorIndex := 33, attributes := #[] }, { accessFlags := 2, nameIndex := 36, descriptorIndex := 37, attributes := #[] }])
  fields := #[{ name := "EMPTY", type := .long, accessFlags := 26, slot := 0, constantValue := 0 }, { name := "FIRST_CAPACITY", type := .int, accessFlags := 26, slot := 1, constantValue := 0 }, { name := "SPREAD", type := .long, accessFlags := 26, slot := 2, constantValue := 0 }, { name := "table", type := (.array .long), accessFlags := 2, slot := 0, constantValue := 0 }, { name := "size", type := .int, accessFlags := 2, slot := 1, constantValue := 0 }]
  methods := #[k2m0, k2m1, k2m2, k2m3, k2m4, k2m5, k2m6]
  instanceTypes := #[(.array .long), .int]
  staticTypes := #[.long, .int, .long]
  resolved := Array.replicate 84 none
  statics := none }

def pool3 : Array CpInfo := pool [(1, .class_ 2), (0, u "java/lang/Math"), (1, .class_ 6), (1, u "java/lang/Object"), (0, u "<init>"), (0, u "()V"), (89, .class_ 100), (1, u "java/lang/Math$RandomNumberGeneratorHolder"), (71, u "negativeZeroFloatBits"), (0, u "J"), (2, u "negativeZeroDoubleBits"), (21, u "max"), (46, u "$assertionsDisabled"), (0, u "Z"), (88, u "(II)I"), (2, u "twoToTheDoubleScaleDown"), (0, u "D"), (4, u "twoToTheDoubleScaleUp"), (9, u "E"), (3, u "PI"), (2, u "TAU"), (2, u "DEGREES_TO_RADIANS"), (0, u "RADIANS_TO_DEGREES")] 94

def k3m0 : Method := { name := "<init>", desc := "()V", sig := { parameters := [], returnType := none }, accessFlags := 2, code := none }
def k3c1 : Code := { maxStack := 2, maxLocals := 2, code := jdk_29_method_65_code, exceptionTable := #[], attributes := #[] }
def k3m1 : Method := { name := "max", desc := "(II)I", sig := { parameters := [.int, .int], returnType := some .int }, accessFlags := 9, code := some k3c1 }
/-- java/lang/Math -/
def k3 : Class := { plain "java/lang/Math" (some 0) with
  accessFlags := 49
  interfaces := #[]
  cf := some (fileOf pool3 1 #[.nestMembers #[98]] #[{ accessFlags := 2, nameIndex := 7, descriptorIndex := 8, attributes := #[] }, { accessFlags := 9, nameIndex := 198, descriptorIndex := 335, attributes := #[] }] 49 4 #[] #[{ accessFlags := 25, nameIndex := 354, descriptorIndex := 339, attributes := #[] }, { accessFlags := 25, nameIndex := 358, descriptorIndex := 339, attributes := #[] }, { accessFlags := 25, nameIndex := 361, descriptorIndex := 339, attributes := #[] }, { accessFlags := 26, nameIndex := 364, descriptorIndex := 339, attributes := #[] }, { accessFlags := 26, nameIndex := 365, descriptorIndex := 339, attributes := #[] }, { accessFlags := 26, nameIndex := 172, descriptorIndex := 173, attributes := #[] }, { accessFlags := 26, nameIndex := 176, descriptorIndex := 173, attributes := #[] }, { accessFlags := 8, nameIndex := 344, descriptorIndex := 339, attributes := #[] }, { accessFlags := 8, nameIndex := 338, descriptorIndex := 339, attributes := #[] }, { accessFlags := 4120, nameIndex := 245, descriptorIndex := 246, attributes := #[] }])
  fields := #[{ name := "E", type := .double, accessFlags := 25, slot := 0, constantValue := 0 }, { name := "PI", type := .double, accessFlags := 25, slot := 1, constantValue := 0 }, { name := "TAU", type := .double, accessFlags := 25, slot := 2, constantValue := 0 }, { name := "DEGREES_TO_RADIANS", type := .double, accessFlags := 26, slot := 3, constantValue := 0 }, { name := "RADIANS_TO_DEGREES", type := .double, accessFlags := 26, slot := 4, constantValue := 0 }, { name := "negativeZeroFloatBits", type := .long, accessFlags := 26, slot := 5, constantValue := 0 }, { name := "negativeZeroDoubleBits", type := .long, accessFlags := 26, slot := 6, constantValue := 0 }, { name := "twoToTheDoubleScaleUp", type := .double, accessFlags := 8, slot := 7, constantValue := 0 }, { name := "twoToTheDoubleScaleDown", type := .double, accessFlags := 8, slot := 8, constantValue := 0 }, { name := "$assertionsDisabled", type := .boolean, accessFlags := 4120, slot := 9, constantValue := 0 }]
  methods := #[k3m0, k3m1]
  instanceTypes := #[]
  staticTypes := #[.double, .double, .double, .double, .double, .long, .long, .double, .double, .boolean]
  resolved := Array.replicate 460 none
  statics := none }

def pool4 : Array CpInfo := pool [(1, .class_ 2), (0, u "java/io/Serializable"), (0, .class_ 4), (0, u "java/lang/Object")] 2

/-- java/io/Serializable -/
def k4 : Class := { plain "java/io/Serializable" (some 0) with
  accessFlags := 1537
  interfaces := #[]
  cf := some (fileOf pool4 1 #[] #[] 1537 3 #[] #[])
  fields := #[]
  methods := #[]
  instanceTypes := #[]
  staticTypes := #[]
  resolved := Array.replicate 7 none
  statics := none }

def pool5 : Array CpInfo := pool [(2, .class_ 4), (1, u "java/lang/Object"), (0, u "<init>"), (0, u "()V"), (1, .class_ 10), (1, u "java/lang/Number"), (2, .class_ 14), (0, u "java/io/Serializable"), (0, u "serialVersionUID"), (0, u "J")] 20

def k5m0 : Method := { name := "<init>", desc := "()V", sig := { parameters := [], returnType := none }, accessFlags := 1, code := none }
/-- java/lang/Number -/
def k5 : Class := { plain "java/lang/Number" (some 0) with
  accessFlags := 1057
  interfaces := #[4]
  cf := some (fileOf pool5 8 #[] #[{ accessFlags := 1, nameIndex := 5, descriptorIndex := 6, attributes := #[] }] 1057 2 #[13] #[{ accessFlags := 26, nameIndex := 15, descriptorIndex := 16, attributes := #[] }])
  fields := #[{ name := "serialVersionUID", type := .long, accessFlags := 26, slot := 0, constantValue := 0 }]
  methods := #[k5m0]
  instanceTypes := #[]
  staticTypes := #[.long]
  resolved := Array.replicate 37 none
  statics := none }

def pool6 : Array CpInfo := pool [(1, .class_ 2), (0, u "java/lang/Comparable"), (0, .class_ 4), (0, u "java/lang/Object")] 7

/-- java/lang/Comparable -/
def k6 : Class := { plain "java/lang/Comparable" (some 0) with
  accessFlags := 1537
  interfaces := #[]
  cf := some (fileOf pool6 1 #[] #[] 1537 3 #[] #[])
  fields := #[]
  methods := #[]
  instanceTypes := #[]
  staticTypes := #[]
  resolved := Array.replicate 12 none
  statics := none }

def pool7 : Array CpInfo := pool [(1, .class_ 2), (0, u "java/lang/constant/Constable"), (0, .class_ 4), (0, u "java/lang/Object")] 6

/-- java/lang/constant/Constable -/
def k7 : Class := { plain "java/lang/constant/Constable" (some 0) with
  accessFlags := 1537
  interfaces := #[]
  cf := some (fileOf pool7 1 #[] #[] 1537 3 #[] #[])
  fields := #[]
  methods := #[]
  instanceTypes := #[]
  staticTypes := #[]
  resolved := Array.replicate 11 none
  statics := none }

def pool8 : Array CpInfo := pool [(1, .class_ 2), (0, u "java/lang/constant/ConstantDesc"), (0, .class_ 4), (0, u "java/lang/Object")] 32

/-- java/lang/constant/ConstantDesc -/
def k8 : Class := { plain "java/lang/constant/ConstantDesc" (some 0) with
  accessFlags := 1537
  interfaces := #[]
  cf := some (fileOf pool8 1 #[] #[] 1537 3 #[] #[])
  fields := #[]
  methods := #[]
  instanceTypes := #[]
  staticTypes := #[]
  resolved := Array.replicate 37 none
  statics := none }

def pool9 : Array CpInfo := pool [(1, .class_ 2), (0, u "java/lang/Integer"), (16, u "digits"), (0, u "[C"), (30, .methodref 1 52), (0, .nameAndType 53 54), (0, u "numberOfLeadingZeros"), (0, u "(I)I"), (30, u "DigitOnes"), (0, u "[B"), (2, u "DigitTens"), (37, .integer 2147483648), (61, .class_ 190), (0, u "java/lang/Integer$IntegerCache"), (3, u "I"), (8, .class_ 204), (0, u "java/lang/Number"), (2, u "value"), (56, .integer 65536), (37, u "TYPE"), (0, u "Ljava/lang/Class;"), (0, .class_ 305), (0, u "java/lang/Comparable"), (0, .class_ 307), (0, u "java/lang/constant/Constable"), (0, .class_ 309), (0, u "java/lang/constant/ConstantDesc"), (0, u "MIN_VALUE"), (1, u "MAX_VALUE"), (3, u "SIZE"), (1, u "BYTES"), (1, u "serialVersionUID"), (0, u "J"), (81, u "highestOneBit"), (2, u "numberOfTrailingZeros")] 46

def k9c0 : Code := { maxStack := 3, maxLocals := 1, code := jdk_33_method_45_code, exceptionTable := #[], attributes := #[] }
def k9m0 : Method := { name := "highestOneBit", desc := "(I)I", sig := { parameters := [.int], returnType := some .int }, accessFlags := 9, code := some k9c0 }
def k9c1 : Code := { maxStack := 3, maxLocals := 2, code := jdk_33_method_47_code, exceptionTable := #[], attributes := #[] }
def k9m1 : Method := { name := "numberOfLeadingZeros", desc := "(I)I", sig := { parameters := [.int], returnType := some .int }, accessFlags := 9, code := some k9c1 }
def k9c2 : Code := { maxStack := 3, maxLocals := 2, code := jdk_33_method_48_code, exceptionTable := #[], attributes := #[] }
def k9m2 : Method := { name := "numberOfTrailingZeros", desc := "(I)I", sig := { parameters := [.int], returnType := some .int }, accessFlags := 9, code := some k9c2 }
/-- java/lang/Integer -/
def k9 : Class := { plain "java/lang/Integer" (some 5) with
  accessFlags := 49
  interfaces := #[6, 7, 8]
  cf := some (fileOf pool9 1 #[.nestMembers #[189]] #[{ accessFlags := 9, nameIndex := 403, descriptorIndex := 54, attributes := #[] }, { accessFlags := 9, nameIndex := 53, descriptorIndex := 54, attributes := #[] }, { accessFlags := 9, nameIndex := 406, descriptorIndex := 54, attributes := #[] }] 49 203 #[304, 306, 308] #[{ accessFlags := 25, nameIndex := 310, descriptorIndex := 194, attributes := #[] }, { accessFlags := 25, nameIndex := 312, descriptorIndex := 194, attributes := #[] }, { accessFlags := 25, nameIndex := 302, descriptorIndex := 303, attributes := #[] }, { accessFlags := 24, nameIndex := 19, descriptorIndex := 20, attributes := #[] }, { accessFlags := 24, nameIndex := 89, descriptorIndex := 86, attributes := #[] }, { accessFlags := 24, nameIndex := 85, descriptorIndex := 86, attributes := #[] }, { accessFlags := 18, nameIndex := 207, descriptorIndex := 194, attributes := #[] }, { accessFlags := 25, nameIndex := 316, descriptorIndex := 194, attributes := #[] }, { accessFlags := 25, nameIndex := 318, descriptorIndex := 194, attributes := #[] }, { accessFlags := 26, nameIndex := 320, descriptorIndex := 321, attributes := #[] }])
  fields := #[{ name := "MIN_VALUE", type := .int, accessFlags := 25, slot := 0, constantValue := 0 }, { name := "MAX_VALUE", type := .int, accessFlags := 25, slot := 1, constantValue := 0 }, { name := "TYPE", type := (.object "java/lang/Class"), accessFlags := 25, slot := 2, constantValue := 0 }, { name := "digits", type := (.array .char), accessFlags := 24, slot := 3, constantValue := 0 }, { name := "DigitTens", type := (.array .byte), accessFlags := 24, slot := 4, constantValue := 0 }, { name := "DigitOnes", type := (.array .byte), accessFlags := 24, slot := 5, constantValue := 0 }, { name := "value", type := .int, accessFlags := 18, slot := 0, constantValue := 0 }, { name := "SIZE", type := .int, accessFlags := 25, slot := 6, constantValue := 0 }, { name := "BYTES", type := .int, accessFlags := 25, slot := 7, constantValue := 0 }, { name := "serialVersionUID", type := .long, accessFlags := 26, slot := 8, constantValue := 0 }]
  methods := #[k9m0, k9m1, k9m2]
  instanceTypes := #[.int]
  staticTypes := #[.int, .int, (.object "java/lang/Class"), (.array .char), (.array .byte), (.array .byte), .int, .int, .long]
  resolved := Array.replicate 453 none
  statics := none }

def pool10 : Array CpInfo := pool [(2, .class_ 4), (1, u "java/lang/Object"), (0, u "<init>"), (0, u "()V"), (7, .class_ 16), (1, u "java/util/Arrays"), (57, .class_ 76), (1, u "java/util/Arrays$NaturalOrder"), (36, .class_ 115), (1, u "java/util/Arrays$LegacyMergeSort"), (1, u "Z"), (257, .class_ 376), (0, u "java/util/Arrays$ArrayList"), (68, u "$assertionsDisabled"), (269, u "MIN_ARRAY_SORT_GRAN"), (0, u "I"), (2, u "INSERTIONSORT_THRESHOLD"), (120, u "fill"), (0, u "([JJ)V"), (133, .class_ 976), (0, u "java/util/Arrays$ArrayItr")] 52

def k10m0 : Method := { name := "<init>", desc := "()V", sig := { parameters := [], returnType := none }, accessFlags := 2, code := none }
def k10c1 : Code := { maxStack := 4, maxLocals := 5, code := jdk_65_method_101_code, exceptionTable := #[], attributes := #[] }
def k10m1 : Method := { name := "fill", desc := "([JJ)V", sig := { parameters := [(.array .long), .long], returnType := none }, accessFlags := 9, code := some k10c1 }
/-- java/util/Arrays -/
def k10 : Class := { plain "java/util/Arrays" (some 0) with
  accessFlags := 49
  interfaces := #[]
  cf := some (fileOf pool10 14 #[.nestMembers #[975, 375, 113, 74]] #[{ accessFlags := 2, nameIndex := 5, descriptorIndex := 6, attributes := #[] }, { accessFlags := 9, nameIndex := 840, descriptorIndex := 841, attributes := #[] }] 49 2 #[] #[{ accessFlags := 26, nameIndex := 715, descriptorIndex := 716, attributes := #[] }, { accessFlags := 26, nameIndex := 719, descriptorIndex := 716, attributes := #[] }, { accessFlags := 4120, nameIndex := 445, descriptorIndex := 117, attributes := #[] }])
  fields := #[{ name := "MIN_ARRAY_SORT_GRAN", type := .int, accessFlags := 26, slot := 0, constantValue := 0 }, { name := "INSERTIONSORT_THRESHOLD", type := .int, accessFlags := 26, slot := 1, constantValue := 0 }, { name := "$assertionsDisabled", type := .boolean, accessFlags := 4120, slot := 2, constantValue := 0 }]
  methods := #[k10m0, k10m1]
  instanceTypes := #[]
  staticTypes := #[.int, .int, .boolean]
  resolved := Array.replicate 1029 none
  statics := none }

def pool11 : Array CpInfo := pool [(1, u "java/lang/Cloneable"), (0, .class_ 1), (0, u "java/lang/Object"), (0, .class_ 3)] 3

/-- java/lang/Cloneable -/
def k11 : Class := { plain "java/lang/Cloneable" (some 0) with
  accessFlags := 1537
  interfaces := #[]
  cf := some (fileOf pool11 2 #[] #[] 1537 4 #[] #[])
  fields := #[]
  methods := #[]
  instanceTypes := #[]
  staticTypes := #[]
  resolved := Array.replicate 8 none
  statics := none }

/-- the primitive byte -/
def k12 : Class := { plain "byte" none with kind := .primitive 'B', accessFlags := 0x411 }
/-- [B -/
def k13 : Class := { plain "[B" (some 0) with kind := .array 12 .byte, interfaces := #[11, 4], accessFlags := 1041 }

/-- the primitive int -/
def k14 : Class := { plain "int" none with kind := .primitive 'I', accessFlags := 0x411 }
/-- [I -/
def k15 : Class := { plain "[I" (some 0) with kind := .array 14 .int, interfaces := #[11, 4], accessFlags := 1041 }

/-- the primitive long -/
def k16 : Class := { plain "long" none with kind := .primitive 'J', accessFlags := 0x411 }
/-- [J -/
def k17 : Class := { plain "[J" (some 0) with kind := .array 16 .long, interfaces := #[11, 4], accessFlags := 1041 }

def heap : Heap := #[]
def classes : Array Class := #[k0, k1, k2, k3, k4, k5, k6, k7, k8, k9, k10, k11, k12, k13, k14, k15, k16, k17]
def interned : List (Array UInt16 × Addr) := []
def slotsUsed : Nat := 0
def theMethod : MethodId := ⟨1, 1⟩
def args0 : Array Value := #[.int 5, .int 7, .long 3, .long 9, .long 4, .long 1]
def aboutOver (below : List Frame) : State where
  vm := { classes := classes, interned := interned.toArray }
  heap := heap
  slotsUsed := slotsUsed
  threads := #[{ frames := .invoking theMethod args0 :: below }]
def below0 : List Frame := [.native { method := ⟨0, 0⟩, args := #[] }]
def about1 : State := aboutOver below0
def p0 : Program := .bare "" "" ""
def e0 : Env := launch0.env 0 0 0
theorem w_frames : about1.frames = Frame.invoking theMethod args0 :: below0 := rfl
set_option maxRecDepth 65536 in
theorem w_args : argsFit about1.vm theMethod args0 = true := by decide +kernel
set_option maxRecDepth 65536 in
theorem w_heap : heapFits about1 = true := by decide +kernel
set_option maxRecDepth 65536 in
theorem w_runnable : about1.curStatus? = some .runnable := by decide +kernel
set_option maxRecDepth 65536 in
theorem w_alone : about1.alone = true := by decide +kernel
set_option maxRecDepth 65536 in
theorem w_named : about1.methodNamed? x = some theMethod := by decide +kernel
set_option maxRecDepth 65536 in
theorem w_hears : about1.hears theMethod below0 = true := by decide +kernel
set_option maxRecDepth 65536 in
theorem w_ripe : about1.ripe theMethod args0 below0 = true := by decide +kernel
theorem w_running : about1.status = .running := rfl
set_option maxRecDepth 65536 in
theorem w_room : about1.hasRoom e0.platform room_1 = true :=
  launch0.hasRoom_least _ room_1 (by decide +kernel) (by decide +kernel) (by decide +kernel) (by decide +kernel) (by decide +kernel) (by decide +kernel)
theorem allAtoms_all (ts : List Jvm.Cond) (a : Array Jvm.Value) (st : Jvm.State) : (allAtoms ts).before a st = ts.all (fun c => c.before a st) := by
  induction ts with
  | nil => rfl
  | cons c t ih =>
    show (Jvm.Cond.and c (allAtoms t)).before a st = _
    rw [Jvm.Cond.before_and, ih, List.all_cons]
def words1 : List Jvm.Cond := Jvm.Cond.code x code maxLocals ret :: tables_1
/-- a 'code' word, met by the world's own term for the bytes: nothing is compared byte by byte -/
theorem code_word {y : MethodName} {bytes : ByteArray} {mx : Nat} {rt : Option FieldType} {a : Array Value} {s : State} {m : MethodId} {meth : Method} {c : Code} (h1 : s.methodNamed? y = some m) (h2 : s.vm.method? m = some meth) (h3 : meth.code = some c) (h4 : c.code = bytes)
    (h5 : (c.maxLocals == mx && c.exceptionTable.isEmpty && decide (c.maxStack ≤ mostOperands) && decide (meth.sig.returnType = rt) && !meth.locks && decide (parseMethodDescriptor y.desc = some meth.sig)) = true) : (Jvm.Cond.code y bytes mx rt).before a s = true := by
  simp only [Bool.and_eq_true, beq_iff_eq, Bool.not_eq_true', decide_eq_true_eq] at h5
  obtain ⟨⟨⟨⟨⟨g1, g2⟩, g3⟩, g4⟩, g5⟩, g6⟩ := h5
  simp [Cond.before, Cond.holds, Cond.value, h1, h2, h3, h4, g1, g2, g3, g4, g5, g6]
def isCode : Jvm.Cond → Bool
  | .code _ _ _ _ => true
  | _ => false
theorem all_split {L : List Jvm.Cond} {P : Jvm.Cond → Bool} (h1 : L.all (fun c => isCode c || P c) = true) (h2 : ∀ c ∈ L.filter isCode, P c = true) : L.all P = true := by
  refine List.all_eq_true.mpr fun c hc => ?_
  have h := List.all_eq_true.mp h1 c hc
  rcases Bool.eq_false_or_eq_true (isCode c) with hi | hi
  · exact h2 c (List.mem_filter.mpr ⟨hc, hi⟩)
  · simpa [hi] using h
set_option maxRecDepth 65536 in
theorem w_c0 : (Jvm.Cond.code x code maxLocals ret).before args0 about1 = true := code_word (m := ⟨1, 1⟩) (meth := k1m1) (c := k1c1) (by decide +kernel) rfl rfl rfl (by decide +kernel)
set_option maxRecDepth 65536 in
theorem w_c1 : (Jvm.Cond.code ({ cls := "com/example/gridsmith/gridsmith/LongSet", name := "<init>", desc := "(I)V" } : Jvm.MethodName) prog_22_method_2_code (2 : Nat) (Option.none : Option Jvm.ClassFile.FieldType)).before args0 about1 = true := code_word (m := ⟨2, 1⟩) (meth := k2m1) (c := k2c1) (by decide +kernel) rfl rfl rfl (by decide +kernel)
set_option maxRecDepth 65536 in
theorem w_c2 : (Jvm.Cond.code ({ cls := "java/lang/Object", name := "<init>", desc := "()V" } : Jvm.MethodName) object_method_1_code (1 : Nat) (Option.none : Option Jvm.ClassFile.FieldType)).before args0 about1 = true := code_word (m := ⟨0, 0⟩) (meth := k0m0) (c := k0c0) (by decide +kernel) rfl rfl rfl (by decide +kernel)
set_option maxRecDepth 65536 in
theorem w_c3 : (Jvm.Cond.code ({ cls := "java/lang/Math", name := "max", desc := "(II)I" } : Jvm.MethodName) jdk_29_method_65_code (2 : Nat) (Option.some Jvm.ClassFile.FieldType.int)).before args0 about1 = true := code_word (m := ⟨3, 1⟩) (meth := k3m1) (c := k3c1) (by decide +kernel) rfl rfl rfl (by decide +kernel)
set_option maxRecDepth 65536 in
theorem w_c4 : (Jvm.Cond.code ({ cls := "java/lang/Integer", name := "highestOneBit", desc := "(I)I" } : Jvm.MethodName) jdk_33_method_45_code (1 : Nat) (Option.some Jvm.ClassFile.FieldType.int)).before args0 about1 = true := code_word (m := ⟨9, 0⟩) (meth := k9m0) (c := k9c0) (by decide +kernel) rfl rfl rfl (by decide +kernel)
set_option maxRecDepth 65536 in
theorem w_c5 : (Jvm.Cond.code ({ cls := "java/lang/Integer", name := "numberOfLeadingZeros", desc := "(I)I" } : Jvm.MethodName) jdk_33_method_47_code (2 : Nat) (Option.some Jvm.ClassFile.FieldType.int)).before args0 about1 = true := code_word (m := ⟨9, 1⟩) (meth := k9m1) (c := k9c1) (by decide +kernel) rfl rfl rfl (by decide +kernel)
set_option maxRecDepth 65536 in
theorem w_c6 : (Jvm.Cond.code ({ cls := "com/example/gridsmith/gridsmith/LongSet", name := "newTable", desc := "(I)[J" } : Jvm.MethodName) prog_22_method_10_code (2 : Nat) (Option.some (Jvm.ClassFile.FieldType.array Jvm.ClassFile.FieldType.long))).before args0 about1 = true := code_word (m := ⟨2, 6⟩) (meth := k2m6) (c := k2c6) (by decide +kernel) rfl rfl rfl (by decide +kernel)
set_option maxRecDepth 65536 in
theorem w_c7 : (Jvm.Cond.code ({ cls := "java/util/Arrays", name := "fill", desc := "([JJ)V" } : Jvm.MethodName) jdk_65_method_101_code (5 : Nat) (Option.none : Option Jvm.ClassFile.FieldType)).before args0 about1 = true := code_word (m := ⟨10, 1⟩) (meth := k10m1) (c := k10c1) (by decide +kernel) rfl rfl rfl (by decide +kernel)
set_option maxRecDepth 65536 in
theorem w_c8 : (Jvm.Cond.code ({ cls := "com/example/gridsmith/gridsmith/LongSet", name := "add", desc := "(J)Z" } : Jvm.MethodName) prog_22_method_3_code (4 : Nat) (Option.some Jvm.ClassFile.FieldType.boolean)).before args0 about1 = true := code_word (m := ⟨2, 2⟩) (meth := k2m2) (c := k2c2) (by decide +kernel) rfl rfl rfl (by decide +kernel)
set_option maxRecDepth 65536 in
theorem w_c9 : (Jvm.Cond.code ({ cls := "com/example/gridsmith/gridsmith/LongSet", name := "find", desc := "([JJ)I" } : Jvm.MethodName) prog_22_method_9_code (5 : Nat) (Option.some Jvm.ClassFile.FieldType.int)).before args0 about1 = true := code_word (m := ⟨2, 5⟩) (meth := k2m5) (c := k2c5) (by decide +kernel) rfl rfl rfl (by decide +kernel)
set_option maxRecDepth 65536 in
theorem w_c10 : (Jvm.Cond.code ({ cls := "java/lang/Integer", name := "numberOfTrailingZeros", desc := "(I)I" } : Jvm.MethodName) jdk_33_method_48_code (2 : Nat) (Option.some Jvm.ClassFile.FieldType.int)).before args0 about1 = true := code_word (m := ⟨9, 2⟩) (meth := k9m2) (c := k9c2) (by decide +kernel) rfl rfl rfl (by decide +kernel)
set_option maxRecDepth 65536 in
theorem w_c11 : (Jvm.Cond.code ({ cls := "com/example/gridsmith/gridsmith/LongSet", name := "toArray", desc := "()[J" } : Jvm.MethodName) prog_22_method_7_code (8 : Nat) (Option.some (Jvm.ClassFile.FieldType.array Jvm.ClassFile.FieldType.long))).before args0 about1 = true := code_word (m := ⟨2, 4⟩) (meth := k2m4) (c := k2c4) (by decide +kernel) rfl rfl rfl (by decide +kernel)
set_option maxRecDepth 65536 in
theorem w_c12 : (Jvm.Cond.code ({ cls := "com/example/gridsmith/gridsmith/LongSet", name := "size", desc := "()I" } : Jvm.MethodName) prog_22_method_5_code (1 : Nat) (Option.some Jvm.ClassFile.FieldType.int)).before args0 about1 = true := code_word (m := ⟨2, 3⟩) (meth := k2m3) (c := k2c3) (by decide +kernel) rfl rfl rfl (by decide +kernel)
set_option maxRecDepth 65536 in
theorem w_c13 : (Jvm.Cond.code ({ cls := "com/example/gridsmith/gridsmith/LongSetToArrayPinLaw", name := "has", desc := "([JJ)Z" } : Jvm.MethodName) method_3_code (3 : Nat) (Option.some Jvm.ClassFile.FieldType.boolean)).before args0 about1 = true := code_word (m := ⟨1, 2⟩) (meth := k1m2) (c := k1c2) (by decide +kernel) rfl rfl rfl (by decide +kernel)
set_option maxRecDepth 65536 in
theorem w_c14 : (Jvm.Cond.code ({ cls := "com/example/gridsmith/gridsmith/LongSetToArrayPinLaw", name := "among", desc := "([JIJ)Z" } : Jvm.MethodName) method_4_code (4 : Nat) (Option.some Jvm.ClassFile.FieldType.boolean)).before args0 about1 = true := code_word (m := ⟨1, 3⟩) (meth := k1m3) (c := k1c3) (by decide +kernel) rfl rfl rfl (by decide +kernel)
set_option maxRecDepth 65536 in
theorem w_c15 : (Jvm.Cond.code ({ cls := "com/example/gridsmith/gridsmith/LongSetToArrayPinLaw", name := "allDistinct", desc := "([J)Z" } : Jvm.MethodName) method_5_code (2 : Nat) (Option.some Jvm.ClassFile.FieldType.boolean)).before args0 about1 = true := code_word (m := ⟨1, 4⟩) (meth := k1m4) (c := k1c4) (by decide +kernel) rfl rfl rfl (by decide +kernel)
def codes1 : List Jvm.Cond := [Jvm.Cond.code x code maxLocals ret, Jvm.Cond.code ({ cls := "com/example/gridsmith/gridsmith/LongSet", name := "<init>", desc := "(I)V" } : Jvm.MethodName) prog_22_method_2_code (2 : Nat) (Option.none : Option Jvm.ClassFile.FieldType), Jvm.Cond.code ({ cls := "java/lang/Object", name := "<init>", desc := "()V" } : Jvm.MethodName) object_method_1_code (1 : Nat) (Option.none : Option Jvm.ClassFile.FieldType), Jvm.Cond.code ({ cls := "java/lang/Math", name := "max", desc := "(II)I" } : Jvm.MethodName) jdk_29_method_65_code (2 : Nat) (Option.some Jvm.ClassFile.FieldType.int), Jvm.Cond.code ({ cls := "java/lang/Integer", name := "highestOneBit", desc := "(I)I" } : Jvm.MethodName) jdk_33_method_45_code (1 : Nat) (Option.some Jvm.ClassFile.FieldType.int), Jvm.Cond.code ({ cls := "java/lang/Integer", name := "numberOfLeadingZeros", desc := "(I)I" } : Jvm.MethodName) jdk_33_method_47_code (2 : Nat) (Option.some Jvm.ClassFile.FieldType.int), Jvm.Cond.code ({ cls := "com/example/gridsmith/gridsmith/LongSet", name := "newTable", desc := "(I)[J" } : Jvm.MethodName) prog_22_method_10_code (2 : Nat) (Option.some (Jvm.ClassFile.FieldType.array Jvm.ClassFile.FieldType.long)), Jvm.Cond.code ({ cls := "java/util/Arrays", name := "fill", desc := "([JJ)V" } : Jvm.MethodName) jdk_65_method_101_code (5 : Nat) (Option.none : Option Jvm.ClassFile.FieldType), Jvm.Cond.code ({ cls := "com/example/gridsmith/gridsmith/LongSet", name := "add", desc := "(J)Z" } : Jvm.MethodName) prog_22_method_3_code (4 : Nat) (Option.some Jvm.ClassFile.FieldType.boolean), Jvm.Cond.code ({ cls := "com/example/gridsmith/gridsmith/LongSet", name := "find", desc := "([JJ)I" } : Jvm.MethodName) prog_22_method_9_code (5 : Nat) (Option.some Jvm.ClassFile.FieldType.int), Jvm.Cond.code ({ cls := "java/lang/Integer", name := "numberOfTrailingZeros", desc := "(I)I" } : Jvm.MethodName) jdk_33_method_48_code (2 : Nat) (Option.some Jvm.ClassFile.FieldType.int), Jvm.Cond.code ({ cls := "com/example/gridsmith/gridsmith/LongSet", name := "toArray", desc := "()[J" } : Jvm.MethodName) prog_22_method_7_code (8 : Nat) (Option.some (Jvm.ClassFile.FieldType.array Jvm.ClassFile.FieldType.long)), Jvm.Cond.code ({ cls := "com/example/gridsmith/gridsmith/LongSet", name := "size", desc := "()I" } : Jvm.MethodName) prog_22_method_5_code (1 : Nat) (Option.some Jvm.ClassFile.FieldType.int), Jvm.Cond.code ({ cls := "com/example/gridsmith/gridsmith/LongSetToArrayPinLaw", name := "has", desc := "([JJ)Z" } : Jvm.MethodName) method_3_code (3 : Nat) (Option.some Jvm.ClassFile.FieldType.boolean), Jvm.Cond.code ({ cls := "com/example/gridsmith/gridsmith/LongSetToArrayPinLaw", name := "among", desc := "([JIJ)Z" } : Jvm.MethodName) method_4_code (4 : Nat) (Option.some Jvm.ClassFile.FieldType.boolean), Jvm.Cond.code ({ cls := "com/example/gridsmith/gridsmith/LongSetToArrayPinLaw", name := "allDistinct", desc := "([J)Z" } : Jvm.MethodName) method_5_code (2 : Nat) (Option.some Jvm.ClassFile.FieldType.boolean)]
set_option maxRecDepth 65536 in
theorem codes_eq : words1.filter isCode = codes1 := rfl
theorem w_codes : ∀ c ∈ words1.filter isCode, c.before args0 about1 = true := by
  rw [codes_eq]
  intro c hc
  simp only [codes1, List.mem_cons, List.not_mem_nil, or_false] at hc
  rcases hc with rfl | rfl | rfl | rfl | rfl | rfl | rfl | rfl | rfl | rfl | rfl | rfl | rfl | rfl | rfl | rfl
  · exact w_c0
  · exact w_c1
  · exact w_c2
  · exact w_c3
  · exact w_c4
  · exact w_c5
  · exact w_c6
  · exact w_c7
  · exact w_c8
  · exact w_c9
  · exact w_c10
  · exact w_c11
  · exact w_c12
  · exact w_c13
  · exact w_c14
  · exact w_c15
set_option maxRecDepth 65536 in
theorem w_t1 : (words1.take 24).all (fun c => isCode c || c.before args0 about1) = true := by decide +kernel
set_option maxRecDepth 65536 in
theorem w_t2 : ((words1.drop 24).take 24).all (fun c => isCode c || c.before args0 about1) = true := by decide +kernel
set_option maxRecDepth 65536 in
theorem w_t3 : ((words1.drop 24).drop 24).all (fun c => isCode c || c.before args0 about1) = true := by decide +kernel
theorem w_tables : (allAtoms (Jvm.Cond.code x code maxLocals ret :: tables_1)).before args0 about1 = true := by
  rw [allAtoms_all]
  show words1.all (fun c => c.before args0 about1) = true
  refine all_split ?_ w_codes
  rw [← List.take_append_drop 24 words1, List.all_append, w_t1, ← List.take_append_drop 24 (words1.drop 24), List.all_append, w_t2, w_t3]
  rfl
set_option maxRecDepth 65536 in
theorem w_case : (Jvm.Cond.and given_1 narrow_1).before args0 about1 = true := by decide +kernel
theorem w_applies : (headSpec (Jvm.Cond.code x code maxLocals ret :: tables_1) room_1).applies x e0.platform about1 = true :=
  (Spec.applies_iff w_frames).mpr ⟨w_running, w_runnable, w_alone, w_named, w_hears, w_ripe, w_room, w_tables⟩
theorem atStart : AtStart classFile x code maxLocals ret World_1 tables_1 room_1 Calls_1 rest_1 Pre_1 launch0 p0 e0 about1 theMethod args0 below0 :=
  ⟨lists_1, trivial, launch0.admits_env _ _ _, launch0.least_env, fairChoices_fair.cas, fairChoices_fair.clock, w_frames, w_args, w_heap, w_applies, trivial, trivial, w_case⟩
end start1
theorem witness_1 : WitnessClaimed_1 := ⟨start1.p0, start1.e0, start1.about1, start1.theMethod, start1.args0, start1.below0, start1.atStart⟩
end Jvm.Pilot.@@N@@
